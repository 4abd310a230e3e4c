import Derived.Test.YbulkchuuGreatDoorB1
import Derived.Deep.RegionLaw
namespace Go.Proofs.YbulkchuuGreatDoor
open Go.RowKit Go.Maps
set_option linter.unusedVariables false
set_option linter.unusedSimpArgs false
set_option maxRecDepth 100000

theorem step_append_eq {P : Program} {ops : Array Oper} {o : Oper} {a : Act} {w : World} {K : Act → World → Prop} {Q : Exit → Act → World → Prop} {E : Prop}
    (hg : o.guard = none) (s x : Operand) (t : TypeId) (hop : o.op = Op.call { callee := Callee.builtin Builtin.append, args := #[s, x], argTypes := #[t, t] })
    {u y v' : Value} {w' : World} (hs : a.eval s = u) (hx : a.eval x = y) (hrun : (Builtin.append_ #[t, t] o.type #[u, y]).run P w = .ok v' w') (hK : K (a.put o.dst v') w') :
    if Region.wanted o (yielded ops a.tmps) = true then Oper.wp P o a w K Q else E := by
  have hw : Region.wanted o (yielded ops a.tmps) = true := by simp [Region.wanted, hg]
  rw [if_pos hw]
  unfold Oper.wp
  simp [execOp, hop, resolve, invoke, builtin, hs, hx, hrun, Result.andThen]
  exact hK
theorem info136 : (Ybaz.prog.info? 136).map (fun i => (i.zero, i.size, i.bytes)) = some (some (.agg #[.int .u8 0, .string ⟨#[]⟩, .int .i32 0, .bool false, .int .u8 0, .int .i64 0, .string ⟨#[]⟩]), 7, 56) := by kernel_rfl
theorem info77 : (Ybaz.prog.info? 77).map (fun i => (i.zero, i.size, i.bytes)) = some (some (.slice none 0 0), 1, 24) := by kernel_rfl
def fileCells (rb : Nat) (nm li wi : Value) : Array Value := #[.string ⟨#[]⟩, .map (some rb), .map none, .map none, nm, li, wi, .slice none 0 0, .slice none 0 0, .slice none 0 0, .int .i64 0, .slice none 0 0, .slice none 0 0, .pointer none, .int .u64 0, .pointer none, .int .u64 0, .nilFunc, .map none, .int .i32 0, .int .u32 0]
/-- the rules of the repositories 0 .. k-1 -/
def RSound (Lo : Nat) (D : DIn) (k : Nat) (Dm : DataW Value) (w : World) : Prop :=
  (∀ kl, Maps.has Dm kl = true → ∃ r p q, keyOf Ybaz.prog 125 (rkey r p) = some kl ∧ (∀ z, Dm.atKey kl z = .held (.pointer (some ⟨q, 0, none⟩))) ∧ (∃ j, j < k ∧ r = D.repo j) ∧ Lo ≤ q ∧ w.cell? ⟨q, 7, none⟩ = some (.slice none 0 0)) ∧
  ∀ j, j < k → ∃ p kl, keyOf Ybaz.prog 125 (rkey (D.repo j) p) = some kl ∧ Maps.has Dm kl = true
theorem grown_cell {w w' : World} {row : Option Nat} (hg : w.grownBy w' row) {q j : Nat} {v : Value} (h : w.cell? ⟨q, j, none⟩ = some v) (hr : some q ≠ row) : w'.cell? ⟨q, j, none⟩ = some v :=
  (cell_eq (hg.block q (World.block_lt_of_cell? w _ h) hr) j).trans h
theorem grown_drew {w w' : World} {row : Option Nat} (h : w.grownBy w' row) : w.grownBy w'.drew row := ⟨h.os, h.tape, h.output, h.size, h.block⟩
theorem grown_of_below {w w' : World} (h : Below w.heap.size w w') (row : Option Nat) : w.grownBy w' row := ⟨h.os, h.tape, h.output, h.size, fun i hi _ => h.block i hi⟩
theorem map_no_cell {w : World} {b j : Nat} {v : Value} {es : Array MapEntry} {c : Nat} (h : w.heap[b]? = some (.map es c)) : w.cell? ⟨b, j, none⟩ ≠ some v := by
  simp [World.cell?, h]
theorem own_no_cell {w : World} {P : Program} {K : TypeId} {R : Value → Option (DataW Value × List MemPlace)} {b n j : Nat} {Dm : DataW Value} {v : Value} (h : w.ownsMap P K R b n Dm) : w.cell? ⟨b, j, none⟩ ≠ some v := by
  obtain ⟨es, c, hb, _⟩ := h
  exact map_no_cell hb
theorem RSound.put {Lo : Nat} {D : DIn} {k rb n : Nat} {Dm : DataW Value} {w w' : World} {p : ByteArray} {kl : Lit} {q : Nat} (h : RSound Lo D k Dm w) (ho : w.ownsMap Ybaz.prog 125 Rh rb n Dm) (hg : w.grownBy w' (some rb)) (hk : keyOf Ybaz.prog 125 (rkey (D.repo k) p) = some kl) (hLo : Lo ≤ q) (hq : w'.cell? ⟨q, 7, none⟩ = some (.slice none 0 0)) :
    RSound Lo D (k + 1) (Dm.put kl (.held (.pointer (some ⟨q, 0, none⟩)))) w' := by
  have hkey := law125.key hk
  refine ⟨fun kl' hh => ?_, fun j hj => ?_⟩
  · by_cases e : kl' = kl
    · subst e
      exact ⟨D.repo k, p, q, hk, fun z => atKey_put_same ho.isMap hkey _ z, ⟨k, by omega, rfl⟩, hLo, hq⟩
    · rw [has_put_other e] at hh
      obtain ⟨r, p', q', h1, h2, ⟨j, hj, h3⟩, hl, h4⟩ := h.1 kl' hh
      exact ⟨r, p', q', h1, fun z => by rw [atKey_put_other e]; exact h2 z, ⟨j, by omega, h3⟩, hl, grown_cell hg h4 (fun e => by injection e with e; subst e; exact own_no_cell ho h4)⟩
  · by_cases e : j = k
    · subst e
      exact ⟨p, kl, hk, has_put_same ho.isMap hkey _⟩
    · obtain ⟨p', kl', h1, h2⟩ := h.2 j (by omega)
      refine ⟨p', kl', h1, ?_⟩
      by_cases e2 : kl' = kl
      · subst e2; exact has_put_same ho.isMap hkey _
      · rw [has_put_other e2]; exact h2
def ent (kd : Int) (nm : ByteArray) (g : Int) : List Value := [.int .u8 kd, .string nm, .int .i32 g, .bool false, .int .u8 0, .int .i64 0, .string ⟨#[]⟩]
def userEnts (D : DIn) (j : Nat) : List Value := (List.range j).flatMap (fun i => ent 3 (D.user i) 0)
def groupEnts (D : DIn) (j : Nat) : List Value := (List.range j).flatMap (fun i => ent 4 ⟨#[103]⟩ (D.grp i % D.n))
theorem userEnts_succ (D : DIn) (j : Nat) : userEnts D (j + 1) = userEnts D j ++ ent 3 (D.user j) 0 := by simp [userEnts, List.range_succ]
theorem groupEnts_succ (D : DIn) (j : Nat) : groupEnts D (j + 1) = groupEnts D j ++ ent 4 ⟨#[103]⟩ (D.grp j % D.n) := by simp [groupEnts, List.range_succ]
def allEnts (D : DIn) : List Value := userEnts D D.un ++ (if 0 < D.n then groupEnts D D.gn else [])
def nEnts (D : DIn) : Nat := D.un + if 0 < D.n then D.gn else 0
theorem RSound.grown {Lo : Nat} {D : DIn} {k rb n : Nat} {Dm : DataW Value} {w w' : World} (h : RSound Lo D k Dm w) (ho : w.ownsMap Ybaz.prog 125 Rh rb n Dm) (hg : w.grownBy w' none) : RSound Lo D k Dm w' :=
  ⟨fun kl hh => by
    obtain ⟨r, p', q', h1, h2, h3, hl, h4⟩ := h.1 kl hh
    exact ⟨r, p', q', h1, h2, h3, hl, grown_cell hg h4 (by simp)⟩, h.2⟩
def EntRow (Lo Bd : Nat) (ea : Option Addr) (D : DIn) (w : World) : Prop := ∀ t u, (allEnts D)[t]? = some u → ∃ bb, ea = some ⟨bb, 0, none⟩ ∧ Lo ≤ bb ∧ bb < Bd ∧ w.cell? ⟨bb, t, none⟩ = some u
/-- the rules of a built file -/
def RulesIn (Lo Bd : Nat) (D : DIn) (Dm : DataW Value) (w : World) : Prop := ∃ ea ec, EntRow Lo Bd ea D w ∧
  (∀ kl, Maps.has Dm kl = true → ∃ r p q, keyOf Ybaz.prog 125 (rkey r p) = some kl ∧ (∀ z, Dm.atKey kl z = .held (.pointer (some ⟨q, 0, none⟩))) ∧ (r = ⟨#[]⟩ ∨ ∃ j, j < D.rn ∧ r = D.repo j) ∧ Lo ≤ q ∧ q < Bd ∧ (w.cell? ⟨q, 7, none⟩ = some (.slice none 0 0) ∨ w.cell? ⟨q, 7, none⟩ = some (.slice ea (nEnts D) ec))) ∧
  (∀ j, j < D.rn → ∃ p kl, keyOf Ybaz.prog 125 (rkey (D.repo j) p) = some kl ∧ Maps.has Dm kl = true) ∧
  ∃ p q kl, keyOf Ybaz.prog 125 (rkey ⟨#[]⟩ p) = some kl ∧ Maps.has Dm kl = true ∧ (∀ z, Dm.atKey kl z = .held (.pointer (some ⟨q, 0, none⟩))) ∧ Lo ≤ q ∧ q < Bd ∧ w.cell? ⟨q, 7, none⟩ = some (.slice ea (nEnts D) ec)
theorem EntRow.keep {Lo Bd Lo' Bd' : Nat} {ea : Option Addr} {D : DIn} {w w' : World} (h : EntRow Lo Bd ea D w) (hL : Lo' ≤ Lo) (hB : Bd ≤ Bd') (hk : ∀ k, Lo ≤ k → k < Bd → w'.heap[k]? = w.heap[k]?) : EntRow Lo' Bd' ea D w' := fun t u ht => by
  obtain ⟨bb, e, h1, h2, h3⟩ := h t u ht
  exact ⟨bb, e, by omega, by omega, (cell_eq (hk bb h1 h2) t).trans h3⟩
theorem RulesIn.keep {Lo Bd Lo' Bd' : Nat} {D : DIn} {Dm : DataW Value} {w w' : World} (h : RulesIn Lo Bd D Dm w) (hL : Lo' ≤ Lo) (hB : Bd ≤ Bd') (hk : ∀ k, Lo ≤ k → k < Bd → w'.heap[k]? = w.heap[k]?) : RulesIn Lo' Bd' D Dm w' := by
  obtain ⟨ea, ec, h0, h1, h2, p, q, kl, k1, k2, k3, k4, k5, k6⟩ := h
  refine ⟨ea, ec, h0.keep hL hB hk, fun kl hh => ?_, h2, p, q, kl, k1, k2, k3, by omega, by omega, (cell_eq (hk q k4 k5) 7).trans k6⟩
  obtain ⟨r, p, q, a1, a2, a3, a4, a5, a6⟩ := h1 kl hh
  exact ⟨r, p, q, a1, a2, a3, by omega, by omega, a6.elim (fun h => .inl ((cell_eq (hk q a4 a5) 7).trans h)) (fun h => .inr ((cell_eq (hk q a4 a5) 7).trans h))⟩
theorem RSound.all {Lo : Nat} {D : DIn} {rb n : Nat} {Dm : DataW Value} {w w' : World} {p : ByteArray} {kl : Lit} {q ec : Nat} {ea : Option Addr} (h : RSound Lo D D.rn Dm w) (ho : w.ownsMap Ybaz.prog 125 Rh rb n Dm) (hg : w.grownBy w' (some rb)) (hk : keyOf Ybaz.prog 125 (rkey ⟨#[]⟩ p) = some kl) (hLo : Lo ≤ q) (hq : w'.cell? ⟨q, 7, none⟩ = some (.slice ea (nEnts D) ec)) (hE : EntRow Lo w'.heap.size ea D w') :
    RulesIn Lo w'.heap.size D (Dm.put kl (.held (.pointer (some ⟨q, 0, none⟩)))) w' := by
  have hkey := law125.key hk
  refine ⟨ea, ec, hE, fun kl' hh => ?_, fun j hj => ?_, p, q, kl, hk, has_put_same ho.isMap hkey _, fun z => atKey_put_same ho.isMap hkey _ z, hLo, World.block_lt_of_cell? _ _ hq, hq⟩
  · by_cases e : kl' = kl
    · subst e
      exact ⟨_, p, q, hk, fun z => atKey_put_same ho.isMap hkey _ z, .inl rfl, hLo, World.block_lt_of_cell? _ _ hq, .inr hq⟩
    · rw [has_put_other e] at hh
      obtain ⟨r, p', q', h1, h2, h3, hl, h4⟩ := h.1 kl' hh
      have h5 := grown_cell hg h4 (fun e => by injection e with e; subst e; exact own_no_cell ho h4)
      exact ⟨r, p', q', h1, fun z => by rw [atKey_put_other e]; exact h2 z, .inr h3, hl, World.block_lt_of_cell? _ _ h5, .inl h5⟩
  · obtain ⟨p', kl', h1, h2⟩ := h.2 j hj
    refine ⟨p', kl', h1, ?_⟩
    by_cases e2 : kl' = kl
    · subst e2; exact has_put_same ho.isMap hkey _
    · rw [has_put_other e2]; exact h2
theorem own_entRow {Lo : Nat} {D : DIn} {ea : Option Addr} {ec n : Nat} {w : World} (h : w.ownsRow Lo 136 7 (.slice ea n ec) n (allEnts D)) : EntRow Lo w.heap.size ea D w := fun t u ht => by
  rcases h.2 with ⟨e, h0⟩ | ⟨g, cap, cur, e, h1, h2, h3, h4, h5, h6⟩
  · have := h.1
    rw [h0] at this
    have hnil : allEnts D = [] := List.length_eq_zero_iff.1 (by simpa using this)
    rw [hnil] at ht
    simp at ht
  · injection e with e1
    refine ⟨g, e1, h1, heap_lt h2, ?_⟩
    rw [cell_of h2]
    rw [← h6, List.getElem?_take] at ht
    split at ht
    · simpa using ht
    · cases ht
def withinOf (D : DIn) (g : Nat) : List Int := if g < D.wn then (List.range (D.wgn g)).map (fun i => D.wg g i % D.n) else []
def ReadL (Lo Hi : Nat) (a : Option Addr) (xs : List Int) (w : World) : Prop := ∀ k x, xs[k]? = some x → ∃ bb off, a = some ⟨bb, off, none⟩ ∧ Lo ≤ bb ∧ bb < Hi ∧ w.cell? ⟨bb, off + k, none⟩ = some (.int .i32 x)
theorem ReadL.keep {Lo Hi Lo' Hi' : Nat} {a : Option Addr} {xs : List Int} {w w' : World} (h : ReadL Lo Hi a xs w) (hL : Lo' ≤ Lo) (hH : Hi ≤ Hi') (hk : ∀ k, Lo ≤ k → k < Hi → w'.heap[k]? = w.heap[k]?) : ReadL Lo' Hi' a xs w' := fun k x hx => by
  obtain ⟨bb, off, e, h1, h2, h3⟩ := h k x hx
  exact ⟨bb, off, e, by omega, by omega, (cell_eq (hk bb h1 h2) _).trans h3⟩
theorem own_readL {Lo : Nat} {v : Value} {xs : List Int} {w : World} (h : w.ownsRow Lo 21 1 v xs.length (I32s xs)) : ∃ A C, v = .slice A xs.length C ∧ ReadL Lo w.heap.size A xs w := by
  rcases h.2 with ⟨e, h0⟩ | ⟨g, cap, cur, e, h1, h2, h3, h4, h5, h6⟩
  · refine ⟨none, 0, by rw [h0]; exact e, fun k x hx => ?_⟩
    rw [List.length_eq_zero_iff.1 h0] at hx
    simp at hx
  · refine ⟨_, _, e, fun k x hx => ⟨g, 0, rfl, h1, heap_lt h2, ?_⟩⟩
    rw [cell_of h2]
    have hk : k < xs.length := (List.getElem?_eq_some_iff.1 hx).1
    have : (I32s xs)[k]? = some (.int .i32 x) := by simp [I32s, hx]
    rw [← h6, List.getElem?_take, if_pos (by omega)] at this
    simpa using this
/-- the nested groups of 0 .. k-1 are laid -/
def WRows (wb N k : Nat) (D : DIn) (w : World) : Prop := ∃ cur, w.heap[wb]? = some (.cells cur 77 (0, 0)) ∧ cur.size = N ∧
  (∀ i, i < k → i < N → ∃ A C, cur[i]? = some (.slice A (withinOf D i).length C) ∧ ReadL (wb + 1) w.heap.size A (withinOf D i) w) ∧ ∀ i, k ≤ i → i < N → cur[i]? = some (.slice none 0 0)
theorem own_within {w : World} {B g n : Nat} {D : DIn} (h : w.ownsRow B 77 1 (.slice (some ⟨g, 0, none⟩) n n) n (madeCells #[.slice none 0 0] n).toList) : WRows g n 0 D w := by
  rcases h.2 with ⟨h, _⟩ | ⟨g', cap, cur, h, _, hg, _, _, hs, ht⟩
  · cases h
  · injection h with e1 e2 e3
    injection e1 with e1
    injection e1 with e1
    subst e1 e3
    refine ⟨cur, hg, by omega, fun i hi => by omega, fun i _ hi => ?_⟩
    have : (cur.toList.take (n * 1))[i]? = some (.slice none 0 0) := by rw [ht]; simp [madeCells, hi, Nat.mod_one]
    rw [List.getElem?_take, if_pos (by omega)] at this
    simpa using this
def wTo (D : DIn) (g j : Nat) : List Int := (List.range j).map (fun i => D.wg g i % D.n)
theorem wTo_succ (D : DIn) (g j : Nat) : I32s (wTo D g (j + 1)) = I32s (wTo D g j) ++ [.int .i32 (D.wg g j % D.n)] := by simp [wTo, List.range_succ]
/-- the row of group g on its way -/
def WIn (wq : World) (wb g : Nat) (cur : Array Value) (D : DIn) (j : Nat) (wr : World) : Prop := wq.grownBy wr (some wb) ∧ ∃ v, wr.heap[wb]? = some (.cells (cur.setIfInBounds g v) 77 (0, 0)) ∧ wr.ownsRow wq.heap.size 21 1 v j (I32s (wTo D g j))
theorem set_same {cur : Array Value} {g : Nat} {v : Value} (h : cur[g]? = some v) : cur.setIfInBounds g v = cur := by
  apply Array.ext_getElem?
  intro i
  rw [Array.getElem?_setIfInBounds]
  split
  · rename_i e; subst e
    obtain ⟨hl, _⟩ := Array.getElem?_eq_some_iff.1 h
    rw [if_pos hl, h]
  · rfl
theorem WIn.start {wq : World} {wb g : Nat} {cur : Array Value} {D : DIn} (hc : wq.heap[wb]? = some (.cells cur 77 (0, 0))) (hg : cur[g]? = some (.slice none 0 0)) : WIn wq wb g cur D 0 wq :=
  ⟨⟨rfl, rfl, rfl, Nat.le_refl _, fun _ _ _ => rfl⟩, .slice none 0 0, by rw [set_same hg]; exact hc, World.ownsRow_nil _ _ _ _⟩
theorem WIn.step {wq wp w' : World} {wb g N j gv : Nat} {cur : Array Value} {D : DIn} {va va' : Option Addr} {vc vc' : Nat} {o : Obj} (hwb : wb < wq.heap.size) (hG : wq.grownBy wp (some wb)) (hO : wp.ownsRow wq.heap.size 21 1 (.slice va j vc) j (I32s (wTo D g j)))
    (hb' : w'.heap[wb]? = some (.cells (cur.setIfInBounds g (.slice va j vc)) 77 (0, 0))) (hO' : w'.ownsRow wq.heap.size 21 1 (.slice va' (j + 1) vc') (j + 1) (I32s (wTo D g j) ++ [.int .i32 ((gv : Int) % N)]))
    (hG' : (wp.alloc o).drew.grownBy w' (Value.slice va j vc).ownBlock) (hgv : D.wg g j = (gv : Int)) (hN : D.n = (N : Int)) : WIn wq wb g cur D (j + 1) (w'.setCell ⟨wb, g, none⟩ (.slice va' (j + 1) vc')) := by
  have hsz := hG.size
  have hsz' : wp.heap.size < w'.heap.size := by
    have := hG'.size
    have e : (wp.alloc o).drew.heap.size = wp.heap.size + 1 := by show (wp.alloc o).heap.size = _; simp
    omega
  refine ⟨⟨hG'.os.trans hG.os, hG'.tape.trans hG.tape, hG'.output.trans hG.output, by simp [World.setCell]; omega, fun i hi hne => ?_⟩, .slice va' (j + 1) vc', ?_, ?_⟩
  · rw [Below.heap_setCell _ _ _ _ (by simpa using fun e => hne (by rw [e])), hG'.block i (by show i < (wp.alloc o).heap.size; simp; omega) (fun e => by have := (hO.lt i e.symm).1; omega)]
    show (wp.alloc o).heap[i]? = _
    rw [Below.heap_alloc _ _ _ (by omega)]
    exact hG.block i hi hne
  · rw [heap_set hb']
    simp
  · rw [wTo_succ, hgv, hN]
    exact own_move hO' (fun k hk _ => Below.heap_setCell _ _ _ _ (by have := (hO'.lt k hk).1; simp; omega))
theorem WRows.skip {wb N g : Nat} {D : DIn} {w : World} (h : WRows wb N g D w) (hg : D.wn ≤ g) : WRows wb N (g + 1) D w := by
  obtain ⟨cur, h1, h2, h3, h4⟩ := h
  refine ⟨cur, h1, h2, fun i hi hN => ?_, fun i hi => h4 i (by omega)⟩
  by_cases e : i = g
  · subst e
    have ew : withinOf D i = [] := by unfold withinOf; rw [if_neg (by omega)]
    exact ⟨none, 0, by rw [ew]; exact h4 i (Nat.le_refl _) hN, by rw [ew]; exact fun k x hx => by simp at hx⟩
  · exact h3 i (by omega) hN
theorem WIn.done {wq wr : World} {wb N g : Nat} {D : DIn} {cur : Array Value} (hc : cur.size = N) (hwb : wb < wq.heap.size) (h3 : ∀ i, i < g → i < N → ∃ A C, cur[i]? = some (.slice A (withinOf D i).length C) ∧ ReadL (wb + 1) wq.heap.size A (withinOf D i) wq) (h4 : ∀ i, g ≤ i → i < N → cur[i]? = some (.slice none 0 0))
    (h : WIn wq wb g cur D (D.wgn g) wr) (hg : g < D.wn) : WRows wb N (g + 1) D wr := by
  obtain ⟨hG, v, hb, hO⟩ := h
  refine ⟨_, hb, by simpa using hc, fun i hi hN => ?_, fun i hi hN => ?_⟩
  · by_cases e : i = g
    · subst e
      have ew : withinOf D i = wTo D i (D.wgn i) := by unfold withinOf wTo; rw [if_pos hg]
      have hlen : (wTo D i (D.wgn i)).length = D.wgn i := by simp [wTo]
      rw [← hlen] at hO
      obtain ⟨A, C, rfl, hR⟩ := own_readL (xs := wTo D i (D.wgn i)) (by simpa [hlen] using hO)
      refine ⟨A, C, ?_, ?_⟩
      · rw [ew]; simp [hc, hN]
      · rw [ew]; exact hR.keep (by omega) (Nat.le_refl _) (fun _ _ _ => rfl)
    · obtain ⟨A, C, h5, h6⟩ := h3 i (by omega) hN
      refine ⟨A, C, by rw [Array.getElem?_setIfInBounds, if_neg (fun e' => e e'.symm)]; exact h5, h6.keep (Nat.le_refl _) hG.size (fun k k1 k2 => hG.block k k2 (by simp; omega))⟩
  · rw [Array.getElem?_setIfInBounds, if_neg (by omega)]
    exact h4 i (by omega) hN
theorem clone27 (Bd : Nat) (a : Option Addr) (n c : Nat) (f : Nat → ByteArray) (w : World) (hn : n ≤ 300) (h : StrRow Bd a n f w) :
    Calls Ybaz.prog 27 #[.slice a n c] w fun e w' => ∃ a' c', e = .returned (.slice a' n c') ∧ StrRow w'.heap.size a' n f w' ∧ Below w.heap.size w w' ∧ (∀ j, j < n → ∀ bb off, a' = some ⟨bb, off, none⟩ → w.heap.size ≤ bb) := by
  rcases Nat.eq_zero_or_pos n with rfl | hpos
  · cases a with
    | none =>
      refine (Ybaz.slices_Clone_string_nil 0 c w).mono ?_
      rintro e w' ⟨rfl, rfl⟩
      exact ⟨_, _, rfl, fun j hj => by omega, Below.refl _ _, fun j hj => by omega⟩
    | some a =>
      refine (Ybaz.slices_Clone_string_zero a c w).mono ?_
      rintro e w' ⟨v, rfl, ho, _, hb⟩
      obtain ⟨ao, c', rfl⟩ := own_slice' ho
      exact ⟨_, _, rfl, fun j hj => by omega, hb, fun j hj => by omega⟩
  · obtain ⟨bb, off, rfl, hbb, _⟩ := h 0 hpos
    have hc : ∀ j, j < ((List.range n).map f).length → w.cell? ⟨bb, off + j, none⟩ = some (.string (((List.range n).map f).getD j ByteArray.empty)) := fun j hj => by
      have hj' : j < n := by simpa using hj
      obtain ⟨b2, o2, e, _, hc, _⟩ := h j hj'
      injection e with e; injection e with e1 e2
      subst e1 e2
      simpa [hj'] using hc
    refine (Ybaz.slices_Clone_string bb off n c ((List.range n).map f) w (by simp) (by omega) hc).mono ?_
    rintro e w' ⟨v, rfl, ho, _, hb⟩
    rcases ho.2 with ⟨_, h0⟩ | ⟨g, cap, cur, rfl, h1, h2, h3, h4, h5, h6⟩
    · omega
    · refine ⟨_, _, rfl, fun j hj => ⟨g, 0, rfl, heap_lt h2, ?_, ?_⟩, hb, fun j hj bb off e => by injection e with e; injection e with e; omega⟩
      · rw [cell_of h2]
        have : (cur.toList.take (n * 1))[j]? = some (.string (f j)) := by rw [h6]; simp [hj]
        rw [List.getElem?_take, if_pos (by omega)] at this
        simpa using this
      · obtain ⟨_, _, _, _, _, hs⟩ := h j hj; exact hs

def gTo (D : DIn) (k j : Nat) : List Int := (List.range j).map (fun i => D.lg k i % D.n)
theorem gTo_succ (D : DIn) (g j : Nat) : I32s (gTo D g (j + 1)) = I32s (gTo D g j) ++ [.int .i32 (D.lg g j % D.n)] := by simp [gTo, List.range_succ]
def lstTo (D : DIn) : Nat → ByteArray → List Int
  | 0, _ => []
  | k + 1, u => if D.lu k = u then gTo D k (D.lgn k) else lstTo D k u
def listOf (D : DIn) (u : ByteArray) : List Int := if 0 < D.n then lstTo D D.ln u else []
def LRows (lb : Nat) (f : ByteArray → List Int) (Dl : DataW Value) (w : World) : Prop := ∀ u : ByteArray, u.size ≤ maxLen → ∃ A C, Dl.atKey (.string u.data.toList) (.held (.slice none 0 0)) = .held (.slice A (f u).length C) ∧ ReadL (lb + 1) w.heap.size A (f u) w
theorem LRows.start (lb : Nat) (w : World) : LRows lb (fun _ => []) (.map []) w := fun u hu => ⟨none, 0, by simp [DataW.atKey], fun k x hx => by simp at hx⟩
theorem LRows.put {lb k n : Nat} {D : DIn} {Dl : DataW Value} {w w' : World} {v : Value} (h : LRows lb (lstTo D k) Dl w) (ho : w.ownsMap Ybaz.prog 9 Rh lb n Dl) (hs : (D.lu k).size ≤ maxLen) (hk : ∀ j, j < w.heap.size → j ≠ lb → w'.heap[j]? = w.heap[j]?) (hsz : w.heap.size ≤ w'.heap.size)
    (hv : w'.ownsRow w.heap.size 21 1 v (D.lgn k) (I32s (gTo D k (D.lgn k)))) : LRows lb (lstTo D (k + 1)) (Dl.put (.string (D.lu k).data.toList) (.held v)) w' := by
  intro u hu
  have hlb := ho.lt
  by_cases e : D.lu k = u
  · subst e
    have el : lstTo D (k + 1) (D.lu k) = gTo D k (D.lgn k) := by simp [lstTo]
    have hlen : (gTo D k (D.lgn k)).length = D.lgn k := by simp [gTo]
    obtain ⟨A, C, rfl, hR⟩ := own_readL (xs := gTo D k (D.lgn k)) (by rw [hlen]; exact hv)
    rw [el]
    exact ⟨A, C, atKey_put_same ho.isMap (law9'.key (key9' _ hs)) _ _, hR.keep (by omega) (Nat.le_refl _) (fun _ _ _ => rfl)⟩
  · have el : lstTo D (k + 1) u = lstTo D k u := by simp [lstTo, e]
    obtain ⟨A, C, h1, h2⟩ := h u hu
    rw [el]
    have hne : Lit.string u.data.toList ≠ .string (D.lu k).data.toList := fun e' => by
      injection e' with e'
      have e2 : u.data = (D.lu k).data := by rw [← Array.toList_inj]; exact e'
      exact e (ByteArray.ext e2).symm
    exact ⟨A, C, by rw [atKey_put_other hne]; exact h1, h2.keep (Nat.le_refl _) hsz (fun j j1 j2 => hk j j2 (by omega))⟩
structure FileAt (Bd fb : Nat) (D : DIn) (lst : ByteArray → List Int) (W : Nat → List Int) (w : World) : Prop where
  lt : fb < Bd
  rules : ∃ rb Dm k, w.cell? ⟨fb, 1, none⟩ = some (.map (some rb)) ∧ rb < Bd ∧ w.ownsMap Ybaz.prog 125 Rh rb k Dm ∧ RulesIn 0 Bd D Dm w ∧ k ≤ 400
  lits : w.cell? ⟨fb, 2, none⟩ = some (.map none)
  wilds : w.cell? ⟨fb, 3, none⟩ = some (.map none)
  named : ∃ a c, w.cell? ⟨fb, 4, none⟩ = some (.slice a D.nn c) ∧ StrRow Bd a D.nn D.named w
  listing : ∃ mb Dl k, w.cell? ⟨fb, 5, none⟩ = some (.map (some mb)) ∧ mb < Bd ∧ w.ownsMap Ybaz.prog 9 Rh mb k Dl ∧ ∀ u : ByteArray, u.size ≤ maxLen → ∃ A C, Dl.atKey (.string u.data.toList) (.held (.slice none 0 0)) = .held (.slice A (lst u).length C) ∧ ReadI Bd A (lst u) w
  lsts : ∀ u, InG D.n.toNat (lst u) ∧ (lst u).length ≤ 1000
  within : WithinAt Bd fb D.n.toNat W w
theorem own_below {K : TypeId} {Bd rb k : Nat} {Dm : DataW Value} {w w' : World} (h : w.ownsMap Ybaz.prog K Rh rb k Dm) (hl : rb < Bd) (hb : Below Bd w w') : w'.ownsMap Ybaz.prog K Rh rb k Dm := by
  obtain ⟨es, c, h1, h2⟩ := h
  exact ⟨es, c, (hb.block rb hl).trans h1, h2⟩
theorem FileAt.below {Bd fb : Nat} {D : DIn} {lst : ByteArray → List Int} {W : Nat → List Int} {w w' : World} (h : FileAt Bd fb D lst W w) (hb : Below Bd w w') : FileAt Bd fb D lst W w' where
  lt := h.lt
  rules := by
    obtain ⟨rb, Dm, k, h1, h2, h3, h4, h5⟩ := h.rules
    exact ⟨rb, Dm, k, (hb.cell (p := ⟨fb, 1, none⟩) h.lt).trans h1, h2, own_below h3 h2 hb, h4.keep (Nat.le_refl _) (Nat.le_refl _) (fun j _ hj => hb.block j hj), h5⟩
  lits := (hb.cell (p := ⟨fb, 2, none⟩) h.lt).trans h.lits
  wilds := (hb.cell (p := ⟨fb, 3, none⟩) h.lt).trans h.wilds
  named := by
    obtain ⟨a, c, h1, h2⟩ := h.named
    exact ⟨a, c, (hb.cell (p := ⟨fb, 4, none⟩) h.lt).trans h1, h2.below hb⟩
  listing := by
    obtain ⟨mb, Dl, k, h1, h2, h3, h4⟩ := h.listing
    refine ⟨mb, Dl, k, (hb.cell (p := ⟨fb, 5, none⟩) h.lt).trans h1, h2, own_below h3 h2 hb, fun u hu => ?_⟩
    obtain ⟨A, C, k1, k2⟩ := h4 u hu
    exact ⟨A, C, k1, k2.below hb⟩
  lsts := h.lsts
  within := h.within.below hb
theorem inG_mod {n : Int} (hn : 0 < n) (m : Nat) (f : Nat → Int) : InG n.toNat ((List.range m).map (fun i => f i % n)) := by
  intro x hx
  obtain ⟨i, _, rfl⟩ := List.mem_map.1 hx
  have := Int.emod_nonneg (f i) (show n ≠ 0 by omega)
  have := Int.emod_lt_of_pos (f i) hn
  omega
theorem lstTo_ok {D : DIn} (hS : Small D) (hn : 0 < D.n) (u : ByteArray) : ∀ k, k ≤ D.ln → InG D.n.toNat (lstTo D k u) ∧ (lstTo D k u).length ≤ 1000
  | 0, _ => ⟨fun x hx => by simp [lstTo] at hx, by simp [lstTo]⟩
  | k + 1, hk => by
    unfold lstTo
    split
    · refine ⟨inG_mod hn _ _, ?_⟩
      have := hS.lg k (by omega)
      simp [gTo]; omega
    · exact lstTo_ok hS hn u k (by omega)
theorem listOf_ok {D : DIn} (hS : Small D) (u : ByteArray) : InG D.n.toNat (listOf D u) ∧ (listOf D u).length ≤ 1000 := by
  unfold listOf
  split
  · rename_i h; exact lstTo_ok hS h u _ (Nat.le_refl _)
  · exact ⟨fun x hx => by simp at hx, by simp⟩
theorem withinOf_ok {D : DIn} (hS : Small D) (hn : 0 < D.n) (g : Nat) : InG D.n.toNat (withinOf D g) ∧ (withinOf D g).length ≤ 1000 := by
  unfold withinOf
  split
  · rename_i h
    refine ⟨inG_mod hn _ _, ?_⟩
    have := hS.wg g h
    simp; omega
  · exact ⟨fun x hx => by simp at hx, by simp⟩
theorem ReadL.read {Lo Hi : Nat} {a : Option Addr} {xs : List Int} {w : World} (h : ReadL Lo Hi a xs w) : ReadI Hi a xs w := fun k x hx => by
  obtain ⟨bb, off, e, h1, h2, h3⟩ := h k x hx
  exact ⟨bb, off, e, h2, h3⟩
/-- what build leaves -/
def BuildPost (D : DIn) (w : World) (e : Ending) (w' : World) : Prop := ∃ fb, e = .returned (.pointer (some ⟨fb, 0, none⟩)) ∧ w.heap.size ≤ fb ∧ FileAt w'.heap.size fb D (listOf D) (withinOf D) w' ∧ Below w.heap.size w w'
theorem FileAt.make {D : DIn} {w w6 w7 : World} {fb rb wb lb n1 n2 N : Nat} {na : Option Addr} {nc : Nat} {Dm Dl : DataW Value} (hS : Small D) (hn1 : n1 ≤ 400) (hN : D.n = (N : Int)) (hrb : rb = w.heap.size) (hfb : fb = w.heap.size + 1) (h2 : w.heap.size + 2 ≤ wb) (hwl : wb < lb)
    (hR : RulesIn (w.heap.size + 2) wb D Dm w6) (hO : w6.ownsMap Ybaz.prog 125 Rh rb n1 Dm) (hSn : StrRow wb na D.nn D.named w6) (hSlo : ∀ j, j < D.nn → ∀ bb off, na = some ⟨bb, off, none⟩ → w.heap.size + 2 ≤ bb) (hWR : WRows wb N N D w6) (hwlb : w6.heap.size = lb)
    (hOl : w7.ownsMap Ybaz.prog 9 Rh lb n2 Dl) (hL : LRows lb (listOf D) Dl w7) (hB7 : Below lb w6 w7) (w8 : World) (hk8 : ∀ k, k ≠ fb → w8.heap[k]? = w7.heap[k]?) (hs8 : w8.heap.size = w7.heap.size) (hf8 : w8.heap[fb]? = some (.cells (fileCells rb (.slice na D.nn nc) (.map (some lb)) (.slice (some ⟨wb, 0, none⟩) N N)) 106 (0, 0))) :
    FileAt w8.heap.size fb D (listOf D) (withinOf D) w8 := by
  have hlb := hOl.lt
  have kp : ∀ k, k ≠ fb → k < lb → w8.heap[k]? = w6.heap[k]? := fun k h1 h2 => (hk8 k h1).trans (hB7.block k h2)
  refine ⟨by omega, ⟨rb, Dm, n1, by rw [cell_of hf8]; rfl, by omega, ?_, ?_, hn1⟩, by rw [cell_of hf8]; rfl, by rw [cell_of hf8]; rfl, ⟨na, nc, by rw [cell_of hf8]; rfl, fun j hj => ?_⟩, ⟨lb, Dl, n2, by rw [cell_of hf8]; rfl, by omega, ?_, fun u hu => ?_⟩, listOf_ok hS, ?_⟩
  · obtain ⟨es, c, h1, h2⟩ := hO
    exact ⟨es, c, (kp rb (by omega) (by omega)).trans h1, h2⟩
  · exact hR.keep (by omega) (by omega) (fun k k1 k2 => kp k (by omega) (by omega))
  · obtain ⟨bb, off, e, k1, k2, k3⟩ := hSn j hj
    have := hSlo j hj bb off e
    exact ⟨bb, off, e, by omega, (cell_eq (kp bb (by omega) (by omega)) _).trans k2, k3⟩
  · obtain ⟨es, c, h1, h2⟩ := hOl
    exact ⟨es, c, (hk8 lb (by omega)).trans h1, h2⟩
  · obtain ⟨A, C, k1, k2⟩ := hL u hu
    exact ⟨A, C, k1, (k2.keep (Nat.le_refl _) (Nat.le_of_eq hs8.symm) (fun j j1 j2 => hk8 j (by omega))).read⟩
  · refine ⟨by omega, some ⟨wb, 0, none⟩, N, by rw [cell_of hf8, hN]; rfl, fun g hg => ?_⟩
    rw [hN] at hg
    have hg' : g < N := by simpa using hg
    obtain ⟨cur, c1, c2, c3, c4⟩ := hWR
    obtain ⟨A, C, k1, k2⟩ := c3 g hg' hg'
    have hok := withinOf_ok hS (by omega : 0 < D.n) g
    refine ⟨wb, 0, A, C, rfl, by omega, ?_, (k2.keep (Nat.le_refl _) (by omega) (fun j j1 j2 => kp j (by omega) (by omega))).read, hok.1, hok.2⟩
    rw [cell_of ((kp wb (by omega) (by omega)).trans c1), Nat.zero_add]
    exact k1
end Go.Proofs.YbulkchuuGreatDoor
