import Derived.Test.YbulkchuuGreatDoorV1
import Derived.Deep.CutBlock
namespace Go.Proofs.YbulkchuuGreatDoor
open Go.RowKit Go.Maps Classical
set_option linter.unusedVariables false
set_option linter.unusedSimpArgs false
set_option maxRecDepth 100000

/-! ### the pieces of the law's body -/
def goC : List Bool → Code → Code
  | [], c => c
  | false :: l, .seq a _ => goC l a
  | true :: l, .seq _ b => goC l b
  | false :: l, .cond _ a _ => goC l a
  | true :: l, .cond _ _ b => goC l b
  | _ :: l, .block _ c => goC l c
  | _ :: l, .loop c => goC l c
  | _ :: _, c => c
def lawC (f : Func) : Code := f.body.getD .skip
def cB0 (f : Func) : Code := goC [true, true, true, true, true, true, true, true, true, true, true, true, true, false, true] (lawC f)
def cB4 (f : Func) : Code := goC [true, true, true, true, true, true, true, true, true, true, true, true, true, true, true, true, true, false, true] (lawC f)
def cB6 (f : Func) : Code := goC [true, true, true, true, true, true, true, true, true, true, true, true, true, true, true, true, true, true, true, true, true, true, true, false, true] (lawC f)
def cB10 (f : Func) : Code := goC [true, true, true, true, true, true, true, true, true, true, true, true, true, true, true, true, true, true, true, true, true, true, true, true, true, true, true, false, true] (lawC f)
def cB8 (f : Func) : Code := goC [true, true, true, true, true, true, true, true, true, true, true, true, true, true, true, true, true, true, true, true, true, true, true, false, true, false, false, true, true, false, false, true, true, false, true] (lawC f)
def cB2 (f : Func) : Code := goC [true, true, true, true, true, true, true, true, true, true, true, true, true, false, true, false, false, true, false, false, true, true] (lawC f)
def cB11 (f : Func) : Code := goC [true, true, true, true, true, true, true, true, true, true, true, true, true, true, true, true, true, true, true, true, true, true, true, true, true, true, true, false, true, false, false, true, false] (lawC f)
def cI68 (f : Func) : Code := goC [true, true, true, true, true, true, true, true, true, true, true, true, true, true, true, true, true, true, true, true, true, true, true, true, true, true, true, false, true, false, false, true, false, false, true, true, true, true, false, true] (lawC f)
def cB14 (f : Func) : Code := goC [true, true, true, true, true, true, true, true, true, true, true, true, true, true, true, true, true, true, true, true, true, true, true, true, true, true, true, false, true, false, false, true, false, false, true, true, true, true, true, true, true, false, true] (lawC f)
def cB24 (f : Func) : Code := goC [true, true, true, true, true, true, true, true, true, true, true, true, true, true, true, true, true, true, true, true, true, true, true, true, true, true, true, false, true, false, false, true, false, false, true, true, true, true, true, true, true, true, true] (lawC f)
def cB15 (f : Func) : Code := goC [true, true, true, true, true, true, true, true, true, true, true, true, true, true, true, true, true, true, true, true, true, true, true, true, true, true, true, false, true, false, false, true, false, false, true, true, true, true, true, true, true, false, true, false, false, true, true, false] (lawC f)
def cB16 (f : Func) : Code := goC [true, true, true, true, true, true, true, true, true, true, true, true, true, true, true, true, true, true, true, true, true, true, true, true, true, true, true, false, true, false, false, true, false, false, true, true, true, true, true, true, true, false, true, false, false, true, true, false, false, true, true, true, true, false, true] (lawC f)
def cB18 (f : Func) : Code := goC [true, true, true, true, true, true, true, true, true, true, true, true, true, true, true, true, true, true, true, true, true, true, true, true, true, true, true, false, true, false, false, true, false, false, true, true, true, true, true, true, true, false, true, false, false, true, true, false, false, true, true, true, true, true, false, true] (lawC f)
def cB19 (f : Func) : Code := goC [true, true, true, true, true, true, true, true, true, true, true, true, true, true, true, true, true, true, true, true, true, true, true, true, true, true, true, false, true, false, false, true, false, false, true, true, true, true, true, true, true, false, true, false, false, true, true, false, false, true, true, true, true, true, false, true, false, false, true, false] (lawC f)
def cB20 (f : Func) : Code := goC [true, true, true, true, true, true, true, true, true, true, true, true, true, true, true, true, true, true, true, true, true, true, true, true, true, true, true, false, true, false, false, true, false, false, true, true, true, true, true, true, true, false, true, false, false, true, true, false, false, true, true, true, true, true, false, true, false, false, true, false, false, true] (lawC f)
def cB22 (f : Func) : Code := goC [true, true, true, true, true, true, true, true, true, true, true, true, true, true, true, true, true, true, true, true, true, true, true, true, true, true, true, false, true, false, false, true, false, false, true, true, true, true, true, true, true, false, true, false, false, true, true, false, false, true, true, true, true, true, true, true, false, true] (lawC f)

theorem wpList_append_run {P : Program} {ops : Array Oper} {rest : List Oper} {o : Oper} {a : Act} {w : World} {Q : Exit → Act → World → Prop} (hgd : o.guard = none) (s x : Operand) (t : TypeId)
    (ho : o.op = Op.call { callee := Callee.builtin Builtin.append, args := #[s, x], argTypes := #[t, t] }) {u y v' : Value} {w' : World} (hs : a.eval s = u) (hx : a.eval x = y) (hrun : (Builtin.append_ #[t, t] o.type #[u, y]).run P w = .ok v' w') (h : wpList P ops Q rest (a.put o.dst v') w') : wpList P ops Q (o :: rest) a w :=
  wpList_plain hgd fun _ hK => by
    unfold Oper.wp
    simp [execOp, ho, resolve, invoke, builtin, hs, hx, hrun, Result.andThen]
    exact hK _ _ h
/-! ### rows of numbers -/
theorem app1 {w : World} {B n : Nat} {v : Value} {xs : List Value} (hO : w.ownsRow B 21 1 v n xs) (x : Int) (hB : B ≤ w.heap.size) (hn : n ≤ 1000000) :
    ∃ va' vc' w', (Builtin.append_ #[77, 77] 77 #[v, .slice (some ⟨w.heap.size, 0, none⟩) 1 1]).run Ybaz.prog (w.alloc (.cells #[.int .i32 x] 21)) = .ok (.slice va' (n + 1) vc') w' ∧ w'.ownsRow B 21 1 (.slice va' (n + 1) vc') (n + 1) (xs ++ [.int .i32 x]) ∧ (w.alloc (.cells #[.int .i32 x] 21)).grownBy w' v.ownBlock := by
  obtain ⟨i21, hi21, hx0, hx1, hx2⟩ := info_parts info21
  obtain ⟨v', w8, hrun, ho8, hg8, _⟩ := run_append_own (P := Ybaz.prog) (w.alloc (.cells #[.int .i32 x] 21)) B 77 77 21 i21 (.int .i32 0) 1 4 Ybaz.underlying77 hi21 hx0 hx1 hx2 rfl (by decide) v n xs (hO.alloc _) ⟨w.heap.size, 0, none⟩ 1 1 [.int .i32 x] rfl (new_cells w [.int .i32 x] 21) (by intro u hu; simp at hu; subst hu; rfl) (by unfold maxLen; omega) (by omega) (by simp; omega)
  obtain ⟨va', vc', rfl⟩ := own_slice' ho8
  exact ⟨va', vc', w8, hrun, ho8, hg8⟩
/-- the groups reached so far: the queue, and the row of marks -/
def ReachQ (w15 : World) (rbk N : Nat) (qv : Value) (ql : List Int) (wr : World) : Prop := wr.ownsRow w15.heap.size 21 1 qv ql.length (I32s ql) ∧ AskAt rbk N (fun g => decide ((g : Int) ∈ ql)) wr ∧ Fr (fun b => b = rbk) w15 wr ∧ ql.Pairwise (· ≠ ·) ∧ InG N ql
theorem ReachQ.start {w15 : World} {rbk N : Nat} (hA : AskAt rbk N (fun _ => false) w15) : ReachQ w15 rbk N (.slice none 0 0) [] w15 := by
  refine ⟨World.ownsRow_nil _ _ _ _, ?_, Fr.refl _ _, .nil, fun x hx => by simp at hx⟩
  obtain ⟨cur, h1, h2, h3⟩ := hA
  exact ⟨cur, h1, h2, fun g hg => by rw [h3 g hg]; simp⟩
theorem ReachQ.add {w15 wq : World} {rbk N g : Nat} {qv : Value} {ql : List Int} (h : ReachQ w15 rbk N qv ql wq) (hg : g < N) (hN : N ≤ 255) (hni : (g : Int) ∉ ql) :
    ∃ va' vc' w3, (Builtin.append_ #[77, 77] 77 #[qv, .slice (some ⟨wq.heap.size, 0, none⟩) 1 1]).run Ybaz.prog ((wq.setCell ⟨rbk, g, none⟩ (.bool true)).alloc (.cells #[.int .i32 (g : Int)] 21)) = .ok (.slice va' (ql.length + 1) vc') w3 ∧ ReachQ w15 rbk N (.slice va' (ql.length + 1) vc') (ql ++ [(g : Int)]) w3 := by
  obtain ⟨h1, h2, h3, h4, h5⟩ := h
  have hlen := pigeon N ql h4 h5
  obtain ⟨cur, k1, k2, k3⟩ := h2
  have hne : qv.ownBlock ≠ some rbk := own_tag h1 k1 (by decide)
  have hO1 : (wq.setCell ⟨rbk, g, none⟩ (.bool true)).ownsRow w15.heap.size 21 1 qv ql.length (I32s ql) := own_move h1 (fun b hb _ => Below.heap_setCell _ _ _ _ (fun e => hne (by rw [hb]; simp at e; rw [e])))
  have hsz : (wq.setCell ⟨rbk, g, none⟩ (.bool true)).heap.size = wq.heap.size := by simp
  have hA1 := AskAt.set (g := g) ⟨cur, k1, k2, k3⟩
  have hF1 := h3.setCell rbk g (.bool true) (.inl rfl)
  obtain ⟨va', vc', w3, hr, ho, hgr⟩ := app1 hO1 (g : Int) (by rw [hsz]; exact h3.size) (by omega)
  rw [hsz] at hr
  have hrl : rbk < wq.heap.size := heap_lt k1
  have hgb : ∀ b, b < wq.heap.size → qv.ownBlock ≠ some b → w3.heap[b]? = (wq.setCell ⟨rbk, g, none⟩ (.bool true)).heap[b]? := fun b hb hn => (hgr.block b (by simp; omega) (fun e => hn e.symm)).trans (Below.heap_alloc _ _ _ (by simpa using hb))
  refine ⟨va', vc', w3, hr, ?_, ?_, ?_, ?_, ?_⟩
  · rw [List.length_append, I32s, List.map_append]; exact ho
  · have h6 := hA1.move (hgb rbk hrl hne)
    obtain ⟨c, c1, c2, c3⟩ := h6
    refine ⟨c, c1, c2, fun j hj => ?_⟩
    rw [c3 j hj]
    by_cases e : j = g
    · subst e; simp
    · have : ¬ (j : Int) = (g : Int) := by omega
      simp [e, this]
  · refine ⟨hgr.os.trans hF1.1, hgr.tape.trans hF1.2.1, hgr.output.trans hF1.2.2.1, by have := hgr.size; have := h3.size; simp at *; omega, fun b hb hs => ?_, fun b cur' T fr hb => ?_⟩
    · have hbq : b < wq.heap.size := Nat.lt_of_lt_of_le hb h3.size
      exact (hgb b hbq (fun e => by have := (h1.lt b e).1; omega)).trans (hF1.block b hb hs)
    · obtain ⟨c2, d1, d2⟩ := hF1.row hb
      have hbl := heap_lt hb
      exact ⟨c2, (hgb b (Nat.lt_of_lt_of_le hbl h3.size) (fun e => by have := (h1.lt b e).1; omega)).trans d1, d2⟩
  · rw [List.pairwise_append]
    exact ⟨h4, by simp, fun x hx y hy e => by simp at hy; subst hy; subst e; exact hni hx⟩
  · intro x hx
    rw [List.mem_append] at hx
    rcases hx with hx | hx
    · exact h5 x hx
    · simp at hx; subst hx; omega
theorem addL_drop {gk xs : List Int} {k : Nat} {x : Int} (hx : xs[k]? = some x) : addL gk (xs.drop k) = addL (if x ∈ gk then gk else gk ++ [x]) (xs.drop (k + 1)) := by
  obtain ⟨hl, e⟩ := List.getElem?_eq_some_iff.1 hx
  rw [List.drop_eq_getElem_cons hl, e]
  rfl
theorem mOf_next (D : DIn) (uL : List ByteArray) (i g : Nat) (u : ByteArray) (hu : uL[i]? = some u) : mOf D uL (i + 1) g = mOf D uL i g ++ if InGrp D u g then [(i : Int)] else [] := by
  have hd : uL.getD i ⟨#[]⟩ = u := by rw [List.getD_eq_getElem?_getD, hu]; rfl
  unfold mOf
  rw [List.range_succ, List.filter_append, List.map_append]
  congr 1
  by_cases h : InGrp D u g
  · rw [if_pos h, List.filter_cons_of_pos (by rw [hd]; simpa using h)]; simp
  · rw [if_neg h, List.filter_cons_of_neg (by rw [hd]; simpa using h)]; simp
/-- the asked groups below t -/
def grpTo (D : DIn) [∀ (u : ByteArray) (g : Nat), Decidable (InGrp D u g)] (u : ByteArray) (t : Nat) : List Int := ((List.range t).filter (fun g => decide (InGrp D u g))).map (fun g : Nat => (g : Int))
theorem grpTo_all (D : DIn) (u : ByteArray) : grpTo D u D.n.toNat = grpOf D u := rfl
theorem grpTo_succ (D : DIn) (u : ByteArray) (t : Nat) : grpTo D u (t + 1) = grpTo D u t ++ if InGrp D u t then [(t : Int)] else [] := by
  unfold grpTo
  rw [List.range_succ, List.filter_append, List.map_append]
  congr 1
  by_cases h : InGrp D u t
  · rw [if_pos h, List.filter_cons_of_pos (by simpa using h)]; simp
  · rw [if_neg h, List.filter_cons_of_neg (by simpa using h)]; simp
theorem grpTo_len (D : DIn) (u : ByteArray) (t : Nat) : (grpTo D u t).length ≤ t := by
  unfold grpTo
  rw [List.length_map]
  exact Nat.le_trans (List.length_filter_le _ _) (by simp)
/-- want, between two groups -/
def wantTo (D : DIn) [∀ (u : ByteArray) (g : Nat), Decidable (InGrp D u g)] (uL : List ByteArray) (i t g : Nat) : List Int := if g < t then mOf D uL (i + 1) g else mOf D uL i g
theorem wantTo_len (D : DIn) (uL : List ByteArray) (i t g : Nat) : (wantTo D uL i t g).length ≤ i + 1 := by
  unfold wantTo
  split
  · exact mOf_len D uL (i + 1) g
  · exact Nat.le_trans (mOf_len D uL i g) (by omega)

/-- the blocks that stood, but for those of S, are as they were -/
def KeepOff (S : Nat → Prop) (w w' : World) : Prop := w'.os = w.os ∧ w'.tape = w.tape ∧ w'.output = w.output ∧ w.heap.size ≤ w'.heap.size ∧ ∀ b, b < w.heap.size → ¬ S b → w'.heap[b]? = w.heap[b]?
theorem KeepOff.refl (S : Nat → Prop) (w : World) : KeepOff S w w := ⟨rfl, rfl, rfl, Nat.le_refl _, fun _ _ _ => rfl⟩
theorem KeepOff.size {S : Nat → Prop} {w w' : World} (h : KeepOff S w w') : w.heap.size ≤ w'.heap.size := h.2.2.2.1
theorem KeepOff.block {S : Nat → Prop} {w w' : World} (h : KeepOff S w w') (b : Nat) (hb : b < w.heap.size) (hs : ¬ S b) : w'.heap[b]? = w.heap[b]? := h.2.2.2.2 b hb hs
theorem KeepOff.trans {S S' : Nat → Prop} {w w1 w2 : World} (h : KeepOff S w w1) (k : KeepOff S' w1 w2) (hs : ∀ b, b < w.heap.size → S' b → S b) : KeepOff S w w2 :=
  ⟨k.1.trans h.1, k.2.1.trans h.2.1, k.2.2.1.trans h.2.2.1, Nat.le_trans h.size k.size, fun b hb hn => (k.block b (Nat.lt_of_lt_of_le hb h.size) (fun e => hn (hs b hb e))).trans (h.block b hb hn)⟩
theorem KeepOff.mono {S S' : Nat → Prop} {w w' : World} (h : KeepOff S w w') (hs : ∀ b, b < w.heap.size → S b → S' b) : KeepOff S' w w' :=
  ⟨h.1, h.2.1, h.2.2.1, h.size, fun b hb hn => h.block b hb (fun e => hn (hs b hb e))⟩
theorem KeepOff.of_fr {S : Nat → Prop} {w w' : World} (h : Fr S w w') : KeepOff S w w' := ⟨h.1, h.2.1, h.2.2.1, h.size, h.block⟩
theorem KeepOff.of_below {S : Nat → Prop} {w w' : World} (h : Below w.heap.size w w') : KeepOff S w w' := ⟨h.os, h.tape, h.output, h.size, fun b hb _ => h.block b hb⟩
theorem KeepOff.below {S : Nat → Prop} {B : Nat} {w w' : World} (h : KeepOff S w w') (hB : B ≤ w.heap.size) (hs : ∀ b, b < B → ¬ S b) : Below B w w' :=
  ⟨h.1, h.2.1, h.2.2.1, h.size, fun b hb => h.block b (by omega) (hs b hb)⟩
theorem KeepOff.alloc {S : Nat → Prop} {w w' : World} (h : KeepOff S w w') (o : Obj) : KeepOff S w (w'.alloc o) :=
  ⟨h.1, h.2.1, h.2.2.1, by have := h.size; simp; omega, fun b hb hn => (Below.heap_alloc _ _ _ (Nat.lt_of_lt_of_le hb h.size)).trans (h.block b hb hn)⟩
theorem KeepOff.drewN {S : Nat → Prop} {w w' : World} (h : KeepOff S w w') (n : Nat) : KeepOff S w (w'.drewN n) := h
theorem MembAt.congr {D : DIn} {uL : List ByteArray} {mb n : Nat} {L L' : Nat → List Int} {S : Nat → Prop} {w : World} (h : MembAt D uL mb n L S w) (he : ∀ g, g < n → L g = L' g) : MembAt D uL mb n L' S w := by
  obtain ⟨cur, h1, h2, h3, h4⟩ := h
  exact ⟨cur, h1, h2, fun g hg => by rw [← he g hg]; exact h3 g hg, h4⟩
theorem MembAt.push2 {D : DIn} {uL : List ByteArray} {mb N : Nat} {L : Nat → List Int} {S : Nat → Prop} {w : World} (h : MembAt D uL mb N L S w) (g : Nat) (hg : g < N) (i : Nat) (hi : i ≤ 1000000) (hl : (L g).length ≤ 1000000) (hS : ∀ b, S b → b < w.heap.size) :
    ∃ va vc va' vc' w8, w.cell? ⟨mb, g, none⟩ = some (.slice va (L g).length vc) ∧ (Builtin.append_ #[77, 77] 77 #[.slice va (L g).length vc, .slice (some ⟨w.heap.size, 0, none⟩) 1 1]).run Ybaz.prog (w.alloc (.cells #[.int .i32 (i : Int)] 21)) = .ok (.slice va' ((L g).length + 1) vc') w8 ∧
      w8.cell? ⟨mb, g, none⟩ = some (.slice va (L g).length vc) ∧ w8.frozen? ⟨mb, g, none⟩ = false ∧
      MembAt D uL mb N (fun j => if j = g then L g ++ [(i : Int)] else L j) (fun b => S b ∨ (Value.slice va' ((L g).length + 1) vc').ownBlock = some b) (w8.setCell ⟨mb, g, none⟩ (.slice va' ((L g).length + 1) vc')) ∧
      (∀ b, (Value.slice va' ((L g).length + 1) vc').ownBlock = some b → S b ∨ (w.heap.size ≤ b ∧ b < w8.heap.size)) ∧ (∀ b, b < w.heap.size → b ≠ mb → ¬ S b → (w8.setCell ⟨mb, g, none⟩ (.slice va' ((L g).length + 1) vc')).heap[b]? = w.heap[b]?) ∧
      (w8.os = w.os ∧ w8.tape = w.tape ∧ w8.output = w.output) ∧ w.heap.size ≤ w8.heap.size := by
  obtain ⟨cur, h1, h2, h3, h4⟩ := h
  obtain ⟨v, hv, hown, hvS⟩ := h3 g hg
  obtain ⟨va, vc, rfl⟩ := own_slice' hown
  obtain ⟨i21, hi21, hx0, hx1, hx2⟩ := info_parts info21
  have hmbl := heap_lt h1
  obtain ⟨v', w8, hrun, ho8, hg8, _, hat8⟩ := run_append_own_at (P := Ybaz.prog) (w.alloc (.cells #[.int .i32 (i : Int)] 21)) 0 77 77 21 i21 (.int .i32 0) 1 4 Ybaz.underlying77 hi21 hx0 hx1 hx2 rfl (by decide) (.slice va (L g).length vc) (L g).length (I32s (L g)) (hown.alloc (.cells #[.int .i32 (i : Int)] 21)) ⟨w.heap.size, 0, none⟩ 1 1 [.int .i32 (i : Int)] rfl (new_cells w [.int .i32 (i : Int)] 21) (by intro u hu; simp at hu; subst hu; rfl) (by unfold maxLen; omega) (by omega) (Nat.zero_le _)
  obtain ⟨va', vc', rfl⟩ := own_slice' ho8
  have hmbv : (Value.slice va (L g).length vc).ownBlock ≠ some mb := own_tag hown h1 (by decide)
  have hA : ∀ b, b < w.heap.size → (w.alloc (.cells #[.int .i32 (i : Int)] 21)).heap[b]? = w.heap[b]? := fun b hb => Below.heap_alloc _ _ _ hb
  have hsA : (w.alloc (.cells #[.int .i32 (i : Int)] 21)).heap.size = w.heap.size + 1 := by show (w.alloc _).heap.size = _; simp
  have hk8 : ∀ b, b < w.heap.size → (Value.slice va (L g).length vc).ownBlock ≠ some b → w8.heap[b]? = w.heap[b]? := fun b hb hne => (hg8.block b (by omega) (fun e => hne e.symm)).trans (hA b hb)
  have hb8 : w8.heap[mb]? = some (.cells cur 77 (0, 0)) := (hk8 mb hmbl hmbv).trans h1
  have hmb8 : (Value.slice va' ((L g).length + 1) vc').ownBlock ≠ some mb := own_tag ho8 hb8 (by decide)
  have hnew : ∀ b, (Value.slice va' ((L g).length + 1) vc').ownBlock = some b → S b ∨ (w.heap.size ≤ b ∧ b < w8.heap.size) := fun b hb => by
    rcases hat8 with e | e
    · rw [e] at hb; exact .inl (hvS b hb)
    · have := (ho8.lt b hb).2
      rw [e] at hb
      injection hb with hb
      right
      omega
  refine ⟨va, vc, va', vc', w8, by rw [cell_of h1]; exact hv, hrun, by rw [cell_of hb8]; exact hv, frozen_of hb8 _, ?_, hnew, fun b hb hne hS' => ?_, ⟨hg8.os, hg8.tape, hg8.output⟩, by have := hg8.size; omega⟩
  · refine ⟨_, heap_set hb8 _ _, by simpa using h2, fun j hj => ?_, fun j j' x x' b hne hx hx' hb => ?_⟩
    · by_cases e : j = g
      · subst e
        refine ⟨.slice va' ((L j).length + 1) vc', by simp [h2, hg], ?_, fun b hb => .inr hb⟩
        simp only [if_true, List.length_append, List.length_singleton]
        have := own_move (w' := w8.setCell ⟨mb, j, none⟩ (.slice va' ((L j).length + 1) vc')) ho8 (fun b hb _ => Below.heap_setCell _ _ _ _ (fun e => hmb8 (by rw [hb]; simp at e; rw [e])))
        rw [I32s, List.map_append]
        exact this
      · obtain ⟨x, k1, k2, k3⟩ := h3 j hj
        refine ⟨x, by rw [Array.getElem?_setIfInBounds, if_neg (fun e' => e e'.symm)]; exact k1, ?_, fun b hb => .inl (k3 b hb)⟩
        simp only [if_neg e]
        refine own_move k2 (fun b hb hl => ?_)
        rw [Below.heap_setCell _ _ _ _ (fun e => own_tag k2 h1 (by decide) (by rw [hb]; simp at e; rw [e]))]
        exact hk8 b hl (fun e' => h4 j g x _ b e k1 hv hb e')
    · rw [Array.getElem?_setIfInBounds] at hx hx'
      by_cases e : g = j
      · subst e
        rw [if_pos rfl, if_pos (by omega)] at hx
        rw [if_neg hne] at hx'
        injection hx with hx
        subst hx
        have hj' : j' < N := by have := (Array.getElem?_eq_some_iff.1 hx').1; omega
        obtain ⟨x2, k1, k2, k3⟩ := h3 j' hj'
        rw [hx'] at k1
        injection k1 with k1
        subst k1
        intro e'
        rcases hat8 with e2 | e2
        · rw [e2] at hb
          exact h4 g j' _ _ b hne hv hx' hb e'
        · rw [e2] at hb
          injection hb with hb
          have := (k2.lt b e').2
          omega
      · rw [if_neg e] at hx
        by_cases e' : g = j'
        · subst e'
          rw [if_pos rfl, if_pos (by omega)] at hx'
          injection hx' with hx'
          subst hx'
          have hj' : j < N := by have := (Array.getElem?_eq_some_iff.1 hx).1; omega
          obtain ⟨x2, k1, k2, k3⟩ := h3 j hj'
          rw [hx] at k1
          injection k1 with k1
          subst k1
          intro e3
          rcases hat8 with e2 | e2
          · rw [e2] at e3
            exact h4 j g _ _ b (fun h => e h.symm) hx hv hb e3
          · rw [e2] at e3
            injection e3 with e3
            have := (k2.lt b hb).2
            omega
        · rw [if_neg e'] at hx'
          exact h4 j j' x x' b hne hx hx' hb
  · rw [Below.heap_setCell _ _ _ _ (by simpa using hne)]
    exact hk8 b hb (fun e => hS' (hvS b e))
end Go.Proofs.YbulkchuuGreatDoor
