import Derived.Test.YbulkchviB5
namespace Go.Proofs.Ybulkchvi
open Go.RowKit
set_option linter.unusedVariables false
set_option linter.unusedSimpArgs false
set_option maxRecDepth 100000

/-- the specs that came in: three cells each -/
def SpecAt (B : Nat) (a : Option Addr) (n : Nat) (R A Bb : Nat → Int) (w : World) : Prop :=
  ∀ j, j < n → ∃ bb off, a = some ⟨bb, off, none⟩ ∧ bb < B ∧ w.cell? ⟨bb, off + j * 3, none⟩ = some (.int .u8 (R j)) ∧ w.cell? ⟨bb, off + j * 3 + 1, none⟩ = some (.int .u8 (A j)) ∧ w.cell? ⟨bb, off + j * 3 + 2, none⟩ = some (.int .u8 (Bb j))

def InR (L : List (Int × Int)) : Prop := ∀ x ∈ L, 0 ≤ x.1 ∧ x.1 ≤ x.2 ∧ x.2 ≤ 71
/-- the first k places of firstRun -/
def FirstAt (fb n : Nat) (F : Nat → Nat) (k len : Nat) (w : World) : Prop :=
  (∃ cur, w.heap[fb]? = some (.cells cur 21 (0, 0)) ∧ cur.size = n ∧ ∀ j, j < k → cur[j]? = some (.int .i32 (F j : Int))) ∧ (∀ j, j + 1 < k → F j ≤ F (j + 1)) ∧ ∀ j, j < k → F j ≤ len

def setF (F : Nat → Nat) (k x : Nat) : Nat → Nat := fun j => if j = k then x else F j
theorem setF_same (F : Nat → Nat) (k x : Nat) : setF F k x k = x := by simp [setF]
theorem setF_other (F : Nat → Nat) (k x j : Nat) (h : j ≠ k) : setF F k x j = F j := by simp [setF, h]
theorem FirstAt.step {fb n : Nat} {F : Nat → Nat} {k len : Nat} {w : World} (h : FirstAt fb n F k len w) (hk : k < n) : FirstAt fb n (setF F k len) (k + 1) len (w.setCell ⟨fb, k, none⟩ (.int .i32 (len : Int))) := by
  obtain ⟨⟨cur, hc0, hc1, hc2⟩, hf1, hf2⟩ := h
  refine ⟨⟨_, heap_set hc0 k _, by simpa using hc1, fun j hj => ?_⟩, fun j hj => ?_, fun j hj => ?_⟩
  · rw [Array.getElem?_setIfInBounds]
    by_cases e : k = j
    · subst e; simp [hc1, hk, setF_same]
    · rw [if_neg e, setF_other _ _ _ _ (fun e' => e e'.symm)]; exact hc2 j (by omega)
  · by_cases e : j + 1 = k
    · rw [setF_other _ _ _ _ (by omega), e, setF_same]; exact hf2 j (by omega)
    · rw [setF_other _ _ _ _ (by omega), setF_other _ _ _ _ e]; exact hf1 j (by omega)
  · by_cases e : j = k
    · subst e; rw [setF_same]; exact Nat.le_refl _
    · rw [setF_other _ _ _ _ e]; exact hf2 j (by omega)
theorem FirstAt.grow {fb n : Nat} {F : Nat → Nat} {k len len' : Nat} {w w' : World} (h : FirstAt fb n F k len w) (hl : len ≤ len') (hb : w'.heap[fb]? = w.heap[fb]?) : FirstAt fb n F k len' w' := by
  obtain ⟨⟨cur, hc0, hc1⟩, hf1, hf2⟩ := h
  exact ⟨⟨cur, hb.trans hc0, hc1⟩, hf1, fun j hj => Nat.le_trans (hf2 j hj) hl⟩

/-- slices.Clone of a row of one's own, or of nil -/
theorem clone_own {B n : Nat} {u : Value} {L : List (Int × Int)} (w : World) (h : w.ownsRow B 57 2 u L.length (flat L)) (hn : L.length ≤ 20000) :
    Calls Yba.prog 12 #[u] w fun e w' => ∃ v, e = .returned v ∧ w'.ownsRow w.heap.size 57 2 v L.length (flat L) ∧ Below w.heap.size w w' := by
  rcases h.2 with ⟨rfl, h0⟩ | ⟨g, cap, cur, rfl, _, hg, _⟩
  · refine (clone_nil w).mono ?_
    rintro e w' ⟨rfl, rfl⟩
    have hL : L = [] := List.length_eq_zero_iff.1 h0
    subst hL
    exact ⟨_, rfl, World.ownsRow_nil _ _ _ _, Below.refl _ _⟩
  · exact clone_any g _ cap (flat L) w (flat_len L) (h.cells (g := g) rfl) (flat_one L) (by omega)
/-- where the runs of one's own lie -/
theorem runs_own {w : World} {B n c : Nat} {ao : Option Addr} {L : List (Int × Int)} (h : w.ownsRow B 57 2 (.slice ao n c) L.length (flat L)) : n = L.length ∧ n ≤ c ∧ c ≤ maxLen ∧ RunsAt ao n c L w := by
  rcases h.2 with ⟨e, h0⟩ | ⟨g, cap, cur, e, _, hg, h1, h2, _⟩
  · injection e with e1 e2 e3
    subst e1 e2 e3
    exact ⟨h0.symm, Nat.le_refl _, by unfold maxLen; omega, .inl ⟨rfl, rfl, rfl⟩⟩
  · injection e with e1 e2 e3
    subst e1 e2 e3
    refine ⟨rfl, h1, h2, .inr ⟨g, rfl, fun t x ht => ?_⟩⟩
    obtain ⟨e0, e1⟩ := flat_get L t x ht
    have k0 := h.cells (g := g) rfl _ _ e0
    have k1 := h.cells (g := g) rfl _ _ e1
    rw [Go.WideShapes.add_plain, Nat.zero_add] at k0 k1
    exact ⟨k0, k1⟩

theorem info64 : (Yba.prog.info? 64).map (fun i => i.zero) = some (some (.agg (Array.replicate 72 (.bool false)))) := by kernel_rfl
theorem zero64 (W : World) : (zeroValue 64).run Yba.prog W = .ok (.agg (Array.replicate 72 (.bool false))) W := by
  have h := info64
  obtain ⟨i, hi⟩ := Option.isSome_iff_exists.1 (show (Yba.prog.info? 64).isSome = true by kernel_rfl)
  rw [hi] at h
  simp only [Option.map_some, Option.some.injEq] at h
  simp [zeroValue, typeInfo, hi, h]

/-- the marks -/
def MarkAt (mk : Nat) (Mf : Nat → Bool) (w : World) : Prop := ∃ cur, w.heap[mk]? = some (.cells cur 64 (0, 0)) ∧ cur.size = 72 ∧ ∀ v, v < 72 → cur[v]? = some (.bool (Mf v))
theorem MarkAt.move {mk : Nat} {Mf : Nat → Bool} {w w' : World} (h : MarkAt mk Mf w) (e : w'.heap[mk]? = w.heap[mk]?) : MarkAt mk Mf w' := by
  obtain ⟨cur, h1, h2⟩ := h
  exact ⟨cur, e.trans h1, h2⟩
theorem MarkAt.lt {mk : Nat} {Mf : Nat → Bool} {w : World} (h : MarkAt mk Mf w) : mk < w.heap.size := by
  obtain ⟨cur, h1, h2⟩ := h
  exact heap_lt h1
theorem MarkAt.cell {mk : Nat} {Mf : Nat → Bool} {w : World} (h : MarkAt mk Mf w) (v : Nat) (hv : v < 72) : w.cell? ⟨mk, v, none⟩ = some (.bool (Mf v)) := by
  obtain ⟨cur, h1, h2, h3⟩ := h
  rw [cell_of h1]; exact h3 v hv
theorem MarkAt.frozen {mk : Nat} {Mf : Nat → Bool} {w : World} (h : MarkAt mk Mf w) (v : Nat) : w.frozen? ⟨mk, v, none⟩ = false := by
  obtain ⟨cur, h1, h2, h3⟩ := h
  exact frozen_of h1 v
theorem MarkAt.set {mk : Nat} {Mf : Nat → Bool} {w : World} (h : MarkAt mk Mf w) (v : Nat) (hv : v < 72) : MarkAt mk (fun u => if u = v then true else Mf u) (w.setCell ⟨mk, v, none⟩ (.bool true)) := by
  obtain ⟨cur, h1, h2, h3⟩ := h
  refine ⟨_, heap_set h1 v _, by simpa using h2, fun u hu => ?_⟩
  rw [Array.getElem?_setIfInBounds]
  by_cases e : v = u
  · subst e; simp [h2, hv]
  · rw [if_neg e]
    simp only
    rw [if_neg (fun e' => e e'.symm)]
    exact h3 u hu
/-- the roles handed in -/
def RolesAt (rg pn : Nat) (K Bk : Nat → Nat) (j : Nat) (w : World) : Prop :=
  (∃ cur, w.heap[rg]? = some (.cells cur 42 (0, 0)) ∧ cur.size = pn ∧ ∀ t, t < j → cur[t]? = some (.pointer (some ⟨Bk t, 0, none⟩))) ∧ ∀ t, t < j → ∃ cs, w.heap[Bk t]? = some (.cells cs 73 (0, 0)) ∧ cs[9]? = some (.int .i64 (K t : Int))
theorem RolesAt.move {rg pn mk : Nat} {K Bk : Nat → Nat} {j : Nat} {w w' : World} (h : RolesAt rg pn K Bk j w) (hk : ∀ k o, w.heap[k]? = some o → k ≠ mk → w'.heap[k]? = some o) (hmk : ∃ cs, w.heap[mk]? = some (.cells cs 64 (0, 0))) : RolesAt rg pn K Bk j w' := by
  obtain ⟨⟨cur, h1, h2⟩, h3⟩ := h
  obtain ⟨cm, hm⟩ := hmk
  refine ⟨⟨cur, hk _ _ h1 (fun e => by subst e; rw [hm] at h1; simp at h1), h2⟩, fun t ht => ?_⟩
  obtain ⟨cs, h4, h5⟩ := h3 t ht
  exact ⟨cs, hk _ _ h4 (fun e => by rw [e, hm] at h4; simp at h4), h5⟩

theorem info42 : (Yba.prog.info? 42).map (fun i => (i.zero, i.size, i.bytes)) = some (some (.pointer none), 1, 8) := by kernel_rfl


/-! ### what stays as it is while the marks are set -/
theorem own_move2 {w w' : World} {B : Nat} {e : TypeId} {size : Nat} {v : Value} {n : Nat} {xs : List Value} (h : w.ownsRow B e size v n xs) (hb : ∀ (g : Nat) (cs : Array Value), w.heap[g]? = some (Obj.cells cs e (0, 0)) → w'.heap[g]? = w.heap[g]?) : w'.ownsRow B e size v n xs := by
  refine ⟨h.1, ?_⟩
  rcases h.2 with h0 | ⟨g, cap, cur, rfl, h1, h2, h3⟩
  · exact .inl h0
  · exact .inr ⟨g, cap, cur, rfl, h1, (hb g _ h2).trans h2, h3⟩

structure Fixed (w : World) (m : Nat) (F : Nat → Nat) (L : List (Int × Int)) (ao so : Option Addr) (cp scp hb : Nat) (wr : World) : Prop where
  bel : Below w.heap.size w wr
  first : FirstAt w.heap.size (m + 2) F (m + 2) L.length wr
  runs : wr.ownsRow w.heap.size 57 2 (.slice ao L.length cp) L.length (flat L)
  saved : wr.ownsRow w.heap.size 57 2 (.slice so L.length scp) L.length (flat L)
  hblk : wr.heap[hb]? = some (.cells #[.slice ao L.length cp, .slice (some ⟨w.heap.size, 0, none⟩) (m + 2) (m + 2), .map none] 62 (0, 0))

section
variable {w : World} {m : Nat} {F : Nat → Nat} {L : List (Int × Int)} {ao so : Option Addr} {cp scp hb : Nat} {wr wr' : World}
theorem Fixed.move (h : Fixed w m F L ao so cp scp hb wr) (hB : Below w.heap.size wr wr') (hk : ∀ (k : Nat) (cs : Array Value) (T : TypeId), wr.heap[k]? = some (Obj.cells cs T (0, 0)) → (T = 21 ∨ T = 57 ∨ T = 62) → wr'.heap[k]? = wr.heap[k]?) : Fixed w m F L ao so cp scp hb wr' := by
  refine ⟨h.bel.trans hB, ?_, own_move2 h.runs (fun g cs hg => hk g cs 57 hg (by simp)), own_move2 h.saved (fun g cs hg => hk g cs 57 hg (by simp)), (hk _ _ _ h.hblk (by simp)).trans h.hblk⟩
  obtain ⟨cur, hc, _⟩ := h.first.1
  exact h.first.grow (Nat.le_refl _) (hk _ _ _ hc (by simp))
theorem Fixed.size (h : Fixed w m F L ao so cp scp hb wr) : w.heap.size ≤ wr.heap.size := h.bel.size
theorem Fixed.alloc (h : Fixed w m F L ao so cp scp hb wr) (o : Obj) : Fixed w m F L ao so cp scp hb (wr.alloc o) :=
  h.move ((Below.refl _ wr).alloc h.size o) (fun k cs T hk _ => Below.heap_alloc _ _ _ (heap_lt hk))
theorem Fixed.set (h : Fixed w m F L ao so cp scp hb wr) {k : Nat} {cs : Array Value} {T : TypeId} (hk : wr.heap[k]? = some (.cells cs T (0, 0))) (hT : T ≠ 21 ∧ T ≠ 57 ∧ T ≠ 62) (hl : w.heap.size ≤ k) (i : Nat) (v : Value) : Fixed w m F L ao so cp scp hb (wr.setCell ⟨k, i, none⟩ v) := by
  refine h.move ((Below.refl _ wr).setCell hl _) (fun k' cs' T' hk' hT' => Below.heap_setCell _ _ _ _ (fun e => ?_))
  simp only at e
  subst e
  rw [hk] at hk'
  simp only [Option.some.injEq, Obj.cells.injEq] at hk'
  obtain ⟨_, rfl, _⟩ := hk'
  rcases hT' with e | e | e
  · exact hT.1 e
  · exact hT.2.1 e
  · exact hT.2.2 e
theorem Fixed.call (h : Fixed w m F L ao so cp scp hb wr) (hb' : Below wr.heap.size wr wr') : Fixed w m F L ao so cp scp hb wr' :=
  h.move (hb'.mono h.size) (fun k cs T hk _ => hb'.block k (heap_lt hk))
end

theorem RolesAt.alloc {rg pn : Nat} {K Bk : Nat → Nat} {j : Nat} {w : World} (h : RolesAt rg pn K Bk j w) (o : Obj) : RolesAt rg pn K Bk j (w.alloc o) := by
  obtain ⟨⟨cur, h1, h2⟩, h3⟩ := h
  refine ⟨⟨cur, (Below.heap_alloc _ _ _ (heap_lt h1)).trans h1, h2⟩, fun t ht => ?_⟩
  obtain ⟨cs, h4, h5⟩ := h3 t ht
  exact ⟨cs, (Below.heap_alloc _ _ _ (heap_lt h4)).trans h4, h5⟩
theorem RolesAt.call {rg pn : Nat} {K Bk : Nat → Nat} {j : Nat} {w w' : World} (h : RolesAt rg pn K Bk j w) (hb : Below w.heap.size w w') : RolesAt rg pn K Bk j w' := by
  obtain ⟨⟨cur, h1, h2⟩, h3⟩ := h
  refine ⟨⟨cur, (hb.block _ (heap_lt h1)).trans h1, h2⟩, fun t ht => ?_⟩
  obtain ⟨cs, h4, h5⟩ := h3 t ht
  exact ⟨cs, (hb.block _ (heap_lt h4)).trans h4, h5⟩
theorem RolesAt.mark {rg pn mk : Nat} {K Bk : Nat → Nat} {j : Nat} {w : World} (h : RolesAt rg pn K Bk j w) {cm : Array Value} (hm : w.heap[mk]? = some (.cells cm 64 (0, 0))) (v : Nat) (x : Value) : RolesAt rg pn K Bk j (w.setCell ⟨mk, v, none⟩ x) :=
  h.move (mk := mk) (fun k o hk hne => (Below.heap_setCell _ _ _ _ (by simpa using hne)).trans hk) ⟨cm, hm⟩
/-- one role more: its box, and the pointer laid into the row -/
theorem RolesAt.step {rg pn : Nat} {K Bk : Nat → Nat} {j : Nat} {w : World} (h : RolesAt rg pn K Bk j w) (hj : j < pn) (cs : Array Value) (h9 : cs[9]? = some (.int .i64 (K j : Int))) :
    RolesAt rg pn K (setF Bk j w.heap.size) (j + 1) ((w.setCell ⟨rg, j, none⟩ (.pointer (some ⟨w.heap.size, 0, none⟩))).alloc (.cells cs 73)) := by
  obtain ⟨⟨cur, h1, h2, h2'⟩, h3⟩ := h
  have hne : ∀ (k : Nat) (o : Array Value), w.heap[k]? = some (Obj.cells o 73 (0, 0)) → k ≠ rg := fun k o hk e => by subst e; rw [hk] at h1; simp at h1
  have hsz : (w.setCell ⟨rg, j, none⟩ (.pointer (some ⟨w.heap.size, 0, none⟩))).heap.size = w.heap.size := by simp [World.setCell]
  have hnew := heap_alloc_new (w.setCell ⟨rg, j, none⟩ (.pointer (some ⟨w.heap.size, 0, none⟩))) (.cells cs 73)
  rw [hsz] at hnew
  have hset := heap_set h1 j (.pointer (some ⟨w.heap.size, 0, none⟩))
  refine ⟨⟨_, (Below.heap_alloc _ _ _ (heap_lt hset)).trans hset, by simpa using h2, fun t ht => ?_⟩, fun t ht => ?_⟩
  · rw [Array.getElem?_setIfInBounds]
    by_cases e : j = t
    · subst e; simp [h2, hj, setF_same]
    · rw [if_neg e, setF_other _ _ _ _ (fun e' => e e'.symm)]; exact h2' t (by omega)
  · by_cases e : t = j
    · subst e
      rw [setF_same]
      exact ⟨cs, hnew, h9⟩
    · rw [setF_other _ _ _ _ e]
      obtain ⟨c2, h4, h5⟩ := h3 t (by omega)
      exact ⟨c2, (Below.heap_alloc _ _ _ (by rw [hsz]; exact heap_lt h4)).trans ((Below.heap_setCell _ _ _ _ (by simpa using hne _ _ h4)).trans h4), h5⟩
theorem RolesAt.cells {rg pn : Nat} {K Bk : Nat → Nat} {j : Nat} {w : World} (h : RolesAt rg pn K Bk j w) (t : Nat) (ht : t < j) : w.cell? ⟨rg, t, none⟩ = some (.pointer (some ⟨Bk t, 0, none⟩)) ∧ w.cell? ⟨Bk t, 9, none⟩ = some (.int .i64 (K t : Int)) := by
  obtain ⟨⟨cur, h1, h2, h2'⟩, h3⟩ := h
  obtain ⟨cs, h4, h5⟩ := h3 t ht
  exact ⟨by rw [cell_of h1]; exact h2' t ht, by rw [cell_of h4]; exact h5⟩

theorem MarkAt.role {mk rg : Nat} {Mf : Nat → Bool} {w : World} (h : MarkAt mk Mf w) {cs : Array Value} (hr : w.heap[rg]? = some (.cells cs 42 (0, 0))) (j : Nat) (x : Value) (o : Obj) : MarkAt mk Mf ((w.setCell ⟨rg, j, none⟩ x).alloc o) := by
  have hne : mk ≠ rg := fun e => by
    obtain ⟨cur, h1, _⟩ := h
    subst e
    rw [h1] at hr
    simp at hr
  refine h.move ((Below.heap_alloc _ _ _ (by simpa [World.setCell] using h.lt)).trans (Below.heap_setCell _ _ _ _ (by simpa using hne)))
/-- the first two places of a run of one's own -/
theorem runs_cells {w : World} {B n c : Nat} {ao : Option Addr} {L : List (Int × Int)} (h : w.ownsRow B 57 2 (.slice ao n c) L.length (flat L)) (t : Nat) (x : Int × Int) (ht : L[t]? = some x) : ∃ g, ao = some ⟨g, 0, none⟩ ∧ w.cell? ⟨g, t * 2, none⟩ = some (.int .i32 x.1) ∧ w.cell? ⟨g, t * 2 + 1, none⟩ = some (.int .i32 x.2) := by
  obtain ⟨h1, _, _, h2⟩ := runs_own h
  have hlt := (List.getElem?_eq_some_iff.1 ht).1
  rcases h2 with ⟨_, h0, _⟩ | ⟨g, e, hg⟩
  · omega
  · exact ⟨g, e, hg t x ht⟩
theorem FirstAt.cell {fb n : Nat} {F : Nat → Nat} {k len : Nat} {w : World} (h : FirstAt fb n F k len w) (j : Nat) (hj : j < k) : w.cell? ⟨fb, j, none⟩ = some (.int .i32 (F j : Int)) := by
  obtain ⟨⟨cur, h0, h1, h2⟩, _⟩ := h
  rw [cell_of h0]; exact h2 j hj

/-! ### the marks, plainly -/
def collT (L : List (Int × Int)) (F K : Nat → Nat) (j t : Nat) : List (Int × Int) := coll L F K j ++ (L.drop (F (K j))).take (t - F (K j))
theorem collT_start (L : List (Int × Int)) (F K : Nat → Nat) (j : Nat) : collT L F K j (F (K j)) = coll L F K j := by simp [collT]
theorem collT_end (L : List (Int × Int)) (F K : Nat → Nat) (j : Nat) : collT L F K j (F (K j + 1)) = coll L F K (j + 1) := rfl
theorem collT_step (L : List (Int × Int)) (F K : Nat → Nat) (j t : Nat) (x : Int × Int) (h : L[t]? = some x) (hf : F (K j) ≤ t) : collT L F K j (t + 1) = collT L F K j t ++ [x] := by
  unfold collT
  rw [List.append_assoc]
  congr 1
  rw [show t + 1 - F (K j) = (t - F (K j)) + 1 by omega, List.take_add_one, List.getElem?_drop, show F (K j) + (t - F (K j)) = t by omega, h]
  rfl
def St (C : List (Int × Int)) (s : Bool) (Mf : Nat → Bool) : Prop := (s = true ↔ C ≠ []) ∧ ∀ v : Nat, v < 72 → (Mf v = true ↔ Cov C (v : Int))
theorem cov_snoc (C : List (Int × Int)) (x : Int × Int) (v : Int) : Cov (C ++ [x]) v ↔ Cov C v ∨ (x.1 ≤ v ∧ v ≤ x.2) := by
  unfold Cov
  constructor
  · rintro ⟨y, hy, h⟩
    rw [List.mem_append] at hy
    rcases hy with hy | hy
    · exact .inl ⟨y, hy, h⟩
    · simp at hy; subst hy; exact .inr h
  · rintro (⟨y, hy, h⟩ | h)
    · exact ⟨y, by simp [hy], h⟩
    · exact ⟨x, by simp, h⟩
/-- the marks while a run is marked -/
def StR (C : List (Int × Int)) (lo v : Int) (Mf : Nat → Bool) : Prop := ∀ u : Nat, u < 72 → (Mf u = true ↔ Cov C (u : Int) ∨ (lo ≤ (u : Int) ∧ (u : Int) < v))
theorem StR.start {C : List (Int × Int)} {s : Bool} {Mf : Nat → Bool} (h : St C s Mf) (lo : Int) : StR C lo lo Mf := by
  intro u hu
  rw [h.2 u hu]
  constructor
  · exact .inl
  · rintro (h | h)
    · exact h
    · omega
theorem StR.step {C : List (Int × Int)} {lo : Int} {v : Nat} {Mf : Nat → Bool} (h : StR C lo (v : Int) Mf) (hl : lo ≤ (v : Int)) : StR C lo ((v : Int) + 1) (fun u => if u = v then true else Mf u) := by
  intro u hu
  by_cases e : u = v
  · subst e
    simp only [if_true, true_iff]
    exact .inr ⟨hl, by omega⟩
  · simp only [if_neg e]
    rw [h u hu]
    constructor
    · rintro (h | h)
      · exact .inl h
      · exact .inr ⟨h.1, by omega⟩
    · rintro (h | h)
      · exact .inl h
      · exact .inr ⟨h.1, by omega⟩
theorem StR.done {C : List (Int × Int)} {x : Int × Int} {v : Int} {Mf : Nat → Bool} (h : StR C x.1 v Mf) (hv : v = x.2 + 1) : St (C ++ [x]) true Mf := by
  refine ⟨by simp, fun u hu => ?_⟩
  rw [h u hu, cov_snoc]
  constructor
  · rintro (h | h)
    · exact .inl h
    · exact .inr ⟨h.1, by omega⟩
  · rintro (h | h)
    · exact .inl h
    · exact .inr ⟨h.1, by omega⟩

/-- the ranks wanted so far -/
def Want (Mf : Nat → Bool) (v : Nat) (wl : List Int) : Prop := wl.Pairwise (· < ·) ∧ (∀ x, x ∈ wl ↔ 0 ≤ x ∧ x < (v : Int) ∧ Mf x.toNat = true) ∧ wl.length ≤ v
theorem Want.start (Mf : Nat → Bool) : Want Mf 0 [] := ⟨List.Pairwise.nil, fun x => ⟨fun h => by simp at h, fun h => by omega⟩, by simp⟩
theorem Want.yes {Mf : Nat → Bool} {v : Nat} {wl : List Int} (h : Want Mf v wl) (hv : Mf v = true) : Want Mf (v + 1) (wl ++ [(v : Int)]) := by
  obtain ⟨h1, h2, h3⟩ := h
  refine ⟨?_, fun x => ?_, by simp; omega⟩
  · rw [List.pairwise_append]
    exact ⟨h1, by simp, fun a ha b hb => by simp at hb; subst hb; exact ((h2 a).1 ha).2.1⟩
  · simp only [List.mem_append, List.mem_singleton, h2 x]
    constructor
    · rintro (h | rfl)
      · exact ⟨h.1, by omega, h.2.2⟩
      · exact ⟨by omega, by omega, by simpa using hv⟩
    · rintro ⟨a, b, c⟩
      by_cases e : x = (v : Int)
      · exact .inr e
      · exact .inl ⟨a, by omega, c⟩
theorem Want.no {Mf : Nat → Bool} {v : Nat} {wl : List Int} (h : Want Mf v wl) (hv : Mf v = false) : Want Mf (v + 1) wl := by
  obtain ⟨h1, h2, h3⟩ := h
  refine ⟨h1, fun x => ?_, by omega⟩
  rw [h2 x]
  constructor
  · rintro ⟨a, b, c⟩
    exact ⟨a, by omega, c⟩
  · rintro ⟨a, b, c⟩
    refine ⟨a, ?_, c⟩
    have : x ≠ (v : Int) := fun e => by subst e; simp [hv] at c
    omega
/-- got is want -/
theorem got_want {C : List (Int × Int)} {s : Bool} {Mf : Nat → Bool} {gl wl : List Int} (hC : InR C) (hS : St C s Mf) (h1 : gl.Pairwise (· < ·)) (h2 : ∀ x, x ∈ gl ↔ Cov C x) (hw : Want Mf 72 wl) : gl = wl := by
  refine asc_ext gl wl h1 hw.1 fun x => ?_
  rw [h2, hw.2.1]
  constructor
  · intro h
    obtain ⟨y, hy, hxy⟩ := h
    have hr := hC y hy
    obtain ⟨n, rfl⟩ : ∃ n : Nat, x = (n : Int) := ⟨x.toNat, by omega⟩
    exact ⟨by omega, by omega, by simpa using (hS.2 n (by omega)).2 ⟨y, hy, hxy⟩⟩
  · rintro ⟨a, b, c⟩
    obtain ⟨n, rfl⟩ : ∃ n : Nat, x = (n : Int) := ⟨x.toNat, by omega⟩
    exact (hS.2 n (by omega)).1 (by simpa using c)
/-! ### the two comparisons -/
theorem own_int_cells {w : World} {B n c : Nat} {ao : Option Addr} {gl : List Int} (h : w.ownsRow B 21 1 (.slice ao n c) gl.length (gl.map (Value.int .i32))) (k : Nat) (x : Int) (hk : gl[k]? = some x) : ∃ g, ao = some ⟨g, 0, none⟩ ∧ w.cell? ⟨g, k, none⟩ = some (.int .i32 x) := by
  have hlt := (List.getElem?_eq_some_iff.1 hk).1
  rcases h.2 with ⟨_, h0⟩ | ⟨g, cap, cur, e, _⟩
  · omega
  · injection e with e1 e2 e3
    subst e1
    refine ⟨g, rfl, ?_⟩
    have := h.cells (g := g) rfl k (.int .i32 x) (by simp [hk])
    rwa [Go.WideShapes.add_plain, Nat.zero_add] at this
theorem eq15_own {w : World} {B1 B2 c1 c2 : Nat} {a1 a2 : Option Addr} {gl : List Int} (h1 : w.ownsRow B1 21 1 (.slice a1 gl.length c1) gl.length (gl.map (Value.int .i32))) (h2 : w.ownsRow B2 21 1 (.slice a2 gl.length c2) gl.length (gl.map (Value.int .i32))) (hl : gl.length ≤ 10000000) :
    Calls Yba.prog 15 #[.slice a1 gl.length c1, .slice a2 gl.length c2] w fun e w' => e = .returned (.bool true) ∧ Below w.heap.size w w' := by
  refine equal15 a1 a2 gl.length c1 c2 (fun k => gl[k]?.getD 0) w hl (fun k hk => ?_)
  have hx : gl[k]? = some gl[k] := List.getElem?_eq_getElem hk
  obtain ⟨g1, e1, k1⟩ := own_int_cells h1 k _ hx
  obtain ⟨g2, e2, k2⟩ := own_int_cells h2 k _ hx
  exact ⟨g1, g2, e1, e2, by rw [k1]; simp [hx], by rw [k2]; simp [hx]⟩
theorem eq14_own {w : World} {B1 B2 c1 c2 : Nat} {a1 a2 : Option Addr} {L : List (Int × Int)} (h1 : w.ownsRow B1 57 2 (.slice a1 L.length c1) L.length (flat L)) (h2 : w.ownsRow B2 57 2 (.slice a2 L.length c2) L.length (flat L)) (hl : L.length ≤ 10000000) :
    Calls Yba.prog 14 #[.slice a1 L.length c1, .slice a2 L.length c2] w fun e w' => e = .returned (.bool true) ∧ Below w.heap.size w w' := by
  refine equal14 a1 a2 L.length c1 c2 (atL L) w hl (fun k hk => ?_)
  have hx : L[k]? = some L[k] := List.getElem?_eq_getElem hk
  have ha : atL L k = L[k] := by simp [atL, hx]
  obtain ⟨g1, e1, k1, k1'⟩ := runs_cells h1 k _ hx
  obtain ⟨g2, e2, k2, k2'⟩ := runs_cells h2 k _ hx
  rw [ha]
  exact ⟨g1, g2, e1, e2, k1, k1', k2, k2'⟩
end Go.Proofs.Ybulkchvi
