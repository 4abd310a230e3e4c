import Derived.Test.YbulkchviB1
import Derived.Test.Ybulkchvi2
namespace Go.Proofs.Ybulkchvi
open Go.RowKit
set_option linter.unusedVariables false
set_option linter.unusedSimpArgs false
set_option maxRecDepth 100000

/-! ### the plain side: runs merged -/
def CovN (f : Nat → Int × Int) (q : Nat) (v : Int) : Prop := ∃ t, t < q ∧ (f t).1 ≤ v ∧ v ≤ (f t).2
def AscN (f : Nat → Int × Int) (q : Nat) : Prop := (∀ t, t < q → 0 ≤ (f t).1 ∧ (f t).1 ≤ (f t).2 ∧ (f t).2 ≤ 71) ∧ ∀ t, t + 1 < q → (f t).2 + 1 < (f (t + 1)).1
def setN (f : Nat → Int × Int) (k : Nat) (x : Int × Int) : Nat → Int × Int := fun t => if t = k then x else f t

theorem setN_same (f : Nat → Int × Int) (k : Nat) (x : Int × Int) : setN f k x k = x := by simp [setN]

/-- the runs of D up to i merged into the p + 1 runs of f -/
def MInv (D : Nat → Int × Int) (i p : Nat) (f : Nat → Int × Int) : Prop :=
  p ≤ i ∧ AscN f (p + 1) ∧ (f p).1 ≤ (D i).1 ∧ ∀ v, CovN f (p + 1) v ↔ CovN D (i + 1) v

theorem cov_succ (f : Nat → Int × Int) (q : Nat) (v : Int) : CovN f (q + 1) v ↔ CovN f q v ∨ ((f q).1 ≤ v ∧ v ≤ (f q).2) := by
  constructor
  · rintro ⟨t, h1, h2⟩
    by_cases e : t = q
    · subst e; exact .inr h2
    · exact .inl ⟨t, by omega, h2⟩
  · rintro (⟨t, h1, h2⟩ | h)
    · exact ⟨t, by omega, h2⟩
    · exact ⟨q, by omega, h⟩
theorem cov_setN (f : Nat → Int × Int) (q k : Nat) (x : Int × Int) (v : Int) (h : q ≤ k) : CovN (setN f k x) q v ↔ CovN f q v := by
  constructor
  · rintro ⟨t, h1, h2⟩
    simp only [setN, if_neg (show ¬ t = k by omega)] at h2
    exact ⟨t, h1, h2⟩
  · rintro ⟨t, h1, h2⟩
    refine ⟨t, h1, ?_⟩
    simp only [setN, if_neg (show ¬ t = k by omega)]
    exact h2

theorem minv_start (D : Nat → Int × Int) (h : 0 ≤ (D 0).1 ∧ (D 0).1 ≤ (D 0).2 ∧ (D 0).2 ≤ 71) : MInv D 0 0 D :=
  ⟨Nat.le_refl _, ⟨fun t ht => by obtain rfl : t = 0 := by omega
                                  exact h, fun t ht => by omega⟩, Int.le_refl _, fun v => Iff.rfl⟩
theorem minv_new {D : Nat → Int × Int} {i p : Nat} {f : Nat → Int × Int} (h : MInv D i p f) (hd : 0 ≤ (D (i + 1)).1 ∧ (D (i + 1)).1 ≤ (D (i + 1)).2 ∧ (D (i + 1)).2 ≤ 71) (hg : (f p).2 + 1 < (D (i + 1)).1) : MInv D (i + 1) (p + 1) (setN f (p + 1) (D (i + 1))) := by
  obtain ⟨h1, ⟨h2, h3⟩, h4, h5⟩ := h
  refine ⟨by omega, ⟨fun t ht => ?_, fun t ht => ?_⟩, by simp [setN], fun v => ?_⟩
  · by_cases e : t = p + 1
    · subst e; simpa [setN] using hd
    · simp only [setN, if_neg e]; exact h2 t (by omega)
  · by_cases e : t = p
    · subst e; simpa [setN] using hg
    · simp only [setN, if_neg (show ¬ t = p + 1 by omega), if_neg (show ¬ t + 1 = p + 1 by omega)]; exact h3 t (by omega)
  · rw [cov_succ, cov_setN _ _ _ _ _ (Nat.le_refl _), cov_succ D, h5 v]
    simp [setN]
theorem minv_join {D : Nat → Int × Int} {i p : Nat} {f : Nat → Int × Int} (h : MInv D i p f) (hd : 0 ≤ (D (i + 1)).1 ∧ (D (i + 1)).1 ≤ (D (i + 1)).2 ∧ (D (i + 1)).2 ≤ 71) (hs : (D i).1 ≤ (D (i + 1)).1) (hg : (D (i + 1)).1 ≤ (f p).2 + 1) : MInv D (i + 1) p (setN f p ((f p).1, max (f p).2 (D (i + 1)).2)) := by
  obtain ⟨h1, ⟨h2, h3⟩, h4, h5⟩ := h
  have hp := h2 p (by omega)
  refine ⟨by omega, ⟨fun t ht => ?_, fun t ht => ?_⟩, by simp [setN]; omega, fun v => ?_⟩
  · by_cases e : t = p
    · subst e; rw [setN_same]; simp only; omega
    · simp only [setN, if_neg e]; exact h2 t (by omega)
  · by_cases e : t + 1 = p
    · have h33 := h3 t (by omega)
      simp only [setN, if_neg (show ¬ t = p by omega), if_pos e]
      rw [e] at h33
      exact h33
    · simp only [setN, if_neg (show ¬ t = p by omega), if_neg e]; exact h3 t (by omega)
  · rw [cov_succ, cov_setN _ _ _ _ _ (Nat.le_refl _), cov_succ D, ← h5 v, cov_succ f]
    rw [setN_same]
    simp only
    constructor
    · rintro (h | ⟨a, b⟩)
      · exact .inl (.inl h)
      · by_cases c : v ≤ (f p).2
        · exact .inl (.inr ⟨a, c⟩)
        · exact .inr ⟨by omega, by omega⟩
    · rintro ((h | ⟨a, b⟩) | ⟨a, b⟩)
      · exact .inl h
      · exact .inr ⟨a, by omega⟩
      · exact .inr ⟨by omega, by omega⟩

/-! ### a block of runs -/
def BlkAt (g N : Nat) (h : Nat → Value) (w : World) : Prop := ∃ cur, w.heap[g]? = some (.cells cur 57 (0, 0)) ∧ cur.size = N ∧ ∀ t, t < N → cur[t]? = some (h t)
def Set1 (h : Nat → Value) (p : Nat) (v : Value) : Nat → Value := fun t => if t = p then v else h t

theorem BlkAt.cell {g N : Nat} {h : Nat → Value} {w : World} (hb : BlkAt g N h w) (t : Nat) (ht : t < N) : w.cell? ⟨g, t, none⟩ = some (h t) := by
  obtain ⟨cur, h1, h2, h3⟩ := hb
  rw [cell_of h1]; exact h3 t ht
theorem BlkAt.frozen {g N : Nat} {h : Nat → Value} {w : World} (hb : BlkAt g N h w) (t : Nat) : w.frozen? ⟨g, t, none⟩ = false := by
  obtain ⟨cur, h1, h2, h3⟩ := hb
  exact frozen_of h1 t
theorem BlkAt.move {g N : Nat} {h : Nat → Value} {w w' : World} (hb : BlkAt g N h w) (e : w'.heap[g]? = w.heap[g]?) : BlkAt g N h w' := by
  obtain ⟨cur, h1, h2⟩ := hb
  exact ⟨cur, e.trans h1, h2⟩
theorem BlkAt.lt {g N : Nat} {h : Nat → Value} {w : World} (hb : BlkAt g N h w) : g < w.heap.size := by
  obtain ⟨cur, h1, h2⟩ := hb
  exact heap_lt h1
theorem BlkAt.set {g N : Nat} {h : Nat → Value} {w : World} (hb : BlkAt g N h w) (p : Nat) (v : Value) : BlkAt g N (Set1 h p v) (w.setCell ⟨g, p, none⟩ v) := by
  obtain ⟨cur, h1, h2, h3⟩ := hb
  refine ⟨_, heap_set h1 p v, by simpa using h2, fun t ht => ?_⟩
  rw [Array.getElem?_setIfInBounds]
  simp only [Set1]
  by_cases e : p = t
  · subst e; simp [h2, ht]
  · rw [if_neg e, if_neg (fun e' => e e'.symm)]; exact h3 t ht

section
variable (w : World)
theorem wpList_append_in {ops : Array Oper} {rest : List Oper} {o : Oper} {a : Act} {Q : Exit → Act → World → Prop} (hgd : o.guard = none) (s x : Operand) 
    (ho : o.op = .call { callee := .builtin .append, args := #[s, x], argTypes := #[52, 52] })
    (g q cap : Nat) (h : Nat → Value) (hs : a.eval s = .slice (some ⟨g, 0, none⟩) q cap) (hb : BlkAt g (cap * 2) h w)
    (ad : Addr) (c : Nat) (x0 x1 : Value) (hx : a.eval x = .slice (some ad) 1 c) (hnews : ∀ j u, [x0, x1][j]? = some u → w.cell? (ad.add j) = some u) (h1 : ∀ u ∈ [x0, x1], u.oneCell' = true) (hq : q < cap)
    (hk : ∀ w', BlkAt g (cap * 2) (Set1 (Set1 h (q * 2) x0) (q * 2 + 1) x1) w' → Fr g g none w w' → wpList Yba.prog ops Q rest (a.put o.dst (.slice (some ⟨g, 0, none⟩) (q + 1) cap)) w') : wpList Yba.prog ops Q (o :: rest) a w := by
  refine wpList_plain hgd fun K hK => ?_
  obtain ⟨i0, hi, hz0, hz1, hz2⟩ := info_parts info57
  obtain ⟨cur, b1, b2, b3⟩ := hb
  have hr := run_append_room (P := Yba.prog) w 52 o.type 57 i0 Yba.underlying52 hi g q cap cur b1 ad 1 c [x0, x1] (by rw [hz1]; rfl) hnews h1 (by omega) (by rw [hz1]; simp; omega)
  unfold Oper.wp execOp
  simp only [ho, resolve, invoke, builtin, Sem.run_bind, Sem.run_pure, Result.andThen_ok, List.map_toArray, List.map_cons, List.map_nil, hs, hx, hr]
  refine hK _ _ (hk _ ?_ ?_)
  · rw [hz1]
    have hlen : cur.toList.length = cap * 2 := by simpa using b2
    refine ⟨_, setRow_heap w g cur _ 57 (0, 0) b1, by simp; omega, fun t ht => ?_⟩
    have hb := b3 t ht
    rw [← Array.getElem?_toList] at hb
    rw [List.getElem?_toArray]
    simp only [Set1, List.length_cons, List.length_nil]
    by_cases c1 : t < q * 2
    · rw [if_neg (by omega), if_neg (by omega), List.getElem?_append_left (by simp; omega), List.getElem?_append_left (by simp; omega), List.getElem?_take_of_lt c1]
      exact hb
    · by_cases c2 : t = q * 2
      · subst c2
        rw [if_neg (by omega), if_pos rfl, List.getElem?_append_left (by simp; omega), List.getElem?_append_right (by simp; omega)]
        simp [show min (q * 2) cur.size = q * 2 by omega]
      · by_cases c3 : t = q * 2 + 1
        · subst c3
          rw [if_pos rfl, List.getElem?_append_left (by simp; omega), List.getElem?_append_right (by simp; omega)]
          simp [show min (q * 2) cur.size = q * 2 by omega]
        · rw [if_neg c3, if_neg c2, List.getElem?_append_right (by simp; omega), List.getElem?_drop, ← hb]
          congr 1
          simp
          omega
  · exact ⟨rfl, rfl, rfl, by simp, fun k hk h1 _ _ => setRow_other w g k _ (by omega)⟩
end
end Go.Proofs.Ybulkchvi
