import Derived.Test.YbulkchviB3
namespace Go.Proofs.Ybulkchvi
open Go.RowKit
set_option linter.unusedVariables false
set_option linter.unusedSimpArgs false
set_option maxRecDepth 100000

/-! ### what is collected -/
def coll (L : List (Int × Int)) (F K : Nat → Nat) : Nat → List (Int × Int)
  | 0 => []
  | j + 1 => coll L F K j ++ (L.drop (F (K j))).take (F (K j + 1) - F (K j))
def flat (l : List (Int × Int)) : List Value := l.flatMap enc2
theorem flat_append (a b : List (Int × Int)) : flat (a ++ b) = flat a ++ flat b := by simp [flat]
theorem flat_len : ∀ (l : List (Int × Int)), (flat l).length = l.length * 2
  | [] => rfl
  | x :: l => by
    have := flat_len l
    simp only [flat, List.flatMap_cons, List.length_append, List.length_cons] at *
    simp [enc2, this]
    omega
theorem flat_one (l : List (Int × Int)) : ∀ u ∈ flat l, u.oneCell' = true := by
  intro u hu
  simp only [flat, List.mem_flatMap, enc2] at hu
  obtain ⟨x, _, hx⟩ := hu
  simp at hx
  rcases hx with rfl | rfl <;> rfl
/-- the cells of a list of runs, by their places -/
theorem flat_get : ∀ (l : List (Int × Int)) (t : Nat) (x : Int × Int), l[t]? = some x → (flat l)[t * 2]? = some (.int .i32 x.1) ∧ (flat l)[t * 2 + 1]? = some (.int .i32 x.2)
  | [], t, x, h => by simp at h
  | y :: l, 0, x, h => by
    simp at h
    subst h
    simp [flat, enc2]
  | y :: l, t + 1, x, h => by
    have := flat_get l t x (by simpa using h)
    have e : flat (y :: l) = .int .i32 y.1 :: .int .i32 y.2 :: flat l := by simp [flat, enc2]
    rw [e, show (t + 1) * 2 = t * 2 + 1 + 1 by omega]
    simpa using this
theorem flat_get' (l : List (Int × Int)) (j : Nat) (u : Value) (h : (flat l)[j]? = some u) : ∃ t x, l[t]? = some x ∧ ((j = t * 2 ∧ u = .int .i32 x.1) ∨ (j = t * 2 + 1 ∧ u = .int .i32 x.2)) := by
  have hj : j < l.length * 2 := by
    rw [← flat_len]
    exact (List.getElem?_eq_some_iff.1 h).1
  have ht : j / 2 < l.length := by omega
  obtain ⟨h0, h1⟩ := flat_get l (j / 2) l[j / 2] (List.getElem?_eq_getElem ht)
  refine ⟨j / 2, l[j / 2], List.getElem?_eq_getElem ht, ?_⟩
  by_cases e : j % 2 = 0
  · rw [show j / 2 * 2 = j by omega, h] at h0
    exact .inl ⟨by omega, by simpa using h0⟩
  · rw [show j / 2 * 2 + 1 = j by omega, h] at h1
    exact .inr ⟨by omega, by simpa using h1⟩
def Cov (l : List (Int × Int)) (v : Int) : Prop := ∃ x ∈ l, x.1 ≤ v ∧ v ≤ x.2
/-- a list's places as a function -/
def atL (l : List (Int × Int)) (t : Nat) : Int × Int := l[t]?.getD (0, 0)
theorem cov_atL (l : List (Int × Int)) (v : Int) : CovN (atL l) l.length v ↔ Cov l v := by
  constructor
  · rintro ⟨t, ht, h⟩
    simp only [atL, List.getElem?_eq_getElem ht, Option.getD_some] at h
    exact ⟨l[t], List.getElem_mem ht, h⟩
  · rintro ⟨x, hx, h⟩
    obtain ⟨t, ht, e⟩ := List.getElem_of_mem hx
    refine ⟨t, ht, ?_⟩
    simp only [atL, List.getElem?_eq_getElem ht, Option.getD_some, e]
    exact h

theorem asc_lt {f : Nat → Int × Int} {q : Nat} (h : AscN f q) (i : Nat) (hi : i < q) : ∀ t, t < i → (f t).2 + 1 < (f i).1 := by
  induction i with
  | zero => intro t ht; omega
  | succ i ih =>
    intro t ht
    by_cases e : t = i
    · subst e; exact h.2 t hi
    · have h1 := ih (by omega) t (by omega)
      have h2 := h.2 i hi
      have h3 := h.1 i (by omega)
      omega

/-- the ranks given out so far: those of the runs below i, and from the i-th those below k -/
def RInv (f : Nat → Int × Int) (i : Nat) (k : Int) (gl : List Int) : Prop :=
  gl.Pairwise (· < ·) ∧ (∀ v, v ∈ gl ↔ CovN f i v ∨ ((f i).1 ≤ v ∧ v < k)) ∧ (∀ v ∈ gl, v < k) ∧ (gl.length : Int) ≤ k
def R2 (f : Nat → Int × Int) (q i : Nat) (gl : List Int) : Prop :=
  gl.Pairwise (· < ·) ∧ (∀ v, v ∈ gl ↔ CovN f i v) ∧ gl.length ≤ 72 ∧ (i < q → (gl.length : Int) ≤ (f i).1)
theorem r2_start (f : Nat → Int × Int) (q : Nat) (h : AscN f q) : R2 f q 0 [] :=
  ⟨List.Pairwise.nil, fun v => ⟨fun h => by simp at h, fun ⟨t, ht, _⟩ => by omega⟩, by simp, fun hq => by simpa using (h.1 0 hq).1⟩
theorem rinv_start {f : Nat → Int × Int} {q i : Nat} {gl : List Int} (ha : AscN f q) (h : R2 f q i gl) (hi : i < q) : RInv f i (f i).1 gl := by
  obtain ⟨h1, h2, h3, h4⟩ := h
  refine ⟨h1, fun v => ?_, fun v hv => ?_, h4 hi⟩
  · rw [h2 v]
    constructor
    · exact .inl
    · rintro (h | h)
      · exact h
      · omega
  · obtain ⟨t, ht, h5⟩ := (h2 v).1 hv
    have := asc_lt ha i hi t ht
    omega
theorem rinv_step {f : Nat → Int × Int} {i : Nat} {k : Int} {gl : List Int} (h : RInv f i k gl) (hk : (f i).1 ≤ k) : RInv f i (k + 1) (gl ++ [k]) := by
  obtain ⟨h1, h2, h3, h4⟩ := h
  refine ⟨?_, fun v => ?_, fun v hv => ?_, by simp; omega⟩
  · rw [List.pairwise_append]
    exact ⟨h1, by simp, fun a ha b hb => by simp at hb; subst hb; exact h3 a ha⟩
  · simp only [List.mem_append, List.mem_singleton, h2 v]
    constructor
    · rintro ((h | h) | h)
      · exact .inl h
      · exact .inr ⟨h.1, by omega⟩
      · exact .inr ⟨by omega, by omega⟩
    · rintro (h | h)
      · exact .inl (.inl h)
      · by_cases e : v = k
        · exact .inr e
        · exact .inl (.inr ⟨h.1, by omega⟩)
  · simp at hv
    rcases hv with hv | rfl
    · have := h3 v hv; omega
    · omega
theorem rinv_end {f : Nat → Int × Int} {q i : Nat} {k : Int} {gl : List Int} (ha : AscN f q) (h : RInv f i k gl) (hi : i < q) (hk : k = (f i).2 + 1) : R2 f q (i + 1) gl := by
  obtain ⟨h1, h2, h3, h4⟩ := h
  have hb := ha.1 i hi
  refine ⟨h1, fun v => ?_, by omega, fun hq => ?_⟩
  · rw [h2 v, cov_succ]
    constructor
    · rintro (h | h)
      · exact .inl h
      · exact .inr ⟨h.1, by omega⟩
    · rintro (h | h)
      · exact .inl h
      · exact .inr ⟨h.1, by omega⟩
  · have := ha.2 i hq
    omega

theorem asc_ext : ∀ (a b : List Int), a.Pairwise (· < ·) → b.Pairwise (· < ·) → (∀ v, v ∈ a ↔ v ∈ b) → a = b
  | [], [], _, _, _ => rfl
  | [], y :: b, _, _, h => by have := (h y).2 (by simp); simp at this
  | x :: a, [], _, _, h => by have := (h x).1 (by simp); simp at this
  | x :: a, y :: b, ha, hb, h => by
    rw [List.pairwise_cons] at ha hb
    have e : x = y := by
      have h1 := (h x).1 (by simp)
      have h2 := (h y).2 (by simp)
      simp only [List.mem_cons] at h1 h2
      rcases h1 with h1 | h1
      · exact h1
      · rcases h2 with h2 | h2
        · exact h2.symm
        · have := ha.1 y h2; have := hb.1 x h1; omega
    subst e
    congr 1
    refine asc_ext a b ha.2 hb.2 fun v => ?_
    constructor
    · intro hv
      have h1 := (h v).1 (by simp [hv])
      simp only [List.mem_cons] at h1
      rcases h1 with h1 | h1
      · have := ha.1 v hv; omega
      · exact h1
    · intro hv
      have h1 := (h v).2 (by simp [hv])
      simp only [List.mem_cons] at h1
      rcases h1 with h1 | h1
      · have := hb.1 v hv; omega
      · exact h1
end Go.Proofs.Ybulkchvi
