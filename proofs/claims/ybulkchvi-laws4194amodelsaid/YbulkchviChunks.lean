import Derived.Test.YbulkchviEq
namespace Go.Proofs.Ybulkchvi
open Go.RowKit
set_option linter.unusedVariables false
set_option linter.unusedSimpArgs false
set_option maxRecDepth 100000

theorem own_move {w w' : World} {B : Nat} {e : TypeId} {size : Nat} {v : Value} {n : Nat} {xs : List Value} (h : w.ownsRow B e size v n xs) (hb : ∀ g, v.ownBlock = some g → g < w.heap.size → w'.heap[g]? = w.heap[g]?) : w'.ownsRow B e size v n xs := by
  refine ⟨h.1, ?_⟩
  rcases h.2 with h0 | ⟨g, cap, cur, rfl, h1, h2, h3⟩
  · exact .inl h0
  · exact .inr ⟨g, cap, cur, rfl, h1, (hb g rfl (heap_lt h2)).trans h2, h3⟩
theorem own_lt {w : World} {B : Nat} {e : TypeId} {size : Nat} {v : Value} {n : Nat} {xs : List Value} (h : w.ownsRow B e size v n xs) : ∀ g, v.ownBlock = some g → g < w.heap.size := by
  rcases h.2 with ⟨rfl, _⟩ | ⟨g, cap, cur, rfl, h1, h2, h3⟩
  · intro g hg; simp [Value.ownBlock] at hg
  · intro g' hg; simp [Value.ownBlock] at hg; subst hg; exact heap_lt h2
theorem own_slice {w : World} {B : Nat} {e : TypeId} {size : Nat} {v : Value} {n : Nat} {xs : List Value} (h : w.ownsRow B e size v n xs) : ∃ ao c, v = .slice ao n c := by
  rcases h.2 with ⟨rfl, rfl⟩ | ⟨g, cap, cur, rfl, h1, h2, h3⟩
  · exact ⟨_, _, rfl⟩
  · exact ⟨_, _, rfl⟩

/-- a list of c faults' cells -/
def Chunks (c : Nat) (l : List Value) : Prop :=
  l.length = 7 * c ∧ ∀ k, k < c → ∃ m i u f, ∀ t v, (fault m i u f)[t]? = some v → l[k * 7 + t]? = some v

theorem fault_len {m i u f : Int} {t : Nat} {v : Value} (h : (fault m i u f)[t]? = some v) : t < 7 := by
  rcases Nat.lt_or_ge t 7 with h1 | h1
  · exact h1
  · rw [List.getElem?_eq_none (by simpa [fault] using h1)] at h; cases h
theorem Chunks.nil : Chunks 0 [] := ⟨rfl, fun k hk => by omega⟩
theorem Chunks.snoc {c : Nat} {l : List Value} (h : Chunks c l) (m i u f : Int) : Chunks (c + 1) (l ++ fault m i u f) := by
  refine ⟨by have := h.1; simp [fault]; omega, fun k hk => ?_⟩
  by_cases hkc : k < c
  · obtain ⟨m', i', u', f', h'⟩ := h.2 k hkc
    refine ⟨m', i', u', f', fun t v ht => ?_⟩
    have := fault_len ht
    have := h.1
    rw [List.getElem?_append_left (by omega)]
    exact h' t v ht
  · have hk' : k = c := by omega
    subst hk'
    refine ⟨m, i, u, f, fun t v ht => ?_⟩
    have := h.1
    rw [List.getElem?_append_right (by omega), show k * 7 + t - l.length = t by omega]
    exact ht
theorem step_chunks (ex : Bool) (al : Int) (i : Nat) (x : Int) (r : Bool) (s : Int × Int × Nat × List Value) (h : Chunks s.2.2.1 s.2.2.2) : Chunks (stepF ex al i x r s).2.2.1 (stepF ex al i x r s).2.2.2 := by
  unfold stepF; repeat' split
  · exact h
  · exact h.snoc _ _ _ _
  · exact h.snoc _ _ _ _
  · exact h
  · exact h
theorem run_chunks (ex : Bool) (al : Int) (bit : Nat → Int) (fl : Nat → Bool) (a0 r0 : Int) : ∀ k, Chunks (runF ex al bit fl (a0, r0, 0, []) k).2.2.1 (runF ex al bit fl (a0, r0, 0, []) k).2.2.2
  | 0 => Chunks.nil
  | k + 1 => step_chunks _ _ _ _ _ _ (run_chunks ex al bit fl a0 r0 k)

theorem rows2_of {w : World} {B B' c ca cb : Nat} {ao bo : Option Addr} {l : List Value} (ha : w.ownsRow B 44 7 (.slice ao c ca) c l) (hb : w.ownsRow B' 44 7 (.slice bo c cb) c l) (hc : Chunks c l) : Rows2 ao bo c w := by
  intro k hk
  obtain ⟨m, i, u, f, hf⟩ := hc.2 k hk
  have one : ∀ {BB cc : Nat} {oo : Option Addr}, w.ownsRow BB 44 7 (.slice oo c cc) c l → ∃ g, oo = some ⟨g, 0, none⟩ ∧ ∀ t v, (fault m i u f)[t]? = some v → w.cell? ⟨g, k * 7 + t, none⟩ = some v := by
    intro BB cc oo h
    rcases h.2 with ⟨_, h0⟩ | ⟨g, cap, cur, hv, _⟩
    · omega
    · injection hv with e1 e2 e3
      subst e1
      refine ⟨g, rfl, fun t v ht => ?_⟩
      have := h.cells (g := g) rfl (k * 7 + t) v (hf t v ht)
      rw [Go.WideShapes.add_plain] at this
      simpa using this
  obtain ⟨ga, ea, fa⟩ := one ha
  obtain ⟨gb, eb, fb⟩ := one hb
  exact ⟨ga, gb, m, i, u, f, ea, eb, fun t v ht => ⟨fa t v ht, fb t v ht⟩⟩
end Go.Proofs.Ybulkchvi
