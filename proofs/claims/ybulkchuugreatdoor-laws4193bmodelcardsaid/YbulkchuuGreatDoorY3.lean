import Derived.Test.YbulkchuuGreatDoorY2
namespace Go.Proofs.YbulkchuuGreatDoor
open Go.RowKit Go.Maps
set_option linter.unusedVariables false
set_option linter.unusedSimpArgs false
set_option maxRecDepth 100000

/-- append(v, ys...) of strings, v a row of the call's own -/
theorem append_strs {w : World} {B n : Nat} {v : Value} {xs : List Value} (hO : w.ownsRow B 9 1 v n xs) (a : Option Addr) (c : Nat) (ys : List ByteArray) (hR : RowR a (ys.map Value.string) w) (hB : B ≤ w.heap.size) (hn : n + ys.length ≤ 1000000) :
    ∃ va' vc' w', (Builtin.append_ #[22, 22] 22 #[v, .slice a ys.length c]).run Ybaz.prog w = .ok (.slice va' (n + ys.length) vc') w' ∧ w'.ownsRow B 9 1 (.slice va' (n + ys.length) vc') (n + ys.length) (xs ++ ys.map Value.string) ∧ w.grownBy w' v.ownBlock := by
  obtain ⟨i9, hi, hz0, hz1, hz2⟩ := info_parts info9
  cases a with
  | none =>
    have hy : ys = [] := by
      cases ys with
      | nil => rfl
      | cons y l =>
        obtain ⟨bb, off, e, _⟩ := hR 0 (.string y) rfl
        cases e
    subst hy
    obtain ⟨va, vc, rfl⟩ := own_slice' hO
    have h := run_append_nil2 w _ _ _ _ hO
    rcases hO.2 with ⟨e, h0⟩ | ⟨g, cap, cur, e, _, _, h3, _⟩
    · injection e with e1 e2 e3
      subst e1 e3 h0
      refine ⟨none, 0, w, ?_, by simpa using hO, ⟨rfl, rfl, rfl, Nat.le_refl _, fun _ _ _ => rfl⟩⟩
      show (Builtin.append_ #[22, 22] 22 #[.slice none 0 0, .slice none 0 c]).run Ybaz.prog w = _
      go_simp
    · injection e with e1 e2 e3
      subst e1 e3
      refine ⟨_, vc, w, ?_, by simpa using hO, ⟨rfl, rfl, rfl, Nat.le_refl _, fun _ _ _ => rfl⟩⟩
      show (Builtin.append_ #[22, 22] 22 #[.slice (some ⟨g, 0, none⟩) n vc, .slice none 0 c]).run Ybaz.prog w = _
      go_simp
  | some ad =>
    obtain ⟨v', w', hr, h2, h3, _⟩ := run_append_own (P := Ybaz.prog) w B 22 22 9 i9 (.string ⟨#[]⟩) 1 16 Ybaz.underlying22 hi hz0 hz1 hz2 rfl (by decide) v n xs hO ad ys.length c (ys.map Value.string) (by simp) (fun j u hj => by
      obtain ⟨bb, off, e, h⟩ := hR j u hj
      injection e with e
      subst e
      rw [Go.WideShapes.add_plain]; exact h) (fun u hu => by obtain ⟨x, _, rfl⟩ := List.mem_map.1 hu; rfl) (by unfold maxLen; omega) (by omega) hB
    obtain ⟨va', vc', rfl⟩ := own_slice' h2
    exact ⟨va', vc', w', hr, h2, h3⟩
theorem own_lit {w : World} (s : ByteArray) : (w.alloc (.cells #[.string s] 9)).ownsRow w.heap.size 9 1 (.slice (some ⟨w.heap.size, 0, none⟩) 1 1) 1 [.string s] :=
  ⟨rfl, .inr ⟨w.heap.size, 1, _, rfl, Nat.le_refl _, heap_alloc_new _ _, Nat.le_refl _, by decide, rfl, rfl⟩⟩
def strL (n : Nat) (f : Nat → ByteArray) : List ByteArray := (List.range n).map f
theorem strRow_R {Bd n : Nat} {a : Option Addr} {f : Nat → ByteArray} {w : World} (h : StrRow Bd a n f w) : RowR a ((strL n f).map Value.string) w := fun j v hj => by
  have hjn : j < n := by
    have := (List.getElem?_eq_some_iff.1 hj).1
    simpa [strL] using this
  obtain ⟨bb, off, e, _, h2, _⟩ := h j hjn
  refine ⟨bb, off, e, ?_⟩
  simp [strL, hjn] at hj
  rw [h2, hj]
theorem strL_len (n : Nat) (f : Nat → ByteArray) : (strL n f).length = n := by simp [strL]
theorem enc_str (zs : List ByteArray) : zs.map Value.string = (zs.map (fun s => s.data.toList)).map encStr := by
  rw [List.map_map]
  apply List.map_congr_left
  intro s _
  simp [encStr]
theorem str_enc (zs : List (List UInt8)) : zs.map encStr = (zs.map (fun x => (⟨x.toArray⟩ : ByteArray))).map Value.string := by
  rw [List.map_map]; rfl
end Go.Proofs.YbulkchuuGreatDoor
