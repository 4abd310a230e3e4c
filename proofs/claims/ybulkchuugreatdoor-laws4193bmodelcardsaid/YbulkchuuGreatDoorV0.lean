import Derived.Test.YbulkchuuGreatDoorM4
import Derived.Test.YbulkchuuGreatDoorY3
namespace Go.Proofs.YbulkchuuGreatDoor
open Go.RowKit Go.Maps
set_option linter.unusedVariables false
set_option linter.unusedSimpArgs false
set_option maxRecDepth 100000

/-! ### the law's lists, plainly -/
def bytesL (l : List ByteArray) : List (List UInt8) := l.map (fun s => s.data.toList)
/-- the repositories, as the law lists them -/
def repoL (DD : Nat → DIn) : List ByteArray := (⟨#[]⟩ :: strL (DD 0).rn (DD 0).repo) ++ strL (DD 1).rn (DD 1).repo
def nameL (D : DIn) (k : Nat) : List ByteArray := strL D.nn D.named ++ (strL k D.user).filter (fun u => decide (u ≠ ⟨#[]⟩))
theorem mem_bytes {l : List ByteArray} {x : List UInt8} : x ∈ bytesL l ↔ ∃ s ∈ l, x = s.data.toList := by
  unfold bytesL
  rw [List.mem_map]
  constructor
  · rintro ⟨s, h1, rfl⟩; exact ⟨s, h1, rfl⟩
  · rintro ⟨s, h1, rfl⟩; exact ⟨s, h1, rfl⟩
theorem mem_strL {n : Nat} {f : Nat → ByteArray} {s : ByteArray} : s ∈ strL n f ↔ ∃ j, j < n ∧ s = f j := by
  unfold strL
  rw [List.mem_map]
  constructor
  · rintro ⟨j, h1, rfl⟩; exact ⟨j, by simpa using h1, rfl⟩
  · rintro ⟨j, h1, rfl⟩; exact ⟨j, by simpa using h1, rfl⟩
theorem name_mem (D : DIn) (x : List UInt8) : x ∈ bytesL (nameL D D.un) ↔ NameIn D x := by
  rw [mem_bytes]
  unfold nameL NameIn NamedTo UserTo
  constructor
  · rintro ⟨s, hs, rfl⟩
    rcases List.mem_append.1 hs with h | h
    · obtain ⟨j, h1, rfl⟩ := mem_strL.1 h
      exact .inl ⟨j, h1, rfl⟩
    · rw [List.mem_filter] at h
      obtain ⟨j, h1, rfl⟩ := mem_strL.1 h.1
      exact .inr ⟨j, h1, by simpa using h.2, rfl⟩
  · rintro (⟨j, h1, rfl⟩ | ⟨j, h1, h2, rfl⟩)
    · exact ⟨_, List.mem_append_left _ (mem_strL.2 ⟨j, h1, rfl⟩), rfl⟩
    · exact ⟨_, List.mem_append_right _ (List.mem_filter.2 ⟨mem_strL.2 ⟨j, h1, rfl⟩, by simpa using h2⟩), rfl⟩
/-- the last place of j's name, as the law seeks it -/
def seekL (uL : List ByteArray) (u : ByteArray) (j : Nat) : Nat → Nat
  | 0 => j
  | m + 1 => if j + 1 + m < uL.length ∧ uL[j + 1 + m]? = some u then j + 1 + m else seekL uL u j m
theorem lastI_eq (uL : List ByteArray) (u : ByteArray) : ∀ i, i ≤ uL.length → (∀ j, j < i → uL[j]? = some u → j ≤ lastI uL i u) ∧ ((∃ j, j < i ∧ uL[j]? = some u) → lastI uL i u < i ∧ uL[lastI uL i u]? = some u)
  | 0, _ => ⟨fun j hj => by omega, fun ⟨j, hj, _⟩ => by omega⟩
  | i + 1, hi => by
    obtain ⟨h1, h2⟩ := lastI_eq uL u i (by omega)
    unfold lastI
    by_cases e : uL[i]? = some u
    · rw [if_pos e]
      exact ⟨fun j hj _ => by omega, fun _ => ⟨by omega, e⟩⟩
    · rw [if_neg e]
      refine ⟨fun j hj hu => h1 j (by by_cases e' : j = i; subst e'; exact absurd hu e; omega) hu, ?_⟩
      rintro ⟨j, hj, hu⟩
      have hji : j < i := by
        by_cases e' : j = i
        · subst e'; exact absurd hu e
        · omega
      obtain ⟨k1, k2⟩ := h2 ⟨j, hji, hu⟩
      exact ⟨by omega, k2⟩
end Go.Proofs.YbulkchuuGreatDoor
