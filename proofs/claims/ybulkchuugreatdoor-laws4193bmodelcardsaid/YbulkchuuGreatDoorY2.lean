import Derived.Test.YbulkchuuGreatDoorY1
namespace Go.Proofs.YbulkchuuGreatDoor
open Go.RowKit Go.Maps
set_option linter.unusedVariables false
set_option linter.unusedSimpArgs false
set_option maxRecDepth 100000

/-- a row that is read -/
def RowR (a : Option Addr) (xs : List Value) (w : World) : Prop := ∀ j v, xs[j]? = some v → ∃ bb off, a = some ⟨bb, off, none⟩ ∧ w.cell? ⟨bb, off + j, none⟩ = some v
theorem RowR.some {a : Option Addr} {xs : List Value} {w : World} (h : RowR a xs w) (hx : xs ≠ []) : ∃ bb off, a = some ⟨bb, off, none⟩ ∧ ∀ j v, xs[j]? = some v → w.cell? ⟨bb, off + j, none⟩ = some v := by
  obtain ⟨x, l, rfl⟩ := List.exists_cons_of_ne_nil hx
  obtain ⟨bb, off, e, _⟩ := h 0 x rfl
  refine ⟨bb, off, e, fun j v hj => ?_⟩
  obtain ⟨b2, o2, e2, h2⟩ := h j v hj
  rw [e] at e2
  injection e2 with e2
  injection e2 with e3 e4
  subst e3 e4
  exact h2
theorem own_rowR {w : World} {B e n : Nat} {a : Option Addr} {m c : Nat} {xs : List Value} (h : w.ownsRow B e 1 (.slice a m c) n xs) : RowR a xs w := fun j v hj => by
  rcases h.2 with ⟨e', h0⟩ | ⟨g, cap, cur, e', h1, h2, h3, h4, h5, h6⟩
  · have := h.1
    rw [h0] at this
    have : xs = [] := List.length_eq_zero_iff.1 (by simpa using this)
    rw [this] at hj; simp at hj
  · injection e' with e1
    refine ⟨g, 0, e1, ?_⟩
    rw [cell_of h2, Nat.zero_add]
    rw [← h6, List.getElem?_take] at hj
    split at hj
    · simpa using hj
    · cases hj
theorem equal10_len (a1 a2 : Option Addr) (n c m d : Nat) (w : World) (hne : n ≠ m) (hn : n ≤ 10000000) (hm : m ≤ 10000000) : Calls Ybaz.prog 10 #[.slice a1 n c, .slice a2 m d] w fun e w' => e = .returned (.bool false) ∧ w' = w := by
  have hne' : ((n : Int) == (m : Int)) = false := by simp; omega
  go_enter Ybaz.func10, Ybaz.ntmps10
  go_wp2
  go_ret
  exact ⟨rfl, rfl⟩
theorem equal18_len (a1 a2 : Option Addr) (n c m d : Nat) (w : World) (hne : n ≠ m) (hn : n ≤ 10000000) (hm : m ≤ 10000000) : Calls Ybaz.prog 18 #[.slice a1 n c, .slice a2 m d] w fun e w' => e = .returned (.bool false) ∧ w' = w := by
  have hne' : ((n : Int) == (m : Int)) = false := by simp; omega
  go_enter Ybaz.func18, Ybaz.ntmps18
  go_wp2
  go_ret
  exact ⟨rfl, rfl⟩
theorem equal18_nil (a1 a2 : Option Addr) (c d : Nat) (w : World) : Calls Ybaz.prog 18 #[.slice a1 0 c, .slice a2 0 d] w fun e w' => e = .returned (.bool true) ∧ w' = w := by
  go_enter Ybaz.func18, Ybaz.ntmps18
  go_wp2
  go_loopw [13] (fun vk wr => vk = .int .i64 0 ∧ wr = w) (fun _ _ => 0)
  case atStart => exact ⟨rfl, rfl⟩
  case round =>
    obtain ⟨rfl, rfl⟩ := hrel
    go_wp2
    go_ret
    exact ⟨rfl, rfl⟩
theorem allEq_int : ∀ xs ys : List Int, Lib.allEq (fun x y => x == y) xs ys = decide (xs = ys)
  | [], [] => by simp [Lib.allEq]
  | [], _ :: _ => by simp [Lib.allEq]
  | _ :: _, [] => by simp [Lib.allEq]
  | x :: xs, y :: ys => by
    rw [Lib.allEq, allEq_int xs ys]
    by_cases h : x = y
    · subst h; simp
    · simp [h]
theorem equal18 (a1 a2 : Option Addr) (c d : Nat) (xs ys : List Int) (w : World) (h1 : RowR a1 (I32s xs) w) (h2 : RowR a2 (I32s ys) w) (hx : xs.length ≤ 10000000) (hy : ys.length ≤ 10000000) :
    Calls Ybaz.prog 18 #[.slice a1 xs.length c, .slice a2 ys.length d] w fun e w' => e = .returned (.bool (decide (xs = ys))) ∧ ∃ q, w' = w.drewN q := by
  by_cases hl : xs.length = ys.length
  · by_cases h0 : xs = []
    · have h0' : ys = [] := List.length_eq_zero_iff.1 (by rw [← hl, h0]; rfl)
      subst h0 h0'
      refine (equal18_nil a1 a2 c d w).mono ?_
      rintro e w' ⟨rfl, rfl⟩
      exact ⟨by simp, 0, rfl⟩
    · have h0' : ys ≠ [] := fun e => h0 (List.length_eq_zero_iff.1 (by rw [hl, e]; rfl))
      obtain ⟨b1, o1, rfl, k1⟩ := h1.some (by simpa [I32s] using h0)
      obtain ⟨b2, o2, rfl, k2⟩ := h2.some (by simpa [I32s] using h0')
      refine (Ybaz.slices_Equal_f18 (Value.int .i32) (fun x y => x == y) (NeqAt.int _ _ _) b1 o1 xs.length c b2 o2 ys.length d xs ys w (Nat.le_refl _) (Nat.le_refl _) (by omega) (by omega) (fun j hj => k1 j _ ?_) (fun j hj => k2 j _ ?_)).mono ?_
      · rw [getElem!_pos xs j hj]; simp [I32s, hj]
      · rw [getElem!_pos ys j hj]; simp [I32s, hj]
      · rintro e w' ⟨rfl, hq⟩
        rw [List.take_length, List.take_length, allEq_int]
        exact ⟨rfl, hq⟩
  · refine (equal18_len a1 a2 xs.length c ys.length d w hl hx hy).mono ?_
    rintro e w' ⟨rfl, rfl⟩
    have : ¬ xs = ys := fun e => hl (by rw [e])
    exact ⟨by simp [this], 0, rfl⟩
theorem equal10 (a1 a2 : Option Addr) (c d : Nat) (xs ys : List ByteArray) (w : World) (h1 : RowR a1 (xs.map Value.string) w) (h2 : RowR a2 (ys.map Value.string) w) (hx : xs.length ≤ 10000000) (hy : ys.length ≤ 10000000) :
    Calls Ybaz.prog 10 #[.slice a1 xs.length c, .slice a2 ys.length d] w fun e w' => e = .returned (.bool (decide (xs = ys))) ∧ ∃ q, w' = w.drewN q := by
  by_cases hl : xs.length = ys.length
  · by_cases h0 : xs = []
    · have h0' : ys = [] := List.length_eq_zero_iff.1 (by rw [← hl, h0]; rfl)
      subst h0 h0'
      refine (Ybaz.slices_Equal_string_empty a1 a2 c 0 d w (by omega)).mono ?_
      rintro e w' ⟨rfl, rfl⟩
      exact ⟨by simp, 0, rfl⟩
    · have h0' : ys ≠ [] := fun e => h0 (List.length_eq_zero_iff.1 (by rw [hl, e]; rfl))
      obtain ⟨b1, o1, rfl, k1⟩ := h1.some (by simpa using h0)
      obtain ⟨b2, o2, rfl, k2⟩ := h2.some (by simpa using h0')
      refine (Ybaz.slices_Equal_string b1 o1 xs.length c b2 o2 ys.length d xs ys w (Nat.le_refl _) (Nat.le_refl _) (by omega) (by omega) (fun j hj => k1 j _ ?_) (fun j hj => k2 j _ ?_)).mono ?_
      · simp [hj]
      · simp [hj]
      · rintro e w' ⟨rfl, hq⟩
        rw [List.take_length, List.take_length]
        exact ⟨rfl, hq⟩
  · refine (equal10_len a1 a2 xs.length c ys.length d w hl hx hy).mono ?_
    rintro e w' ⟨rfl, rfl⟩
    have : ¬ xs = ys := fun e => hl (by rw [e])
    exact ⟨by simp [this], 0, rfl⟩
end Go.Proofs.YbulkchuuGreatDoor
