import Derived.Test.YbulkchuuGreatDoorA
import Derived.Sort.WalkA
import Derived.Sort.WalkB3
import Derived.Sort.WalkC4
import Derived.Sort.WalkA6
namespace Go.Proofs.YbulkchuuGreatDoor
open Go.RowKit
open Go.Sort (swp ltInt insInner insOuter insertionSort size_swp)
set_option linter.unusedVariables false
set_option linter.unusedSimpArgs false
set_option maxRecDepth 100000

/-! ### a row of int32 that is sorted in its place -/
def R32 (g off : Nat) (d : Array Int) (w : World) : Prop := ∃ cur, w.heap[g]? = some (.cells cur 21 (0, 0)) ∧ off + d.size ≤ cur.size ∧ ∀ j, j < d.size → cur[off + j]? = some (.int .i32 d[j]!)
theorem R32.cell {g off : Nat} {d : Array Int} {w : World} (h : R32 g off d w) (j : Nat) (hj : j < d.size) : w.cell? ⟨g, off + j, none⟩ = some (.int .i32 d[j]!) := by
  obtain ⟨cur, h1, _, h2⟩ := h; rw [cell_of h1]; exact h2 j hj
theorem R32.frozen {g off : Nat} {d : Array Int} {w : World} (h : R32 g off d w) (j : Nat) : w.frozen? ⟨g, j, none⟩ = false := by
  obtain ⟨cur, h1, _⟩ := h; exact frozen_of h1 j
theorem R32.move {g off : Nat} {d : Array Int} {w w' : World} (h : R32 g off d w) (e : w'.heap[g]? = w.heap[g]?) : R32 g off d w' := by
  obtain ⟨cur, h1, h2⟩ := h; exact ⟨cur, e.trans h1, h2⟩
theorem R32.lt {g off : Nat} {d : Array Int} {w : World} (h : R32 g off d w) : g < w.heap.size := by
  obtain ⟨cur, h1, _⟩ := h; exact heap_lt h1
theorem R32.swap {g off : Nat} {d : Array Int} {w : World} (h : R32 g off d w) (i j : Nat) (hi : i < d.size) (hj : j < d.size) :
    R32 g off (swp d i j) ((w.setCell ⟨g, off + i, none⟩ (.int .i32 d[j]!)).setCell ⟨g, off + j, none⟩ (.int .i32 d[i]!)) := by
  obtain ⟨cur, h1, h3, h4⟩ := h
  refine ⟨_, heap_set (heap_set h1 _ _) _ _, by rw [size_swp]; simpa using h3, fun k hk => ?_⟩
  rw [size_swp] at hk
  rw [Go.Sort.swp_get d hi hj k, Array.getElem?_setIfInBounds]
  by_cases e1 : k = j
  · subst e1; simp; omega
  · rw [if_neg (by omega), if_neg e1, Array.getElem?_setIfInBounds]
    by_cases e2 : k = i
    · subst e2; simp; omega
    · rw [if_neg (by omega), if_neg e2]; exact h4 k hk
/-- the frame of the sort -/
abbrev FrG (g : Nat) := Fr (fun k => k = g)
theorem FrG.swap {g : Nat} {w w' : World} (h : FrG g w w') (i j : Nat) (u v : Value) : FrG g w ((w'.setCell ⟨g, i, none⟩ u).setCell ⟨g, j, none⟩ v) :=
  (h.setCell g i u (.inl rfl)).setCell g j v (.inl rfl)
/-- the row's two families, for the walk -/
theorem R32.fam {g off : Nat} {d : Array Int} {w : World} (h : R32 g off d w) {n : Nat} (hn : d.size = n) : ∃ G : Nat → Int, (∀ t, G t = d[t]!) ∧ (∀ t, t < n → w.cell? ⟨g, off + t, none⟩ = some (.int .i32 (G t))) ∧ ∀ t, t < n → w.frozen? ⟨g, off + t, none⟩ = false :=
  ⟨fun t => d[t]!, fun _ => rfl, fun t ht => h.cell t (by omega), fun t _ => h.frozen _⟩

theorem isNaN209 (x : Int) (w : World) : Calls Ybaz.prog 209 #[.int .i32 x] w fun e w' => e = .returned (.bool false) ∧ w' = w := by
  go_enter Ybaz.func209, Ybaz.ntmps209
  go_wp2
  go_ret
  exact ⟨by simp, rfl⟩
theorem less171 (x y : Int) (w : World) : Calls Ybaz.prog 171 #[.int .i32 x, .int .i32 y] w fun e w' => e = .returned (.bool (ltInt x y)) ∧ w' = w := by
  go_enter Ybaz.func171, Ybaz.ntmps171
  go_wp2_with (go_at_call 209; refine (isNaN209 _ _).mono ?_; rintro e w' ⟨rfl, rfl⟩)
  go_ret
  exact ⟨rfl, rfl⟩

set_option maxHeartbeats 2000000 in
theorem insertion165 (g off cap a b n : Nat) (d : Array Int) (w : World) (hn : d.size = n) (hR : R32 g off d w) (hab : a ≤ b) (hb : b ≤ n) (hsz : n < 1000000) :
    Calls Ybaz.prog 165 #[.slice (some ⟨g, off, none⟩) n cap, .int .i64 a, .int .i64 b] w fun e w' => e = .returned (.tuple #[]) ∧ R32 g off (insertionSort ltInt d a b) w' ∧ FrG g w w' := by
  have HR := hid hR
  clear hR
  go_enter Ybaz.func165, Ybaz.ntmps165
  go_wp2
  go_loopw [6] (fun vi wr => ∃ (i : Nat) (dk : Array Int), vi = .int .i64 i ∧ a < i ∧ i ≤ b + 1 ∧ dk.size = n ∧ R32 g off dk wr ∧ FrG g w wr ∧ insOuter ltInt a b i dk = insOuter ltInt a b (a + 1) d) (fun vi _ => b + 1 - (intOf vi).toNat)
  case atStart => exact ⟨a + 1, d, by go_num, by omega, by omega, hn, HR.out, Fr.refl _ _, rfl⟩
  case round =>
    generalize wr = wq at *
    obtain ⟨i, dk, rfl, hai, hib, hsk, hRk, hFk, hO⟩ := hrel
    have HRk := hid hRk; have HFk := hid hFk; have HO := hid hO
    clear hRk hFk hO
    by_cases hin : i < b
    · have hii : (i : Int) < (b : Int) := by omega
      go_wp2
      go_loopw [7] (fun vj wr => ∃ (j : Nat) (dj : Array Int), vj = .int .i64 j ∧ a ≤ j ∧ j ≤ i ∧ dj.size = n ∧ R32 g off dj wr ∧ FrG g w wr ∧ insInner ltInt a j dj = insInner ltInt a i dk) (fun vj _ => (intOf vj).toNat)
      case atStart => exact ⟨i, dk, rfl, by omega, Nat.le_refl _, hsk, HRk.out, HFk.out, rfl⟩
      case round =>
        obtain ⟨j, dj, rfl, haj, hji, hsj, hRj, hFj, hI⟩ := hrel
        obtain ⟨G, hG, hcw, hfw⟩ := hRj.fam hsj
        have HRj := hid hRj; have HFj := hid hFj; have HI := hid hI; have HG := hid hG
        clear hRj hFj hI hG
        go_wp2
        by_cases hja : a < j
        · go_quiet (first | (go_at_call 171; refine Calls.quiet_of_same (less171 _ _ _)))
          go_wp2
          · have hl : ltInt (G j) (G (j - 1)) = true := by assumption
            go_region
            all_goals go_wp2
            go_roundw
            case rel =>
              rw [HG.out, HG.out] at hl
              refine ⟨j - 1, swp dj j (j - 1), by congr 1; omega, by omega, by omega, by rw [size_swp]; exact hsj, ?_, ?_, by rw [← HI.out]; exact (Go.Proofs.insInner_go ltInt a j dj hja hl).symm⟩
              · rw [HG.out, HG.out]; exact HRj.out.swap j (j - 1) (by omega) (by omega)
              · exact HFj.out.swap _ _ _ _
            case measure => simp [intOf]; omega
          · have hl : ltInt (G j) (G (j - 1)) = false := by assumption
            go_roundw
            case rel => exact ⟨i + 1, dj, by go_num, by omega, by omega, hsj, HRj.out, HFj.out, by rw [← HO.out, Go.Proofs.insOuter_go ltInt _ _ _ _ hin, ← HI.out, Go.Proofs.insInner_stop ltInt _ _ _ (.inr (by rw [← HG.out, ← HG.out]; exact hl))]⟩
            case measure => simp [intOf]; omega
        · go_quiet (first | (go_at_call 171; refine Calls.quiet_of_same (less171 _ _ _)))
          go_wp2
          go_roundw
          case rel => exact ⟨i + 1, dj, by go_num, by omega, by omega, hsj, HRj.out, HFj.out, by rw [← HO.out, Go.Proofs.insOuter_go ltInt _ _ _ _ hin, ← HI.out, Go.Proofs.insInner_stop ltInt _ _ _ (.inl (by omega))]⟩
          case measure => simp [intOf]; omega
    · have hii : ¬ (i : Int) < (b : Int) := by omega
      go_wp2
      go_end0
      exact ⟨rfl, by unfold insertionSort; rw [← HO.out, Go.Proofs.insOuter_stop ltInt _ _ _ _ hin]; exact HRk.out, HFk.out⟩
end Go.Proofs.YbulkchuuGreatDoor
