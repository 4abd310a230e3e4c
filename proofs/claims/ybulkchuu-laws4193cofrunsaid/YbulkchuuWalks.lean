import Derived.Test.YbulkchuuRows
import Derived.WalkKit
import Derived.RegionTactic
import Derived.WalkLawsBesides
namespace Go.Proofs.Ybulkchuu
open Go.RowKit
set_option linter.unusedVariables false
set_option linter.unusedSimpArgs false

/-- the run's bounds: 0, the four ends, the length -/
def bnd (e0 e1 e2 e3 n : Nat) : Nat → Nat
  | 0 => 0 | 1 => e0 | 2 => e1 | 3 => e2 | 4 => e3 | _ => n

set_option maxHeartbeats 1000000 in
theorem of_any (b : Nat) (a0 : Option Addr) (n cap : Nat) (e0 e1 e2 e3 : Nat) (k : Nat) (w : World)
    (hk : k < 5) (hn : n ≤ 1024) (hcap : n ≤ cap) (hcm : cap ≤ maxLen)
    (h01 : e0 ≤ e1) (h12 : e1 ≤ e2) (h23 : e2 ≤ e3) (h3n : e3 ≤ n)
    (c0 : w.cell? ⟨b, 0, none⟩ = some (.slice a0 n cap)) (c1 : w.cell? ⟨b, 1, none⟩ = some (.int .i32 e0)) (c2 : w.cell? ⟨b, 2, none⟩ = some (.int .i32 e1))
    (c3 : w.cell? ⟨b, 3, none⟩ = some (.int .i32 e2)) (c4 : w.cell? ⟨b, 4, none⟩ = some (.int .i32 e3)) :
    Calls Yba.prog 6 #[.pointer (some ⟨b, 0, none⟩), .int .u8 (k : Int)] w fun e w' => ∃ r cap', e = .returned (.slice r (bnd e0 e1 e2 e3 n (k + 1) - bnd e0 e1 e2 e3 n k) cap') ∧ w' = w.drew ∧ bnd e0 e1 e2 e3 n (k + 1) - bnd e0 e1 e2 e3 n k ≤ cap' ∧ cap' ≤ cap ∧
      (∀ bb off, a0 = some ⟨bb, off, none⟩ → bnd e0 e1 e2 e3 n k < bnd e0 e1 e2 e3 n (k + 1) → r = some ⟨bb, off + bnd e0 e1 e2 e3 n k, none⟩) := by
  have hk5 : k = 0 ∨ k = 1 ∨ k = 2 ∨ k = 3 ∨ k = 4 := by omega
  rcases hk5 with rfl | rfl | rfl | rfl | rfl
  · go_enter Yba.func6, Yba.ntmps6
    go_wp2
    go_region
    go_wp2
    go_ret
    refine ⟨_, _, rfl, rfl, ?_, ?_, ?_⟩
    · simp only [bnd]; omega
    · omega
    · intro bb off hx _; subst hx; simp [bnd]
  all_goals
    go_enter Yba.func6, Yba.ntmps6
    go_wp2
    go_region
    go_wp2
  all_goals
    go_ret
    refine ⟨_, _, rfl, rfl, ?_, ?_, ?_⟩
    · simp only [bnd]; omega
    · omega
    · intro bb off hx hlt; subst hx; simp only [bnd] at hlt ⊢; first | (exfalso; omega) | (simp only [Option.map_some, Addr.add]; split <;> simp_all; done)
theorem heap_lt {w : World} {b : Nat} {o : Obj} (h : w.heap[b]? = some o) : b < w.heap.size := (Array.getElem?_eq_some_iff.1 h).1
theorem cell_of {w : World} {b : Nat} {cs : Array Value} {T : TypeId} {fr : Nat × Nat} (hb : w.heap[b]? = some (.cells cs T fr)) (j : Nat) : w.cell? ⟨b, j, none⟩ = cs[j]? := by
  simp [World.cell?, hb]
theorem frozen_of {w : World} {b : Nat} {cs : Array Value} {T : TypeId} (hb : w.heap[b]? = some (.cells cs T (0, 0))) (j : Nat) : w.frozen? ⟨b, j, none⟩ = false := by
  simp [World.frozen?, hb]
theorem heap_set {w : World} {b : Nat} {cs : Array Value} {T : TypeId} {fr : Nat × Nat} (hb : w.heap[b]? = some (.cells cs T fr)) (j : Nat) (v : Value) :
    (w.setCell ⟨b, j, none⟩ v).heap[b]? = some (.cells (cs.setIfInBounds j v) T fr) := by
  simp [World.setCell, Array.getElem?_modify, hb]

set_option maxHeartbeats 1000000 in
theorem build_any (a0 : Option Addr) (n cap : Nat) (r0 r1 r2 r3 : Int) (w : World) (hn : n ≤ 1024)
    (b0 : 0 ≤ r0 ∧ r0 ≤ 65535) (b1 : 0 ≤ r1 ∧ r1 ≤ 65535) (b2 : 0 ≤ r2 ∧ r2 ≤ 65535) (b3 : 0 ≤ r3 ∧ r3 ≤ 65535) :
    Calls Yba.prog 5 #[.slice a0 n cap, .agg #[.int .u16 r0, .int .u16 r1, .int .u16 r2, .int .u16 r3]] w fun e w' => ∃ e0 e1 e2 e3 : Nat,
      e = .returned (.pointer (some ⟨w.heap.size + 1, 0, none⟩)) ∧ Below w.heap.size w w' ∧ w.heap.size + 1 < w'.heap.size ∧ e0 ≤ e1 ∧ e1 ≤ e2 ∧ e2 ≤ e3 ∧ e3 ≤ n ∧
      w'.heap[w.heap.size + 1]? = some (.cells #[.slice a0 n cap, .int .i32 e0, .int .i32 e1, .int .i32 e2, .int .i32 e3] 31 (0, 0)) := by
  go_enter Yba.func5, Yba.ntmps5
  go_wp2
  go_loopw [7, 8] (fun acc i wr => ∃ (k a e0 e1 e2 e3 : Nat), k ≤ 4 ∧ a ≤ n ∧ i = .int .i64 k ∧ acc = .int .i64 a ∧ Below w.heap.size w wr ∧
      wr.heap[w.heap.size]? = some (.cells #[.int .u16 r0, .int .u16 r1, .int .u16 r2, .int .u16 r3] 24 (0, 0)) ∧
      wr.heap[w.heap.size + 1]? = some (.cells #[.slice a0 n cap, .int .i32 e0, .int .i32 e1, .int .i32 e2, .int .i32 e3] 31 (0, 0)) ∧
      (1 ≤ k → e0 ≤ a) ∧ (2 ≤ k → e0 ≤ e1 ∧ e1 ≤ a) ∧ (3 ≤ k → e1 ≤ e2 ∧ e2 ≤ a) ∧ (4 ≤ k → e2 ≤ e3 ∧ e3 ≤ a))
    (fun _ i _ => 4 - (intOf i).toNat)
  case atStart =>
    refine ⟨0, 0, 0, 0, 0, 0, by omega, by omega, rfl, rfl, ((Below.refl _ _).alloc (Nat.le_refl _) _).alloc (by simp) _, ?_, ?_, by omega, by omega, by omega, by omega⟩
    · rw [Below.heap_alloc _ _ _ (by simp)]
      exact heap_alloc_new w _
    · have := heap_alloc_new (w.alloc (.cells #[.int .u16 r0, .int .u16 r1, .int .u16 r2, .int .u16 r3] 24)) (.cells #[.slice a0 n cap, .int .i32 0, .int .i32 0, .int .i32 0, .int .i32 0] 31)
      simpa using this
  case round =>
    obtain ⟨k, a, e0, e1, e2, e3, hk, ha, rfl, rfl, hbw, hb0, hb1, i0, i1, i2, i3⟩ := hrel
    have g0 := cell_of hb0 0; have g1 := cell_of hb0 1; have g2 := cell_of hb0 2; have g3 := cell_of hb0 3
    have f1 := frozen_of hb1 1; have f2 := frozen_of hb1 2; have f3 := frozen_of hb1 3; have f4 := frozen_of hb1 4
    have d1 := cell_of hb1 1; have d2 := cell_of hb1 2; have d3 := cell_of hb1 3; have d4 := cell_of hb1 4
    simp at g0 g1 g2 g3 d1 d2 d3 d4
    have hk5 : k = 0 ∨ k = 1 ∨ k = 2 ∨ k = 3 ∨ k = 4 := by omega
    have st : ∀ (j m : Nat), (wr.setCell ⟨w.heap.size + 1, j, none⟩ (.int .i32 m)).heap[w.heap.size]? = some (.cells #[.int .u16 r0, .int .u16 r1, .int .u16 r2, .int .u16 r3] 24 (0, 0)) := fun j m => by
      rw [Below.heap_setCell _ _ _ _ (by simp)]; exact hb0
    have sb : ∀ (j m : Nat), Below w.heap.size w (wr.setCell ⟨w.heap.size + 1, j, none⟩ (.int .i32 m)) := fun j m => hbw.setCell (by simp) _
    have sn : ∀ (j m : Nat), (wr.setCell ⟨w.heap.size + 1, j, none⟩ (.int .i32 m)).heap[w.heap.size + 1]? = some (.cells ((#[.slice a0 n cap, .int .i32 e0, .int .i32 e1, .int .i32 e2, .int .i32 e3] : Array Value).setIfInBounds j (.int .i32 m)) 31 (0, 0)) := fun j m => heap_set hb1 j _
    have St : Hid _ := st; have Sb : Hid _ := sb; have Sn : Hid _ := sn
    clear st sb sn
    rcases hk5 with rfl | rfl | rfl | rfl | rfl
    · have hq : ∃ s : Nat, (s : Int) = a + r0 % 16 ∧ a ≤ s := ⟨(a + r0 % 16).toNat, by omega, by omega⟩
      obtain ⟨s, hs, has⟩ := hq
      have Hs : Hid _ := hs
      clear hs
      go_wp2
      · go_roundw
        case rel => exact ⟨1, n, n, e1, e2, e3, by omega, by omega, rfl, rfl, Sb.out 1 n, St.out 1 n, Sn.out 1 n, by omega, by omega, by omega, by omega⟩
        case measure => simp [intOf]
      · go_roundw
        case rel => rw [← Hs.out] at *; exact ⟨1, s, s, e1, e2, e3, by omega, by omega, rfl, rfl, Sb.out 1 s, St.out 1 s, Sn.out 1 s, by omega, by omega, by omega, by omega⟩
        case measure => simp [intOf]
    · have hq : ∃ s : Nat, (s : Int) = a + r1 % 16 ∧ a ≤ s := ⟨(a + r1 % 16).toNat, by omega, by omega⟩
      obtain ⟨s, hs, has⟩ := hq
      have Hs : Hid _ := hs
      clear hs
      go_wp2
      · go_roundw
        case rel => exact ⟨2, n, e0, n, e2, e3, by omega, by omega, rfl, rfl, Sb.out 2 n, St.out 2 n, Sn.out 2 n, by omega, by omega, by omega, by omega⟩
        case measure => simp [intOf]
      · go_roundw
        case rel => rw [← Hs.out] at *; exact ⟨2, s, e0, s, e2, e3, by omega, by omega, rfl, rfl, Sb.out 2 s, St.out 2 s, Sn.out 2 s, by omega, by omega, by omega, by omega⟩
        case measure => simp [intOf]
    · have hq : ∃ s : Nat, (s : Int) = a + r2 % 16 ∧ a ≤ s := ⟨(a + r2 % 16).toNat, by omega, by omega⟩
      obtain ⟨s, hs, has⟩ := hq
      have Hs : Hid _ := hs
      clear hs
      go_wp2
      · go_roundw
        case rel => exact ⟨3, n, e0, e1, n, e3, by omega, by omega, rfl, rfl, Sb.out 3 n, St.out 3 n, Sn.out 3 n, by omega, by omega, by omega, by omega⟩
        case measure => simp [intOf]
      · go_roundw
        case rel => rw [← Hs.out] at *; exact ⟨3, s, e0, e1, s, e3, by omega, by omega, rfl, rfl, Sb.out 3 s, St.out 3 s, Sn.out 3 s, by omega, by omega, by omega, by omega⟩
        case measure => simp [intOf]
    · have hq : ∃ s : Nat, (s : Int) = a + r3 % 16 ∧ a ≤ s := ⟨(a + r3 % 16).toNat, by omega, by omega⟩
      obtain ⟨s, hs, has⟩ := hq
      have Hs : Hid _ := hs
      clear hs
      go_wp2
      · go_roundw
        case rel => exact ⟨4, n, e0, e1, e2, n, by omega, by omega, rfl, rfl, Sb.out 4 n, St.out 4 n, Sn.out 4 n, by omega, by omega, by omega, by omega⟩
        case measure => simp [intOf]
      · go_roundw
        case rel => rw [← Hs.out] at *; exact ⟨4, s, e0, e1, e2, s, by omega, by omega, rfl, rfl, Sb.out 4 s, St.out 4 s, Sn.out 4 s, by omega, by omega, by omega, by omega⟩
        case measure => simp [intOf]
    · go_wp2
      go_ret
      exact ⟨e0, e1, e2, e3, rfl, hbw, heap_lt hb1, by omega, by omega, by omega, by omega, hb1⟩
end Go.Proofs.Ybulkchuu
