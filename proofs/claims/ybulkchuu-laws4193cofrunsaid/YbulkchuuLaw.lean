import Derived.Test.YbulkchuuWalks
import Derived.Lib.Builder
import Derived.BigQuiet
import Derived.Deep.QuietTactic
namespace Go.Proofs.Ybulkchuu
open Go.RowKit
set_option linter.unusedVariables false
set_option linter.unusedSimpArgs false

theorem bnd_mono {e0 e1 e2 e3 n : Nat} (h01 : e0 ≤ e1) (h12 : e1 ≤ e2) (h23 : e2 ≤ e3) (h3n : e3 ≤ n) (q : Nat) (hq : q < 5) :
    bnd e0 e1 e2 e3 n q ≤ bnd e0 e1 e2 e3 n (q + 1) ∧ bnd e0 e1 e2 e3 n (q + 1) ≤ n := by
  have : q = 0 ∨ q = 1 ∨ q = 2 ∨ q = 3 ∨ q = 4 := by omega
  rcases this with rfl | rfl | rfl | rfl | rfl <;> simp only [bnd] <;> omega

theorem bnd_cell {w : World} {b e0 e1 e2 e3 n : Nat} (h : w.heap[b]? = some (.cells #[.int .i64 0, .int .i64 e0, .int .i64 e1, .int .i64 e2, .int .i64 e3, .int .i64 n] 28 (0, 0))) (q : Nat) (hq : q < 6) :
    w.cell? ⟨b, q, none⟩ = some (.int .i64 (bnd e0 e1 e2 e3 n q : Nat)) := by
  rw [cell_of h]
  have : q = 0 ∨ q = 1 ∨ q = 2 ∨ q = 3 ∨ q = 4 ∨ q = 5 := by omega
  rcases this with rfl | rfl | rfl | rfl | rfl | rfl <;> rfl

theorem info3 : (Yba.prog.info? 3).isSome = true := by kernel_rfl

set_option maxHeartbeats 1000000 in
theorem law_any (a0 : Option Addr) (n cap : Nat) (zs : List Int) (r0 r1 r2 r3 k : Int) (w : World) (hn : n ≤ 1024) (hcap : n ≤ cap) (hcm : cap ≤ maxLen)
    (hnil : n = 0 ∨ ∃ bb off, a0 = some ⟨bb, off, none⟩ ∧ ∀ i, i < n → bb < w.heap.size ∧ w.cell? ⟨bb, off + i, none⟩ = some (.int .i64 (zs.getD i 0)))
    (b0 : 0 ≤ r0 ∧ r0 ≤ 65535) (b1 : 0 ≤ r1 ∧ r1 ≤ 65535) (b2 : 0 ≤ r2 ∧ r2 ≤ 65535) (b3 : 0 ≤ r3 ∧ r3 ≤ 65535) (bk : 0 ≤ k ∧ k ≤ 255) :
    Calls Yba.prog 3 #[.slice a0 n cap, .agg #[.int .u16 r0, .int .u16 r1, .int .u16 r2, .int .u16 r3], .int .u8 k] w fun e w' => e = .returned (.bool true) ∧ Below w.heap.size w w' := by
  have hq : ∃ q : Nat, k % 5 = (q : Int) ∧ q < 5 := ⟨(k % 5).toNat, by omega, by omega⟩
  obtain ⟨q, hq, hq5⟩ := hq
  obtain ⟨j3, hj3⟩ := Option.isSome_iff_exists.1 info3
  have Hnil : Hid _ := hnil
  clear hnil
  go_enter Yba.func3, Yba.ntmps3
  go_wp2_with fail
  refine (build_any a0 n cap r0 r1 r2 r3 _ hn b0 b1 b2 b3).mono ?_
  rintro e w1 ⟨e0, e1, e2, e3, rfl, hbw, hsz, h01, h12, h23, h3n, hblk⟩
  simp at hbw hsz hblk ⊢
  have hbw' : Below w.heap.size w w1 := ((Below.refl _ w).alloc (Nat.le_refl _) _).trans (hbw.mono (by omega))
  clear hbw
  go_wp2_with fail
  go_loopw [10] (fun i wr => ∃ (j v1 v2 v3 v4 : Nat), j ≤ 4 ∧ i = .int .i64 j ∧ Below w.heap.size w wr ∧ w1.heap.size < wr.heap.size ∧
      wr.heap[w.heap.size + 1 + 1]? = some (.cells #[.slice a0 n cap, .int .i32 e0, .int .i32 e1, .int .i32 e2, .int .i32 e3] 31 (0, 0)) ∧
      wr.heap[w1.heap.size]? = some (.cells #[.int .i64 0, .int .i64 v1, .int .i64 v2, .int .i64 v3, .int .i64 v4, .int .i64 0] 28 (0, 0)) ∧
      (1 ≤ j → v1 = e0) ∧ (2 ≤ j → v2 = e1) ∧ (3 ≤ j → v3 = e2) ∧ (4 ≤ j → v4 = e3))
    (fun i _ => 4 - (intOf i).toNat)
  case atStart =>
    refine ⟨0, 0, 0, 0, 0, by omega, rfl, hbw'.alloc (by omega) _, by simp, ?_, heap_alloc_new w1 _, by omega, by omega, by omega, by omega⟩
    rw [Below.heap_alloc _ _ _ (by omega)]; exact hblk
  case round =>
    obtain ⟨j, v1, v2, v3, v4, hj, rfl, hB, hz, hb1, hb2, i1, i2, i3, i4⟩ := hrel
    clear hbw' hblk
    have c0 := cell_of hb1 0; have c1 := cell_of hb1 1; have c2 := cell_of hb1 2; have c3 := cell_of hb1 3; have c4 := cell_of hb1 4
    have f1 := frozen_of hb2 1; have f2 := frozen_of hb2 2; have f3 := frozen_of hb2 3; have f4 := frozen_of hb2 4; have f5 := frozen_of hb2 5
    have d0 := cell_of hb2 0; have d1 := cell_of hb2 1; have d2 := cell_of hb2 2; have d3 := cell_of hb2 3; have d4 := cell_of hb2 4; have d5 := cell_of hb2 5
    simp at c0 c1 c2 c3 c4 d0 d1 d2 d3 d4 d5
    have Hb1 : Hid _ := hb1; have Hb2 : Hid _ := hb2
    have S1 : Hid (∀ (x : Nat) (m : Int), (wr.setCell ⟨w1.heap.size, x, none⟩ (.int .i64 m)).heap[w.heap.size + 1 + 1]? = some (.cells #[.slice a0 n cap, .int .i32 e0, .int .i32 e1, .int .i32 e2, .int .i32 e3] 31 (0, 0))) := fun x m => by
      rw [Below.heap_setCell _ _ _ _ (by simp; omega)]; exact hb1
    have S2 : Hid (∀ (x : Nat) (m : Int), Below w.heap.size w (wr.setCell ⟨w1.heap.size, x, none⟩ (.int .i64 m))) := fun x m => hB.setCell (by simp; omega) _
    have S3 : Hid (∀ (x : Nat) (m : Int), (wr.setCell ⟨w1.heap.size, x, none⟩ (.int .i64 m)).heap[w1.heap.size]? = some (.cells ((#[.int .i64 0, .int .i64 v1, .int .i64 v2, .int .i64 v3, .int .i64 v4, .int .i64 0] : Array Value).setIfInBounds x (.int .i64 m)) 28 (0, 0))) := fun x m => heap_set hb2 x _
    clear hb1 hb2
    have hj5 : j = 0 ∨ j = 1 ∨ j = 2 ∨ j = 3 ∨ j = 4 := by omega
    rcases hj5 with rfl | rfl | rfl | rfl | rfl
    · go_wp2
      go_roundw
      case rel => exact ⟨1, e0, v2, v3, v4, by omega, rfl, S2.out 1 _, by simpa using hz, S1.out 1 _, S3.out 1 _, by omega, by omega, by omega, by omega⟩
      case measure => simp [intOf]
    · go_wp2
      go_roundw
      case rel => exact ⟨2, v1, e1, v3, v4, by omega, rfl, S2.out 2 _, by simpa using hz, S1.out 2 _, S3.out 2 _, by omega, by omega, by omega, by omega⟩
      case measure => simp [intOf]
    · go_wp2
      go_roundw
      case rel => exact ⟨3, v1, v2, e2, v4, by omega, rfl, S2.out 3 _, by simpa using hz, S1.out 3 _, S3.out 3 _, by omega, by omega, by omega, by omega⟩
      case measure => simp [intOf]
    · go_wp2
      go_roundw
      case rel => exact ⟨4, v1, v2, v3, e3, by omega, rfl, S2.out 4 _, by simpa using hz, S1.out 4 _, S3.out 4 _, by omega, by omega, by omega, by omega⟩
      case measure => simp [intOf]
    · obtain rfl := i1 (by omega); obtain rfl := i2 (by omega); obtain rfl := i3 (by omega); obtain rfl := i4 (by omega)
      clear i1 i2 i3 i4 hj
      go_wp2_with fail
      have T1 := S1.out 5 n; have T2 := S2.out 5 n; have T3 := S3.out 5 n
      have hz' : w1.heap.size < (wr.setCell ⟨w1.heap.size, 5, none⟩ (.int .i64 n)).heap.size := by simpa using hz
      simp at T3
      clear S1 S2 S3 c0 c1 c2 c3 c4 f1 f2 f3 f4 f5 d0 d1 d2 d3 d4 d5 Hb1 Hb2 hB
      generalize wr.setCell ⟨w1.heap.size, 5, none⟩ (.int .i64 n) = W2 at *
      refine (of_any (w.heap.size + 1 + 1) a0 n cap v1 v2 v3 v4 q W2 hq5 hn hcap hcm h01 h12 h23 h3n (by rw [cell_of T1]; rfl) (by rw [cell_of T1]; rfl) (by rw [cell_of T1]; rfl) (by rw [cell_of T1]; rfl) (by rw [cell_of T1]; rfl)).mono ?_
      rintro e w' ⟨r, cap', rfl, rfl, hcap1, hcap2, hr⟩
      have hbm := bnd_mono h01 h12 h23 h3n q hq5
      have hc1 := bnd_cell T3 q (by omega)
      have hc2 := bnd_cell T3 (q + 1) (by omega)
      have Hr : Hid _ := hr
      have HT2 : Hid _ := T2
      clear hr T1 T3 T2
      generalize bnd v1 v2 v3 v4 n q = lo at *
      generalize bnd v1 v2 v3 v4 n (q + 1) = hi at *
      obtain ⟨hlh, hhn⟩ := hbm
      by_cases hlt : lo < hi
      · rcases Hnil.out with hn0 | ⟨bb, off, rfl, hcells⟩
        · exfalso; omega
        obtain rfl := Hr.out bb off rfl hlt
        obtain ⟨m, rfl⟩ : ∃ m, hi = lo + m := ⟨hi - lo, by omega⟩
        have hm : (0 : Int) < (m : Int) := by omega
        have hmN : 0 < m := by omega
        have hmd : (decide ((0 : Int) < (m : Int))) = true := by simpa using hm
        have hmd2 : (decide (0 < m)) = true := by simpa using hmN
        simp only [Nat.add_sub_cancel_left] at *
        clear hlt
        clear Hr Hnil
        have Hc : Hid _ := hcells
        clear hcells
        go_wp2
        go_region
        go_wp2
        go_loopw [14] (fun i wr => ∃ j : Nat, j ≤ m ∧ i = .int .i64 j ∧ Below w.heap.size w wr) (fun i _ => m - (intOf i).toNat)
        case atStart => exact ⟨0, by omega, rfl, HT2.out.drew.drew⟩
        case round =>
          obtain ⟨j, hj, rfl, hB⟩ := hrel
          by_cases hjl : j < m
          · obtain ⟨hbb, hcj⟩ := Hc.out (lo + j) (by omega)
            have hx1 := hB.cell (p := ⟨bb, off + (lo + j), none⟩) hbb
            rw [hcj] at hx1
            have hx2 := hx1
            rw [← Nat.add_assoc] at hx2
            generalize zs.getD (lo + j) 0 = z at *
            have hb1 : (j : Int) < (m : Int) := by omega
            have hb2 : (lo : Int) + (j : Int) < (n : Int) := by omega
            clear hcj
            go_wp2
            go_region
            go_wp2
            go_roundw
            case rel => exact ⟨j + 1, by omega, by go_num, hB.drew⟩
            case measure => simp [intOf]; omega
          · have hjl' : m ≤ j := by omega
            have hb2 : (lo : Int) < (n : Int) := by omega
            have hpe := fun (wx : World) (ad : Addr) => Lib.run_neq_ptr_same (P := Yba.prog) wx (tp := 33) ad Yba.underlying33 hj3
            go_wp2
            go_quiet (fail)
            go_wp2
            go_ret
            exact ⟨rfl, below_drewN hB _⟩
      · have : lo = hi := by omega
        subst this
        go_wp2
        go_region
        go_wp2
        go_loopw [14] (fun i wr => i = .int .i64 0 ∧ Below w.heap.size w wr) (fun i _ => 0)
        case atStart => exact ⟨rfl, HT2.out.drew.drew⟩
        case round =>
          obtain ⟨rfl, hB⟩ := hrel
          have hg : (decide ((0 : Int) < 0)) = false := by simp
          go_wp2
          go_region
          go_wp2
          go_ret
          exact ⟨rfl, hB.drew⟩
end Go.Proofs.Ybulkchuu
