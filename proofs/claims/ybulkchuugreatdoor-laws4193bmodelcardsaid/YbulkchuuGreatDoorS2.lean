import Derived.Test.YbulkchuuGreatDoorS1
namespace Go.Proofs.YbulkchuuGreatDoor
open Go.RowKit
open Go.Sort (swp ltInt size_swp siftDown heapSort heapBuild heapPop PermIn SortedIn sd_end sd_right_stop sd_right_go sd_left_stop sd_left_go)
set_option linter.unusedVariables false
set_option linter.unusedSimpArgs false
set_option maxRecDepth 100000

set_option maxHeartbeats 2000000 in
/-- reverseRange: the places a .. b permuted among themselves -/
theorem reverse169 (g off cap a b n : Nat) (d : Array Int) (w : World) (hn : d.size = n) (hR : R32 g off d w) (hab : a < b) (hb : b ≤ n) (hsz : n < 1000000) :
    Calls Ybaz.prog 169 #[.slice (some ⟨g, off, none⟩) n cap, .int .i64 a, .int .i64 b] w fun e w' => e = .returned (.tuple #[]) ∧ ∃ d', R32 g off d' w' ∧ PermIn a b d d' ∧ FrG g w w' := by
  have HR := hid hR
  clear hR
  go_enter Ybaz.func169, Ybaz.ntmps169
  go_wp2
  go_loopw [6, 7] (fun vi vj wr => ∃ (i j : Nat) (dk : Array Int), vi = .int .i64 i ∧ vj = .int .i64 ((j : Int) - 1) ∧ a ≤ i ∧ i ≤ b ∧ j ≤ b ∧ R32 g off dk wr ∧ PermIn a b d dk ∧ FrG g w wr) (fun _ vj _ => (intOf vj + 1).toNat)
  case atStart => exact ⟨a, b, d, rfl, by go_num, Nat.le_refl _, by omega, Nat.le_refl _, HR.out, Go.Sort.permIn_refl d a b, Fr.refl _ _⟩
  case round =>
    obtain ⟨i, j, dk, rfl, rfl, hai, hib, hjb, hRk, hPk, hFk⟩ := hrel
    have hsk : dk.size = n := by rw [hPk.1]; exact hn
    obtain ⟨G, hG, hcw, hfw⟩ := hRk.fam hsk
    have HRk := hid hRk; have HFk := hid hFk; have HG := hid hG; have HPk := hid hPk
    clear hRk hFk hG hPk
    by_cases hij : i + 1 < j
    · obtain ⟨jm, rfl⟩ : ∃ jm, j = jm + 1 := ⟨j - 1, by omega⟩
      have hiji : (i : Int) < (jm : Int) := by omega
      have e1 : (((jm + 1 : Nat) : Int) - 1) = (jm : Int) := by omega
      rw [e1]
      go_wp2
      go_region
      go_wp2
      go_roundw
      case rel =>
        refine ⟨i + 1, jm, swp dk i jm, by go_num, by first | rfl | go_num, by omega, by omega, by omega, ?_, ?_, HFk.out.swap _ _ _ _⟩
        · rw [HG.out, HG.out]; exact HRk.out.swap i jm (by omega) (by omega)
        · exact Go.Sort.permIn_trans d dk _ a b HPk.out (Go.Sort.swp_permIn dk a b i jm (by omega) (by omega) (by omega) (by omega) (by omega))
      case measure => simp [intOf] <;> omega
    · have hiji : ¬ (i : Int) < (j : Int) - 1 := by omega
      go_wp2
      go_end0
      exact ⟨rfl, dk, HRk.out, HPk.out, HFk.out⟩

set_option maxHeartbeats 4000000 in
theorem sift206 (g off cap lo hi first n : Nat) (d : Array Int) (w : World) (hn : d.size = n) (hR : R32 g off d w) (hlo : lo ≤ hi) (hb : first + hi ≤ n) (hsz : n < 1000000) :
    Calls Ybaz.prog 206 #[.slice (some ⟨g, off, none⟩) n cap, .int .i64 lo, .int .i64 hi, .int .i64 first] w fun e w' => e = .returned (.tuple #[]) ∧ R32 g off (siftDown ltInt hi first lo d) w' ∧ FrG g w w' := by
  have HR := hid hR
  clear hR
  go_enter Ybaz.func206, Ybaz.ntmps206
  go_wp2
  go_loopw [8] (fun vr wr => ∃ (root : Nat) (dk : Array Int), vr = .int .i64 root ∧ root ≤ hi ∧ dk.size = n ∧ R32 g off dk wr ∧ FrG g w wr ∧ siftDown ltInt hi first root dk = siftDown ltInt hi first lo d) (fun vr _ => hi - (intOf vr).toNat)
  case atStart => exact ⟨lo, d, rfl, hlo, hn, HR.out, Fr.refl _ _, rfl⟩
  case round =>
    obtain ⟨root, dk, rfl, hrh, hsk, hRk, hFk, hO⟩ := hrel
    obtain ⟨G, hG, hcw, hfw⟩ := hRk.fam hsk
    have HRk := hid hRk; have HFk := hid hFk; have HG := hid hG; have HO := hid hO
    clear hRk hFk hG hO
    by_cases hend : hi ≤ 2 * root + 1
    · have hei : (hi : Int) ≤ 2 * (root : Int) + 1 := by omega
      go_wp2
      go_end0
      exact ⟨rfl, by rw [← HO.out, sd_end ltInt dk hend]; exact HRk.out, HFk.out⟩
    · have hei : ¬ (hi : Int) ≤ 2 * (root : Int) + 1 := by omega
      by_cases h1 : 2 * root + 2 < hi
      · have h1z : 2 * (root : Int) + 1 + 1 < (hi : Int) := by omega
        go_wp2_with fail
        go_big_quiet (first | (go_at_call 171; refine Calls.quiet_of_same (less171 _ _ _)))
        go_wp2_with fail
        · have hL : ltInt (G (first + 2 * root + 1)) (G (first + 2 * root + 2)) = true := by assumption
          revert nq; intro nq1
          have hcw2 : ∀ t, t < n → (wr.drewN nq1).cell? ⟨g, off + t, none⟩ = some (.int .i32 (G t)) := hcw
          have hfw2 : ∀ t, t < n → (wr.drewN nq1).frozen? ⟨g, off + t, none⟩ = false := hfw
          have HR2 : Hid (R32 g off dk (wr.drewN nq1)) := hid HRk.out
          have HF2 : Hid (FrG g w (wr.drewN nq1)) := hid HFk.out
          clear hcw hfw HRk HFk
          generalize wr.drewN nq1 = wr2 at hcw2 hfw2 HR2 HF2 ⊢
          go_big_quiet (first | (go_at_call 171; refine Calls.quiet_of_same (less171 _ _ _)))
          go_wp2_with fail
          · have hS : ltInt (G (first + root)) (G (first + 2 * root + 2)) = false := by
              have : (!ltInt (G (first + root)) (G (first + 2 * root + 2))) = true := by assumption
              simpa using this
            (try simp only [Exit.inBlock, Exit.then]); refine bodyPost_ret (results_none rfl _ _ _) rfl ?_
            simp only [HG.out] at hS hL
            exact ⟨rfl, by rw [← HO.out, sd_right_stop ltInt dk h1 hL hS]; exact HR2.out, HF2.out⟩
          · have hS : ltInt (G (first + root)) (G (first + 2 * root + 2)) = true := by
              have : (!ltInt (G (first + root)) (G (first + 2 * root + 2))) = false := by assumption
              simpa using this
            have hcw3 : ∀ t, t < n → (wr2.drewN nq).cell? ⟨g, off + t, none⟩ = some (.int .i32 (G t)) := hcw2
            have hfw3 : ∀ t, t < n → (wr2.drewN nq).frozen? ⟨g, off + t, none⟩ = false := hfw2
            have HR3 : Hid (R32 g off dk (wr2.drewN nq)) := hid HR2.out
            have HF3 : Hid (FrG g w (wr2.drewN nq)) := hid HF2.out
            clear hcw2 hfw2 HR2 HF2
            generalize wr2.drewN nq = wr3 at hcw3 hfw3 HR3 HF3 ⊢
            go_region
            go_wp2
            go_roundw
            case rel =>
              simp only [HG.out] at hS hL ⊢
              refine ⟨2 * root + 2, swp dk (first + root) (first + (2 * root + 2)), by first | rfl | go_num | (congr 1; omega), by omega, by rw [size_swp]; exact hsk, ?_, HF3.out.swap _ _ _ _, by rw [← HO.out, sd_right_go ltInt dk h1 hL hS]⟩
              exact HR3.out.swap (first + root) (first + (2 * root + 2)) (by omega) (by omega)
            case measure => simp [intOf]; omega
        · have hL : ltInt (G (first + 2 * root + 1)) (G (first + 2 * root + 2)) = false := by assumption
          revert nq; intro nq1
          have hcw2 : ∀ t, t < n → (wr.drewN nq1).cell? ⟨g, off + t, none⟩ = some (.int .i32 (G t)) := hcw
          have hfw2 : ∀ t, t < n → (wr.drewN nq1).frozen? ⟨g, off + t, none⟩ = false := hfw
          have HR2 : Hid (R32 g off dk (wr.drewN nq1)) := hid HRk.out
          have HF2 : Hid (FrG g w (wr.drewN nq1)) := hid HFk.out
          clear hcw hfw HRk HFk
          generalize wr.drewN nq1 = wr2 at hcw2 hfw2 HR2 HF2 ⊢
          go_big_quiet (first | (go_at_call 171; refine Calls.quiet_of_same (less171 _ _ _)))
          go_wp2_with fail
          · have hS : ltInt (G (first + root)) (G (first + 2 * root + 1)) = false := by
              have : (!ltInt (G (first + root)) (G (first + 2 * root + 1))) = true := by assumption
              simpa using this
            (try simp only [Exit.inBlock, Exit.then]); refine bodyPost_ret (results_none rfl _ _ _) rfl ?_
            simp only [HG.out] at hS hL
            exact ⟨rfl, by rw [← HO.out, sd_left_stop ltInt dk (by omega) (fun _ => hL) hS]; exact HR2.out, HF2.out⟩
          · have hS : ltInt (G (first + root)) (G (first + 2 * root + 1)) = true := by
              have : (!ltInt (G (first + root)) (G (first + 2 * root + 1))) = false := by assumption
              simpa using this
            have hcw3 : ∀ t, t < n → (wr2.drewN nq).cell? ⟨g, off + t, none⟩ = some (.int .i32 (G t)) := hcw2
            have hfw3 : ∀ t, t < n → (wr2.drewN nq).frozen? ⟨g, off + t, none⟩ = false := hfw2
            have HR3 : Hid (R32 g off dk (wr2.drewN nq)) := hid HR2.out
            have HF3 : Hid (FrG g w (wr2.drewN nq)) := hid HF2.out
            clear hcw2 hfw2 HR2 HF2
            generalize wr2.drewN nq = wr3 at hcw3 hfw3 HR3 HF3 ⊢
            go_region
            go_wp2
            go_roundw
            case rel =>
              simp only [HG.out] at hS hL ⊢
              refine ⟨2 * root + 1, swp dk (first + root) (first + (2 * root + 1)), by first | rfl | go_num | (congr 1; omega), by omega, by rw [size_swp]; exact hsk, ?_, HF3.out.swap _ _ _ _, by rw [← HO.out, sd_left_go ltInt dk (by omega) (fun _ => hL) hS]⟩
              exact HR3.out.swap (first + root) (first + (2 * root + 1)) (by omega) (by omega)
            case measure => simp [intOf]; omega
      · have h1z : decide (2 * (root : Int) + 1 + 1 < (hi : Int)) = false := by simp; omega
        go_wp2_with fail
        go_big_quiet (first | (go_at_call 171; refine Calls.quiet_of_same (less171 _ _ _)))
        go_wp2_with fail
        revert nq; intro nq1
        have hcw2 : ∀ t, t < n → (wr.drewN nq1).cell? ⟨g, off + t, none⟩ = some (.int .i32 (G t)) := hcw
        have hfw2 : ∀ t, t < n → (wr.drewN nq1).frozen? ⟨g, off + t, none⟩ = false := hfw
        have HR2 : Hid (R32 g off dk (wr.drewN nq1)) := hid HRk.out
        have HF2 : Hid (FrG g w (wr.drewN nq1)) := hid HFk.out
        clear hcw hfw HRk HFk
        generalize wr.drewN nq1 = wr2 at hcw2 hfw2 HR2 HF2 ⊢
        go_big_quiet (first | (go_at_call 171; refine Calls.quiet_of_same (less171 _ _ _)))
        go_wp2_with fail
        · have hS : ltInt (G (first + root)) (G (first + 2 * root + 1)) = false := by
            have : (!ltInt (G (first + root)) (G (first + 2 * root + 1))) = true := by assumption
            simpa using this
          (try simp only [Exit.inBlock, Exit.then]); refine bodyPost_ret (results_none rfl _ _ _) rfl ?_
          simp only [HG.out] at hS
          exact ⟨rfl, by rw [← HO.out, sd_left_stop ltInt dk (by omega) (fun h => absurd h h1) hS]; exact HR2.out, HF2.out⟩
        · have hS : ltInt (G (first + root)) (G (first + 2 * root + 1)) = true := by
            have : (!ltInt (G (first + root)) (G (first + 2 * root + 1))) = false := by assumption
            simpa using this
          have hcw3 : ∀ t, t < n → (wr2.drewN nq).cell? ⟨g, off + t, none⟩ = some (.int .i32 (G t)) := hcw2
          have hfw3 : ∀ t, t < n → (wr2.drewN nq).frozen? ⟨g, off + t, none⟩ = false := hfw2
          have HR3 : Hid (R32 g off dk (wr2.drewN nq)) := hid HR2.out
          have HF3 : Hid (FrG g w (wr2.drewN nq)) := hid HF2.out
          clear hcw2 hfw2 HR2 HF2
          generalize wr2.drewN nq = wr3 at hcw3 hfw3 HR3 HF3 ⊢
          go_region
          go_wp2
          go_roundw
          case rel =>
            simp only [HG.out] at hS ⊢
            refine ⟨2 * root + 1, swp dk (first + root) (first + (2 * root + 1)), by first | rfl | go_num | (congr 1; omega), by omega, by rw [size_swp]; exact hsk, ?_, HF3.out.swap _ _ _ _, by rw [← HO.out, sd_left_go ltInt dk (by omega) (fun h => absurd h h1) hS]⟩
            exact HR3.out.swap (first + root) (first + (2 * root + 1)) (by omega) (by omega)
          case measure => simp [intOf]; omega

theorem heapPop_succ (a k : Nat) (d : Array Int) : heapPop ltInt a (k + 1) d = heapPop ltInt a k (siftDown ltInt k a 0 (swp d a (a + k))) := rfl
set_option maxHeartbeats 4000000 in
theorem heap166 (g off cap a b n : Nat) (d : Array Int) (w : World) (hn : d.size = n) (hR : R32 g off d w) (hab : a < b) (hb : b ≤ n) (hsz : n < 1000000) :
    Calls Ybaz.prog 166 #[.slice (some ⟨g, off, none⟩) n cap, .int .i64 a, .int .i64 b] w fun e w' => e = .returned (.tuple #[]) ∧ R32 g off (heapSort ltInt d a b) w' ∧ FrG g w w' := by
  have HR := hid hR
  have HSf := hid (fun (lo hi first : Nat) (dk : Array Int) (wk : World) (h1 : dk.size = n) (h2 : R32 g off dk wk) (h3 : lo ≤ hi) (h4 : first + hi ≤ n) => sift206 g off cap lo hi first n dk wk h1 h2 h3 h4 hsz)
  have hba : ((b : Int) - (a : Int)) = ((b - a : Nat) : Int) := by omega
  clear hR
  obtain ⟨L, hL⟩ : ∃ L, b - a = L := ⟨_, rfl⟩
  rw [hL] at hba
  unfold heapSort
  rw [hL]
  go_enter Ybaz.func166, Ybaz.ntmps166
  go_wp2_with fail
  go_loopw [9] (fun vi wr => ∃ (k : Nat) (dk : Array Int), vi = .int .i64 ((k : Int) - 1) ∧ k ≤ L ∧ dk.size = n ∧ R32 g off dk wr ∧ FrG g w wr ∧ heapBuild ltInt L a k dk = heapBuild ltInt L a ((L - 1) / 2 + 1) d) (fun vi _ => (intOf vi + 1).toNat)
  case atStart => exact ⟨(L - 1) / 2 + 1, d, by congr 1; omega, by omega, hn, HR.out, Fr.refl _ _, rfl⟩
  case round =>
    generalize wr = wq at *
    obtain ⟨k, dk, rfl, hk, hsk, hRk, hFk, hO⟩ := hrel
    have HRk := hid hRk; have HFk := hid hFk; have HO := hid hO
    clear hRk hFk hO
    match k with
    | k + 1 =>
      have e1 : ((k + 1 : Nat) : Int) - 1 = (k : Int) := by omega
      rw [e1]
      go_wp2_with fail
      refine (HSf.out k L a dk wq hsk HRk.out (by omega) (by omega)).mono ?_
      rintro e w2 ⟨rfl, hR2, hF2⟩
      have HR2 := hid hR2; have HF2 := hid (HFk.out.trans hF2)
      clear hR2 hF2
      go_wp2
      go_roundw
      case rel => exact ⟨k, siftDown ltInt L a k dk, by go_num, by omega, by rw [Go.Sort.size_siftDown ltInt L a L k _ (by omega)]; exact hsk, HR2.out, HF2.out, by rw [← HO.out]; rfl⟩
      case measure => simp [intOf] <;> omega
    | 0 =>
      have e1 : ((0 : Nat) : Int) - 1 = -1 := rfl
      rw [e1]
      have hB : dk = heapBuild ltInt L a ((L - 1) / 2 + 1) d := HO.out
      have HB := hid hB
      clear hB HO
      go_wp2
      go_loopw [10] (fun vi wr => ∃ (k : Nat) (dj : Array Int), vi = .int .i64 ((k : Int) - 1) ∧ k ≤ L ∧ dj.size = n ∧ R32 g off dj wr ∧ FrG g w wr ∧ heapPop ltInt a k dj = heapPop ltInt a L dk) (fun vi _ => (intOf vi + 1).toNat)
      case atStart => exact ⟨L, dk, by first | rfl | (congr 1; omega), Nat.le_refl _, hsk, HRk.out, HFk.out, rfl⟩
      case round =>
        obtain ⟨k, dj, rfl, hk, hsj, hRj, hFj, hO⟩ := hrel
        obtain ⟨G, hG, hcw, hfw⟩ := hRj.fam hsj
        have HRj := hid hRj; have HFj := hid hFj; have HO := hid hO; have HG := hid hG
        clear hRj hFj hO hG
        match k with
        | 1 =>
          have e1 : ((1 : Nat) : Int) - 1 = 0 := by omega
          rw [e1]
          go_wp2_with fail
          go_region
          go_wp2_with fail
          simp only [HG.out]
          have hR2 : R32 g off (swp dj a (a)) ((wr.setCell ⟨g, off + a, none⟩ (.int .i32 dj[a]!)).setCell ⟨g, off + (a), none⟩ (.int .i32 dj[a]!)).drew := HRj.out.swap a (a) (by omega) (by omega)
          have hF2 : FrG g w ((wr.setCell ⟨g, off + a, none⟩ (.int .i32 dj[a]!)).setCell ⟨g, off + (a), none⟩ (.int .i32 dj[a]!)).drew := HFj.out.swap (off + a) (off + (a)) (.int .i32 dj[a]!) (.int .i32 dj[a]!)
          have hs2 : (swp dj a (a)).size = n := by rw [size_swp]; exact hsj
          refine (HSf.out 0 0 a (swp dj a (a)) _ hs2 hR2 (by omega) (by omega)).mono ?_
          rintro e w2 ⟨rfl, hR3, hF3⟩
          have HR3 := hid hR3; have HF3 := hid (hF2.trans hF3)
          clear hR2 hF2 hR3 hF3
          go_wp2
          go_roundw
          case rel => exact ⟨0, siftDown ltInt 0 a 0 (swp dj a a), by go_num, by omega, by rw [Go.Sort.size_siftDown ltInt 0 a 0 0 _ (by omega)]; exact hs2, HR3.out, HF3.out, by rw [← HO.out, heapPop_succ, Nat.add_zero]⟩
          case measure => simp [intOf] <;> omega
        | k + 2 =>
          obtain ⟨K, hK⟩ : ∃ K, K = k + 1 := ⟨_, rfl⟩
          have e1 : ((k + 2 : Nat) : Int) - 1 = (K : Int) := by omega
          rw [e1]
          have hne : a + K ≠ a := by omega
          have hkL : K + 1 ≤ L := by omega
          have HKK := hid hK
          clear hK e1 hk
          go_wp2_with fail
          go_region
          go_wp2_with fail
          simp only [HG.out]
          have hR2 : R32 g off (swp dj a (a + K)) ((wr.setCell ⟨g, off + a, none⟩ (.int .i32 dj[a + K]!)).setCell ⟨g, off + (a + K), none⟩ (.int .i32 dj[a]!)).drew := HRj.out.swap a (a + K) (by omega) (by omega)
          have hF2 : FrG g w ((wr.setCell ⟨g, off + a, none⟩ (.int .i32 dj[a + K]!)).setCell ⟨g, off + (a + K), none⟩ (.int .i32 dj[a]!)).drew := HFj.out.swap (off + a) (off + (a + K)) (.int .i32 dj[a + K]!) (.int .i32 dj[a]!)
          have hs2 : (swp dj a (a + K)).size = n := by rw [size_swp]; exact hsj
          refine (HSf.out 0 K a (swp dj a (a + K)) _ hs2 hR2 (by omega) (by omega)).mono ?_
          rintro e w2 ⟨rfl, hR3, hF3⟩
          have HR3 := hid hR3; have HF3 := hid (hF2.trans hF3)
          clear hR2 hF2 hR3 hF3
          go_wp2
          go_roundw
          case rel => exact ⟨K, siftDown ltInt K a 0 (swp dj a (a + K)), by first | rfl | go_num, by omega, by rw [Go.Sort.size_siftDown ltInt K a K 0 _ (by omega)]; exact hs2, HR3.out, HF3.out, by rw [← HO.out, show k + 2 = K + 1 by have := HKK.out; omega, heapPop_succ]⟩
          case measure => simp [intOf] <;> omega
        | 0 =>
          have e1 : ((0 : Nat) : Int) - 1 = -1 := rfl
          rw [e1]
          go_wp2
          go_end0
          refine ⟨rfl, ?_, HFj.out⟩
          rw [← HB.out, ← HO.out]
          exact HRj.out
end Go.Proofs.YbulkchuuGreatDoor
