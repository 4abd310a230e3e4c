import Derived.Test.YbulkchuuGreatDoorS4
namespace Go.Proofs.YbulkchuuGreatDoor
open Go.RowKit
open Go.Sort (swp ltInt size_swp PermIn partialIns partialInsertionSort scanSorted shiftDown shiftUp fixDown fixUp)
open Go.Proofs (scanSorted_go scanSorted_stop shiftDown_go shiftDown_stop shiftUp_go shiftUp_stop pi_true pi_short pi_go pi_end)
set_option linter.unusedVariables false
set_option linter.unusedSimpArgs false
set_option maxRecDepth 100000

set_option maxHeartbeats 12000000 in
theorem partial170 (g off cap n a b : Nat) (d : Array Int) (w : World) (hn : d.size = n) (hR : R32 g off d w) (hab : a < b) (hb : b ≤ n) (hsz : n < 1000000) :
    Calls Ybaz.prog 170 #[.slice (some ⟨g, off, none⟩) n cap, .int .i64 a, .int .i64 b] w fun e w' => e = .returned (.bool (partialInsertionSort ltInt d a b).2) ∧ R32 g off (partialInsertionSort ltInt d a b).1 w' ∧ FrG g w w' := by
  unfold partialInsertionSort
  have HR := hid hR
  clear hR
  obtain ⟨T, hT⟩ : ∃ T, partialIns ltInt a b 5 (a + 1) d = T := ⟨_, rfl⟩
  rw [hT]
  have HT := hid hT
  clear hT
  go_enter Ybaz.func170, Ybaz.ntmps170
  go_wp2
  go_loopw [7, 8] (fun vi vs wr => ∃ (i s : Nat) (dk : Array Int), vi = .int .i64 i ∧ vs = .int .i64 s ∧ a < i ∧ i ≤ b ∧ s ≤ 5 ∧ dk.size = n ∧ R32 g off dk wr ∧ FrG g w wr ∧ partialIns ltInt a b (5 - s) i dk = T) (fun _ vs _ => 5 - (intOf vs).toNat)
  case atStart => exact ⟨a + 1, 0, d, by go_num, rfl, by omega, by omega, by omega, hn, HR.out, Fr.refl _ _, HT.out⟩
  case round =>
    generalize wr = wq at *
    obtain ⟨i0, s, dk, rfl, rfl, hai, hib, hs5, hsk, hRk, hFk, hO⟩ := hrel
    have HRk := hid hRk; have HFk := hid hFk; have HO := hid hO
    clear hRk hFk hO
    by_cases hs : s < 5
    · have hsi : (s : Int) < 5 := by omega
      go_wp2
      go_loopw [7] (fun vi wr => ∃ (i : Nat), vi = .int .i64 i ∧ i0 ≤ i ∧ i ≤ b ∧ R32 g off dk wr ∧ FrG g w wr ∧ scanSorted ltInt dk b i = scanSorted ltInt dk b i0) (fun vi _ => b - (intOf vi).toNat)
      case atStart => exact ⟨i0, rfl, Nat.le_refl _, hib, HRk.out, HFk.out, rfl⟩
      case round =>
        generalize wr = wx at *
        obtain ⟨k, rfl, hk0, hkb, hRi, hFi, hSc⟩ := hrel
        obtain ⟨G, hG, hcw, hfw⟩ := hRi.fam hsk
        have HRi := hid hRi; have HFi := hid hFi; have HSc := hid hSc; have HG := hid hG
        clear hRi hFi hSc hG
        by_cases hkb2 : k < b
        · have hkbi : (k : Int) < (b : Int) := by omega
          cases hl : ltInt (G k) (G (k - 1)) with
          | false =>
            go_wp2
            go_quiet (first | (go_at_call 171; refine Calls.quiet_of_same (less171 _ _ _)))
            go_wp2
            go_roundw
            case rel => exact ⟨k + 1, by go_num, by omega, by omega, HRi.out, HFi.out, by rw [← HSc.out, scanSorted_go ltInt dk b k hkb2 (by rw [← HG.out, ← HG.out]; exact hl)]⟩
            case measure => simp [intOf] <;> omega
          | true =>
            have HK : Hid (scanSorted ltInt dk b i0 = k) := hid (by rw [← HSc.out, scanSorted_stop ltInt dk b k (.inr (by rw [← HG.out, ← HG.out]; exact hl))])
            have hkbe : ((k : Int) == (b : Int)) = false := by simp; omega
            by_cases h50 : b - a < 50
            · have h50i : (b : Int) - (a : Int) < 50 := by omega
              have HE := hid (HO.out.symm.trans (pi_short ltInt a b s i0 dk hs (by rw [HK.out]; omega) h50))
              go_wp2
              go_quiet (first | (go_at_call 171; refine Calls.quiet_of_same (less171 _ _ _)))
              go_wp2
              go_ret
              rw [HE.out]
              exact ⟨rfl, HRi.out, HFi.out⟩
            · have h50i : decide ((b : Int) - (a : Int) < 50) = false := by simp; omega
              have HE := hid (HO.out.symm.trans (pi_go ltInt a b s i0 k dk hs HK.out (by omega) h50))
              go_wp2
              go_quiet (first | (go_at_call 171; refine Calls.quiet_of_same (less171 _ _ _)))
              go_wp2
              revert nq; intro nq2
              have hcw4 : ∀ t, t < n → (wx.drewN nq2).cell? ⟨g, off + t, none⟩ = some (.int .i32 (G t)) := hcw
              have hfw4 : ∀ t, t < n → (wx.drewN nq2).frozen? ⟨g, off + t, none⟩ = false := hfw
              have HR4 : Hid (R32 g off dk (wx.drewN nq2)) := hid HRi.out
              have HF4 : Hid (FrG g w (wx.drewN nq2)) := hid HFi.out
              clear hcw hfw hl
              generalize wx.drewN nq2 = wy at hcw4 hfw4 HR4 HF4 ⊢
              go_region
              have HR5 : Hid (R32 g off (swp dk k (k - 1)) ((wy.setCell ⟨g, off + k, none⟩ (.int .i32 (G (k - 1)))).setCell ⟨g, off + (k - 1), none⟩ (.int .i32 (G k))).drew) := hid (by simp only [HG.out]; exact HR4.out.swap k (k - 1) (by omega) (by omega))
              have HF5 : Hid (FrG g w ((wy.setCell ⟨g, off + k, none⟩ (.int .i32 (G (k - 1)))).setCell ⟨g, off + (k - 1), none⟩ (.int .i32 (G k))).drew) := hid (FrG.swap (g := g) HF4.out _ _ _ _)
              generalize ((wy.setCell ⟨g, off + k, none⟩ (.int .i32 (G (k - 1)))).setCell ⟨g, off + (k - 1), none⟩ (.int .i32 (G k))).drew = W5 at *
              obtain ⟨d1, hd1⟩ : ∃ d1, swp dk k (k - 1) = d1 := ⟨_, rfl⟩
              have hs1 : d1.size = n := by rw [← hd1, size_swp]; exact hsk
              rw [hd1] at HR5 HE
              clear hd1 hcw4 hfw4 HR4 HF4
              by_cases h2 : 2 ≤ k - a
              · have h2i : 2 ≤ (k : Int) - (a : Int) := by omega
                have HFd : Hid (fixDown ltInt a k d1 = shiftDown ltInt (k - 1) d1) := hid (by unfold fixDown; rw [if_pos h2])
                go_wp2
                go_loopw [9] (fun vj wr => ∃ (j : Nat) (dj : Array Int), vj = .int .i64 j ∧ j ≤ k - 1 ∧ dj.size = n ∧ R32 g off dj wr ∧ FrG g w wr ∧ shiftDown ltInt j dj = shiftDown ltInt (k - 1) d1) (fun vj _ => (intOf vj).toNat)
                case atStart => exact ⟨k - 1, d1, by congr 1; omega, Nat.le_refl _, hs1, HR5.out, HF5.out, rfl⟩
                case round =>
                  generalize wr = wt at *
                  obtain ⟨jd, dd, rfl, hjd, hsd, hRd, hFd, hD⟩ := hrel
                  obtain ⟨G2, hG2, hcw2, hfw2⟩ := hRd.fam hsd
                  have HRd := hid hRd; have HFd2 := hid hFd; have HD := hid hD; have HG2 := hid hG2
                  clear hRd hFd hD hG2
                  by_cases hj1 : 1 ≤ jd
                  · have hj1i : 1 ≤ (jd : Int) := by omega
                    cases hl2 : ltInt (G2 jd) (G2 (jd - 1)) with
                    | true =>
                      have Hgo := hid (shiftDown_go ltInt jd dd hj1 (by rw [← HG2.out, ← HG2.out]; exact hl2))
                      go_wp2
                      go_quiet (first | (go_at_call 171; refine Calls.quiet_of_same (less171 _ _ _)))
                      go_wp2
                      revert nq; intro nq3
                      have hcw7 : ∀ t, t < n → (wt.drewN nq3).cell? ⟨g, off + t, none⟩ = some (.int .i32 (G2 t)) := hcw2
                      have hfw7 : ∀ t, t < n → (wt.drewN nq3).frozen? ⟨g, off + t, none⟩ = false := hfw2
                      have HR7 : Hid (R32 g off dd (wt.drewN nq3)) := hid HRd.out
                      have HF7 : Hid (FrG g w (wt.drewN nq3)) := hid HFd2.out
                      clear hcw2 hfw2 hl2
                      generalize wt.drewN nq3 = wv at hcw7 hfw7 HR7 HF7 ⊢
                      go_region
                      go_wp2
                      go_roundw
                      case rel =>
                        simp only [HG2.out]
                        refine ⟨jd - 1, swp dd jd (jd - 1), by congr 1; omega, by omega, by rw [size_swp]; exact hsd, HR7.out.swap jd (jd - 1) (by omega) (by omega), FrG.swap (g := g) HF7.out _ _ _ _, ?_⟩
                        rw [← HD.out]; exact Hgo.out.symm
                      case measure => simp [intOf] <;> omega
                    | false =>
                      have Hst := hid (HFd.out.trans (HD.out.symm.trans (shiftDown_stop ltInt jd dd (.inr (by rw [← HG2.out, ← HG2.out]; exact hl2)))))
                      rw [Hst.out] at HE
                      have HR6 := HRd; have HF6 := HFd2; have hs2 := hsd
                      go_wp2
                      go_quiet (first | (go_at_call 171; refine Calls.quiet_of_same (less171 _ _ _)))
                      clear hcw2 hfw2 hl2
                      by_cases h3 : 2 ≤ b - k
                      · have h3i : 2 ≤ (b : Int) - (k : Int) := by omega
                        have HFu : Hid (fixUp ltInt b k dd = shiftUp ltInt b (k + 1) dd) := hid (by unfold fixUp; rw [if_pos h3])
                        rw [HFu.out] at HE
                        go_wp2
                        go_loopw [10] (fun vj wr => ∃ (j : Nat) (dj : Array Int), vj = .int .i64 j ∧ k + 1 ≤ j ∧ j ≤ b ∧ dj.size = n ∧ R32 g off dj wr ∧ FrG g w wr ∧ shiftUp ltInt b j dj = shiftUp ltInt b (k + 1) dd) (fun vj _ => b - (intOf vj).toNat)
                        case atStart => exact ⟨k + 1, dd, by go_num, Nat.le_refl _, by omega, hs2, HR6.out, HF6.out, rfl⟩
                        case round =>
                          generalize wr = wu at *
                          obtain ⟨j, dj, rfl, hj0, hjb, hsj, hRj, hFj, hU⟩ := hrel
                          obtain ⟨G3, hG3, hcw3, hfw3⟩ := hRj.fam hsj
                          have HRj := hid hRj; have HFj := hid hFj; have HU := hid hU; have HG3 := hid hG3
                          clear hRj hFj hU hG3
                          by_cases hjb2 : j < b
                          · have hjbi : (j : Int) < (b : Int) := by omega
                            cases hl3 : ltInt (G3 j) (G3 (j - 1)) with
                            | true =>
                              have Hgo := hid (shiftUp_go ltInt b j dj hjb2 (by rw [← HG3.out, ← HG3.out]; exact hl3))
                              go_wp2
                              go_quiet (first | (go_at_call 171; refine Calls.quiet_of_same (less171 _ _ _)))
                              go_wp2
                              revert nq; intro nq3
                              have hcw7 : ∀ t, t < n → (wu.drewN nq3).cell? ⟨g, off + t, none⟩ = some (.int .i32 (G3 t)) := hcw3
                              have hfw7 : ∀ t, t < n → (wu.drewN nq3).frozen? ⟨g, off + t, none⟩ = false := hfw3
                              have HR7 : Hid (R32 g off dj (wu.drewN nq3)) := hid HRj.out
                              have HF7 : Hid (FrG g w (wu.drewN nq3)) := hid HFj.out
                              clear hcw3 hfw3 hl3
                              generalize wu.drewN nq3 = wv at hcw7 hfw7 HR7 HF7 ⊢
                              go_region
                              go_wp2
                              go_roundw
                              case rel =>
                                simp only [HG3.out]
                                refine ⟨j + 1, swp dj j (j - 1), by go_num, by omega, by omega, by rw [size_swp]; exact hsj, HR7.out.swap j (j - 1) (by omega) (by omega), FrG.swap (g := g) HF7.out _ _ _ _, ?_⟩
                                rw [← HU.out]; exact Hgo.out.symm
                              case measure => simp [intOf] <;> omega
                            | false =>
                              have Hst := hid (HU.out.symm.trans (shiftUp_stop ltInt b j dj (.inr (by rw [← HG3.out, ← HG3.out]; exact hl3))))
                              rw [Hst.out] at HE
                              go_wp2
                              go_quiet (first | (go_at_call 171; refine Calls.quiet_of_same (less171 _ _ _)))
                              go_wp2
                              go_roundw
                              case rel => exact ⟨k, s + 1, dj, rfl, by go_num, by omega, by omega, by omega, hsj, HRj.out, HFj.out, by rw [HE.out]⟩
                              case measure => simp [intOf] <;> omega
                          · have hjbi : ¬ (j : Int) < (b : Int) := by omega
                            have Hst := hid (HU.out.symm.trans (shiftUp_stop ltInt b j dj (.inl hjb2)))
                            rw [Hst.out] at HE
                            go_wp2
                            go_roundw
                            case rel => exact ⟨k, s + 1, dj, rfl, by go_num, by omega, by omega, by omega, hsj, HRj.out, HFj.out, by rw [HE.out]⟩
                            case measure => simp [intOf] <;> omega
                      · have h3i : ¬ 2 ≤ (b : Int) - (k : Int) := by omega
                        have HFu : Hid (fixUp ltInt b k dd = dd) := hid (by unfold fixUp; rw [if_neg h3])
                        rw [HFu.out] at HE
                        go_wp2
                        go_roundw
                        case rel => exact ⟨k, s + 1, dd, rfl, by go_num, by omega, by omega, by omega, hs2, HR6.out, HF6.out, by rw [HE.out]⟩
                        case measure => simp [intOf] <;> omega
                  · have hj1i : ¬ 1 ≤ (jd : Int) := by omega
                    have Hst := hid (HFd.out.trans (HD.out.symm.trans (shiftDown_stop ltInt jd dd (.inl (by omega)))))
                    rw [Hst.out] at HE
                    have HR6 := HRd; have HF6 := HFd2; have hs2 := hsd
                    clear hcw2 hfw2
                    by_cases h3 : 2 ≤ b - k
                    · have h3i : 2 ≤ (b : Int) - (k : Int) := by omega
                      have HFu : Hid (fixUp ltInt b k dd = shiftUp ltInt b (k + 1) dd) := hid (by unfold fixUp; rw [if_pos h3])
                      rw [HFu.out] at HE
                      go_wp2
                      go_loopw [10] (fun vj wr => ∃ (j : Nat) (dj : Array Int), vj = .int .i64 j ∧ k + 1 ≤ j ∧ j ≤ b ∧ dj.size = n ∧ R32 g off dj wr ∧ FrG g w wr ∧ shiftUp ltInt b j dj = shiftUp ltInt b (k + 1) dd) (fun vj _ => b - (intOf vj).toNat)
                      case atStart => exact ⟨k + 1, dd, by go_num, Nat.le_refl _, by omega, hs2, HR6.out, HF6.out, rfl⟩
                      case round =>
                        generalize wr = wu at *
                        obtain ⟨j, dj, rfl, hj0, hjb, hsj, hRj, hFj, hU⟩ := hrel
                        obtain ⟨G3, hG3, hcw3, hfw3⟩ := hRj.fam hsj
                        have HRj := hid hRj; have HFj := hid hFj; have HU := hid hU; have HG3 := hid hG3
                        clear hRj hFj hU hG3
                        by_cases hjb2 : j < b
                        · have hjbi : (j : Int) < (b : Int) := by omega
                          cases hl3 : ltInt (G3 j) (G3 (j - 1)) with
                          | true =>
                            have Hgo := hid (shiftUp_go ltInt b j dj hjb2 (by rw [← HG3.out, ← HG3.out]; exact hl3))
                            go_wp2
                            go_quiet (first | (go_at_call 171; refine Calls.quiet_of_same (less171 _ _ _)))
                            go_wp2
                            revert nq; intro nq3
                            have hcw7 : ∀ t, t < n → (wu.drewN nq3).cell? ⟨g, off + t, none⟩ = some (.int .i32 (G3 t)) := hcw3
                            have hfw7 : ∀ t, t < n → (wu.drewN nq3).frozen? ⟨g, off + t, none⟩ = false := hfw3
                            have HR7 : Hid (R32 g off dj (wu.drewN nq3)) := hid HRj.out
                            have HF7 : Hid (FrG g w (wu.drewN nq3)) := hid HFj.out
                            clear hcw3 hfw3 hl3
                            generalize wu.drewN nq3 = wv at hcw7 hfw7 HR7 HF7 ⊢
                            go_region
                            go_wp2
                            go_roundw
                            case rel =>
                              simp only [HG3.out]
                              refine ⟨j + 1, swp dj j (j - 1), by go_num, by omega, by omega, by rw [size_swp]; exact hsj, HR7.out.swap j (j - 1) (by omega) (by omega), FrG.swap (g := g) HF7.out _ _ _ _, ?_⟩
                              rw [← HU.out]; exact Hgo.out.symm
                            case measure => simp [intOf] <;> omega
                          | false =>
                            have Hst := hid (HU.out.symm.trans (shiftUp_stop ltInt b j dj (.inr (by rw [← HG3.out, ← HG3.out]; exact hl3))))
                            rw [Hst.out] at HE
                            go_wp2
                            go_quiet (first | (go_at_call 171; refine Calls.quiet_of_same (less171 _ _ _)))
                            go_wp2
                            go_roundw
                            case rel => exact ⟨k, s + 1, dj, rfl, by go_num, by omega, by omega, by omega, hsj, HRj.out, HFj.out, by rw [HE.out]⟩
                            case measure => simp [intOf] <;> omega
                        · have hjbi : ¬ (j : Int) < (b : Int) := by omega
                          have Hst := hid (HU.out.symm.trans (shiftUp_stop ltInt b j dj (.inl hjb2)))
                          rw [Hst.out] at HE
                          go_wp2
                          go_roundw
                          case rel => exact ⟨k, s + 1, dj, rfl, by go_num, by omega, by omega, by omega, hsj, HRj.out, HFj.out, by rw [HE.out]⟩
                          case measure => simp [intOf] <;> omega
                    · have h3i : ¬ 2 ≤ (b : Int) - (k : Int) := by omega
                      have HFu : Hid (fixUp ltInt b k dd = dd) := hid (by unfold fixUp; rw [if_neg h3])
                      rw [HFu.out] at HE
                      go_wp2
                      go_roundw
                      case rel => exact ⟨k, s + 1, dd, rfl, by go_num, by omega, by omega, by omega, hs2, HR6.out, HF6.out, by rw [HE.out]⟩
                      case measure => simp [intOf] <;> omega
              · have h2i : ¬ 2 ≤ (k : Int) - (a : Int) := by omega
                have HFd : Hid (fixDown ltInt a k d1 = d1) := hid (by unfold fixDown; rw [if_neg h2])
                rw [HFd.out] at HE
                have HR6 := HR5; have HF6 := HF5; have hs2 := hs1
                by_cases h3 : 2 ≤ b - k
                · have h3i : 2 ≤ (b : Int) - (k : Int) := by omega
                  have HFu : Hid (fixUp ltInt b k d1 = shiftUp ltInt b (k + 1) d1) := hid (by unfold fixUp; rw [if_pos h3])
                  rw [HFu.out] at HE
                  go_wp2
                  go_loopw [10] (fun vj wr => ∃ (j : Nat) (dj : Array Int), vj = .int .i64 j ∧ k + 1 ≤ j ∧ j ≤ b ∧ dj.size = n ∧ R32 g off dj wr ∧ FrG g w wr ∧ shiftUp ltInt b j dj = shiftUp ltInt b (k + 1) d1) (fun vj _ => b - (intOf vj).toNat)
                  case atStart => exact ⟨k + 1, d1, by go_num, Nat.le_refl _, by omega, hs2, HR6.out, HF6.out, rfl⟩
                  case round =>
                    generalize wr = wu at *
                    obtain ⟨j, dj, rfl, hj0, hjb, hsj, hRj, hFj, hU⟩ := hrel
                    obtain ⟨G3, hG3, hcw3, hfw3⟩ := hRj.fam hsj
                    have HRj := hid hRj; have HFj := hid hFj; have HU := hid hU; have HG3 := hid hG3
                    clear hRj hFj hU hG3
                    by_cases hjb2 : j < b
                    · have hjbi : (j : Int) < (b : Int) := by omega
                      cases hl3 : ltInt (G3 j) (G3 (j - 1)) with
                      | true =>
                        have Hgo := hid (shiftUp_go ltInt b j dj hjb2 (by rw [← HG3.out, ← HG3.out]; exact hl3))
                        go_wp2
                        go_quiet (first | (go_at_call 171; refine Calls.quiet_of_same (less171 _ _ _)))
                        go_wp2
                        revert nq; intro nq3
                        have hcw7 : ∀ t, t < n → (wu.drewN nq3).cell? ⟨g, off + t, none⟩ = some (.int .i32 (G3 t)) := hcw3
                        have hfw7 : ∀ t, t < n → (wu.drewN nq3).frozen? ⟨g, off + t, none⟩ = false := hfw3
                        have HR7 : Hid (R32 g off dj (wu.drewN nq3)) := hid HRj.out
                        have HF7 : Hid (FrG g w (wu.drewN nq3)) := hid HFj.out
                        clear hcw3 hfw3 hl3
                        generalize wu.drewN nq3 = wv at hcw7 hfw7 HR7 HF7 ⊢
                        go_region
                        go_wp2
                        go_roundw
                        case rel =>
                          simp only [HG3.out]
                          refine ⟨j + 1, swp dj j (j - 1), by go_num, by omega, by omega, by rw [size_swp]; exact hsj, HR7.out.swap j (j - 1) (by omega) (by omega), FrG.swap (g := g) HF7.out _ _ _ _, ?_⟩
                          rw [← HU.out]; exact Hgo.out.symm
                        case measure => simp [intOf] <;> omega
                      | false =>
                        have Hst := hid (HU.out.symm.trans (shiftUp_stop ltInt b j dj (.inr (by rw [← HG3.out, ← HG3.out]; exact hl3))))
                        rw [Hst.out] at HE
                        go_wp2
                        go_quiet (first | (go_at_call 171; refine Calls.quiet_of_same (less171 _ _ _)))
                        go_wp2
                        go_roundw
                        case rel => exact ⟨k, s + 1, dj, rfl, by go_num, by omega, by omega, by omega, hsj, HRj.out, HFj.out, by rw [HE.out]⟩
                        case measure => simp [intOf] <;> omega
                    · have hjbi : ¬ (j : Int) < (b : Int) := by omega
                      have Hst := hid (HU.out.symm.trans (shiftUp_stop ltInt b j dj (.inl hjb2)))
                      rw [Hst.out] at HE
                      go_wp2
                      go_roundw
                      case rel => exact ⟨k, s + 1, dj, rfl, by go_num, by omega, by omega, by omega, hsj, HRj.out, HFj.out, by rw [HE.out]⟩
                      case measure => simp [intOf] <;> omega
                · have h3i : ¬ 2 ≤ (b : Int) - (k : Int) := by omega
                  have HFu : Hid (fixUp ltInt b k d1 = d1) := hid (by unfold fixUp; rw [if_neg h3])
                  rw [HFu.out] at HE
                  go_wp2
                  go_roundw
                  case rel => exact ⟨k, s + 1, d1, rfl, by go_num, by omega, by omega, by omega, hs2, HR6.out, HF6.out, by rw [HE.out]⟩
                  case measure => simp [intOf] <;> omega
        · have hkbi : decide ((k : Int) < (b : Int)) = false := by simp; omega
          have hkbe : ((k : Int) == (b : Int)) = true := by simp; omega
          have HK : Hid (scanSorted ltInt dk b i0 = b) := hid (by rw [← HSc.out, scanSorted_stop ltInt dk b k (.inl hkb2)]; omega)
          have HE := hid (HO.out.symm.trans (pi_true ltInt a b s i0 dk hs HK.out))
          go_wp2
          go_quiet (first | (go_at_call 171; refine Calls.quiet_of_same (less171 _ _ _)))
          go_wp2
          go_ret
          rw [HE.out]
          exact ⟨rfl, HRi.out, HFi.out⟩
    · have hsi : ¬ (s : Int) < 5 := by omega
      obtain rfl : s = 5 := by omega
      have HE := hid (HO.out.symm.trans (pi_end ltInt a b i0 dk))
      go_wp2
      go_ret
      rw [HE.out]
      exact ⟨rfl, HRk.out, HFk.out⟩
end Go.Proofs.YbulkchuuGreatDoor
