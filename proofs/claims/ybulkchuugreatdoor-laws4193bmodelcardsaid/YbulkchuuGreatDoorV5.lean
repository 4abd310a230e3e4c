import Derived.Test.YbulkchuuGreatDoorM1
import Derived.Test.YbulkchuuGreatDoorV3
import Derived.Test.YbulkchuuGreatDoorHB0
import Derived.Test.YbulkchuuGreatDoorHB4
import Derived.Test.YbulkchuuGreatDoorHB6
namespace Go.Proofs.YbulkchuuGreatDoor
open Go.RowKit Go.Maps
set_option linter.unusedVariables false
set_option linter.unusedSimpArgs false
set_option maxRecDepth 100000

set_option maxHeartbeats 128000000 in
theorem law5 (Bd : Nat) (DD : Nat → DIn) (w : World) (hL : LawIn Bd DD w) : Calls Ybaz.prog 5 #[.agg (DD 0).cells, .agg (DD 1).cells] w (LawPost w) := by
  have HL := hid hL
  have hBw := hL.lo
  have h8 := hL.h8
  obtain ⟨w1, hw1⟩ : ∃ x, (w.alloc (.cells (DD 0).cells 58)).alloc (.cells (DD 1).cells 58) = x := ⟨_, rfl⟩
  have hB1 : Below w.heap.size w w1 := by rw [← hw1]; exact ((Below.refl _ w).alloc (Nat.le_refl _) _).alloc (by simp) _
  have hs1 : w1.heap.size = w.heap.size + 2 := by rw [← hw1]; simp
  have hd0 : DAt w.heap.size (DD 0) w1 := by
    unfold DAt
    rw [← hw1, Below.heap_alloc _ _ _ (by simp)]; exact heap_alloc_new _ _
  have hd1 : DAt (w.heap.size + 1) (DD 1) w1 := by
    unfold DAt
    rw [← hw1]
    have := heap_alloc_new (w.alloc (.cells (DD 0).cells 58)) (.cells (DD 1).cells 58)
    simpa using this
  have hI : ∀ i, i < 2 → InD Bd (DD i) w1 := fun i hi => (hL.ind i hi).below (hB1.mono hBw)
  have HI := hid hI; have HB1 := hid hB1; have Hd0 := hid hd0; have Hd1 := hid hd1; have Hw1 := hid hw1
  have H12 := hid (big12 Bd w.heap.size (DD 0) w1 (by omega) (hI 0 (by omega)) hd0)
  clear hL hB1 hd0 hd1 hI hw1
  go_enter Ybaz.func5, Ybaz.ntmps5
  unfold DIn.cells at Hw1 ⊢
  go_upto_region 1 with fail
  rw [Hw1.out]
  go_wp2_with fail
  refine H12.out.mono ?_
  rintro e w2 ⟨b0, rfl, hS0, hB2⟩
  cases b0 with
  | true =>
    have HB2 := hid hB2
    clear hB2 hS0
    go_wp2
    go_ret
    exact ⟨rfl, HB1.out.trans (HB2.out.mono (by omega))⟩
  | false =>
    have hI2 := fun i hi => (HI.out i hi).below (hB2.mono (by omega))
    have H12b := hid (big12 Bd (w.heap.size + 1) (DD 1) w2 (by have := hB2.size; omega) (hI2 1 (by omega)) ((hB2.block _ (by omega)).trans Hd1.out))
    have HS0 := hid (hS0 rfl); have HB2 := hid hB2
    clear hS0 hB2 hI2
    go_wp2_with fail
    refine H12b.out.mono ?_
    rintro e w3 ⟨b1, rfl, hS1, hB3⟩
    have hsz2 := HB2.out.size
    cases b1 with
    | true =>
      have HB3 := hid hB3
      clear hB3 hS1
      go_wp2
      go_ret
      exact ⟨rfl, (HB1.out.trans (HB2.out.mono (by omega))).trans (HB3.out.mono (by omega))⟩
    | false =>
      have HS1 := hid (hS1 rfl); have HB3 := hid hB3
      clear hS1 hB3
      have hsz3 := HB3.out.size
      have hB13 : Below w.heap.size w w3 := (HB1.out.trans (HB2.out.mono (by omega))).trans (HB3.out.mono (by omega))
      obtain ⟨w4, hw4⟩ : ∃ x, w3.alloc (.cells #[.pointer (some ⟨w.heap.size, 0, none⟩), .pointer (some ⟨w.heap.size + 1, 0, none⟩)] 61) = x := ⟨_, rfl⟩
      have hB4 : Below w.heap.size w w4 := by rw [← hw4]; exact hB13.alloc hB13.size _
      have hB14 : Below w1.heap.size w1 w4 := by rw [← hw4]; exact ((HB2.out).trans (HB3.out.mono (by omega))).alloc (by omega) _
      have hs4 : w4.heap.size = w3.heap.size + 1 := by rw [← hw4]; simp
      have hds : w4.heap[w3.heap.size]? = some (.cells #[.pointer (some ⟨w.heap.size, 0, none⟩), .pointer (some ⟨w.heap.size + 1, 0, none⟩)] 61 (0, 0)) := by rw [← hw4]; exact heap_alloc_new _ _
      have hI4 : ∀ i, i < 2 → InD Bd (DD i) w4 := fun i hi => (HI.out i hi).below (hB14.mono (by omega))
      have H13 := hid (build13 Bd w.heap.size (DD 0) w4 (by omega) (by omega) (hI4 0 (by omega)) ((hB14.block _ (by omega)).trans Hd0.out) HS0.out (tab_below HL.out.tab hB4 h8))
      have HB4 := hid hB4; have HB14 := hid hB14; have Hds := hid hds; have HI4 := hid hI4; have Hw4 := hid hw4
      clear hB13 hB4 hB14 hds hI4 hw4
      go_upto_region 4 with fail
      rw [Hw4.out]
      go_wp2_with fail
      refine H13.out.mono ?_
      rintro e w5 ⟨f0, rfl, hf0lo, hf0, hB5⟩
      have hs5 := hB5.size
      have hB5' : Below w.heap.size w w5 := HB4.out.trans (hB5.mono (by omega))
      have H13b := hid (build13 Bd (w.heap.size + 1) (DD 1) w5 (by omega) (by omega) ((HI4.out 1 (by omega)).below (hB5.mono (by omega))) ((hB5.block _ (by omega)).trans ((HB14.out.block _ (by omega)).trans Hd1.out)) HS1.out (tab_below HL.out.tab hB5' h8))
      have Hf0 := hid hf0; have HB5 := hid hB5
      clear hf0 hB5 hB5'
      go_wp2_with fail
      refine H13b.out.mono ?_
      rintro e w6 ⟨f1, rfl, hf1lo, hf1, hB6⟩
      have hs6 := hB6.size
      have hB6' : Below w.heap.size w w6 := (HB4.out.trans (HB5.out.mono (by omega))).trans (hB6.mono (by omega))
      obtain ⟨fb, hfb⟩ : ∃ fb : Nat → Nat, fb = fun i => if i = 0 then f0 else f1 := ⟨_, rfl⟩
      have hfb0 : fb 0 = f0 := by rw [hfb]; rfl
      have hfb1 : fb 1 = f1 := by rw [hfb]; rfl
      have hF6 : Files w6.heap.size fb DD (fun i => listOf (DD i)) (fun i => withinOf (DD i)) w6 := by
        refine ⟨fun i hi => ?_, fun i hi => ?_⟩
        · have : i = 0 ∨ i = 1 := by omega
          rcases this with rfl | rfl
          · rw [hfb0]; exact (Hf0.out.below hB6).mono hs6
          · rw [hfb1]; exact hf1
        · have : i = 0 ∨ i = 1 := by omega
          rcases this with rfl | rfl
          · exact HS0.out
          · exact HS1.out
      obtain ⟨w7, hw7⟩ : ∃ x, w6.alloc (.cells #[.pointer (some ⟨f0, 0, none⟩), .pointer (some ⟨f1, 0, none⟩)] 64) = x := ⟨_, rfl⟩
      have hB67 : Below w6.heap.size w6 w7 := by rw [← hw7]; exact (Below.refl _ w6).alloc (Nat.le_refl _) _
      have hs7 : w7.heap.size = w6.heap.size + 1 := by rw [← hw7]; simp
      have hfs : w7.heap[w6.heap.size]? = some (.cells #[.pointer (some ⟨f0, 0, none⟩), .pointer (some ⟨f1, 0, none⟩)] 64 (0, 0)) := by rw [← hw7]; exact heap_alloc_new _ _
      have hB7 : Below w.heap.size w w7 := hB6'.trans (hB67.mono hB6'.size)
      have hC : CompIn w6.heap.size fb DD w7 := ⟨by omega, hF6.below hB67, fun i hi => (HL.out.ind i hi).names, by obtain ⟨sT, sf, hsg⟩ := HL.out.seg; exact ⟨sT, sf, (hB7.block 0 (by omega)).trans hsg⟩, fun i hi => (HL.out.ind i hi).n0⟩
      have H14 := comp14 w6.heap.size fb DD w7 hC
      rw [hfb0, hfb1] at H14
      have x0 : w7.cell? ⟨w6.heap.size, 0, none⟩ = some (.pointer (some ⟨f0, 0, none⟩)) := by rw [cell_of hfs]; rfl
      have x1 : w7.cell? ⟨w6.heap.size, 1, none⟩ = some (.pointer (some ⟨f1, 0, none⟩)) := by rw [cell_of hfs]; rfl
      have HH14 := hid H14; have Hw7 := hid hw7; have HB67 := hid hB67; have Hfs := hid hfs; have HB7 := hid hB7; have HF6 := hid hF6; have HB6 := hid hB6; have Hfb := hid (And.intro hfb0 hfb1)
      clear H14 hw7 hB67 hfs hB7 hF6 hB6 hB6' hC hfb0 hfb1 hf1 hfb H13 H13b H12 H12b
      go_upto_region 5 with fail
      rw [Hw7.out]
      go_wp2_with fail
      refine HH14.out.mono ?_
      rintro e w8 ⟨K, p, m, T, ss, lg, rfl, hKf, hKD, hKu, hKU, hcb, hBase, hDn, hT, hssF, hrsF, hB8⟩
      have y0 : w8.cell? ⟨K.cb, 0, none⟩ = some (.pointer (some ⟨f0, 0, none⟩)) := by rw [cell_of hcb]; show some (Value.pointer (some ⟨K.fb 0, 0, none⟩)) = _; rw [hKf, Hfb.out.1]
      have y1 : w8.cell? ⟨K.cb, 1, none⟩ = some (.pointer (some ⟨f1, 0, none⟩)) := by rw [cell_of hcb]; show some (Value.pointer (some ⟨K.fb 1, 0, none⟩)) = _; rw [hKf, Hfb.out.2]
      have x08 : w8.cell? ⟨w6.heap.size, 0, none⟩ = some (.pointer (some ⟨f0, 0, none⟩)) := (hB8.cell (p := ⟨w6.heap.size, 0, none⟩) (by show w6.heap.size < w7.heap.size; omega)).trans x0
      have x18 : w8.cell? ⟨w6.heap.size, 1, none⟩ = some (.pointer (some ⟨f1, 0, none⟩)) := (hB8.cell (p := ⟨w6.heap.size, 1, none⟩) (by show w6.heap.size < w7.heap.size; omega)).trans x1
      have HK := hid (And.intro hKf (And.intro hKD (And.intro hKu hKU))); have Hcb := hid hcb; have HBase := hid hBase; have HDn := hid hDn; have HT := hid hT; have HssF := hid hssF; have HrsF := hid hrsF; have HB8 := hid hB8
      clear hKf hKD hKu hKU hcb hBase hDn hT hssF hrsF hB8 HH14
      go_upto_region 6 with fail

      have hp0 := fun W => ptr_ne62 ⟨f0, 0, none⟩ W
      have hp1 := fun W => ptr_ne62 ⟨f1, 0, none⟩ W
      refine wp_region_quiet_lit (by kernel_rfl) (by kernel_rfl) ?_
      repeat (go_big_quiet_step (fail))
      refine wpQuiet_nil ?_
      intro _ hw'
      obtain ⟨nq, hw''⟩ := hw'
      subst hw''
      have hM : Mid w w6.heap.size DD K p m T ss lg w3.heap.size w6.heap.size (w8.drewN nq) := by
        obtain ⟨kf, kd, ku, kU⟩ := HK.out
        have hB8 := HB8.out
        have hs8 := hB8.size
        have hB78 : Below w.heap.size w w8 := HB7.out.trans (hB8.mono HB7.out.size)
        have k58 : ∀ b, b < w4.heap.size → w8.heap[b]? = w4.heap[b]? := fun b hb => (hB8.block b (by omega)).trans ((HB67.out.block b (by omega)).trans ((HB6.out.block b (by omega)).trans (HB5.out.block b hb)))
        have k18 : ∀ b, b < w1.heap.size → w8.heap[b]? = w1.heap[b]? := fun b hb => (k58 b (by omega)).trans (HB14.out.block b hb)
        refine Mid.up ⟨hB78, by omega, fun i hi => ?_, fun i hi => ?_, fun i hi => ?_, (k58 _ (by omega)).trans Hds.out, ?_, kd, ku, kU, Hcb.out, HBase.out, HDn.out, HT.out, HssF.out, HrsF.out⟩ (below_drewN w8 nq)
        · exact ((HL.out.ind i hi).below (hB78.mono hBw)).mono (by omega)
        · have : i = 0 ∨ i = 1 := by omega
          rcases this with rfl | rfl
          · exact HS0.out
          · exact HS1.out
        · have : i = 0 ∨ i = 1 := by omega
          rcases this with rfl | rfl
          · exact (k18 _ (by omega)).trans Hd0.out
          · exact (k18 _ (by omega)).trans Hd1.out
        · rw [kf, Hfb.out.1, Hfb.out.2]; exact (hB8.block _ (by omega)).trans Hfs.out
      obtain ⟨w9, hw9⟩ : ∃ x, w8.drewN nq = x := ⟨_, rfl⟩
      obtain ⟨db, hdb⟩ : ∃ x, w3.heap.size = x := ⟨_, rfl⟩
      obtain ⟨fsb, hfsb⟩ : ∃ x, w6.heap.size = x := ⟨_, rfl⟩
      rw [hw9, hdb, hfsb] at hM
      rw [hw9, hdb, hfsb]
      clear x08 x18 y0 y1 x0 x1 hp0 hp1 HK Hcb HBase HDn HT HssF HrsF HB8 Hw7 HB67 Hfs HB7 HF6 HB6 Hfb HB5 Hf0 Hw4 HI4 Hds HB14 HB4 HB3 HS1 HB2 HS0 Hw1 Hd1 Hd0 HB1 HI HL hw9 hdb hfsb hs7 hs6 hs5 hs4 hsz3 hsz2 hs1 hf0lo hf1lo
      -- the repositories
      have HM := hid hM
      obtain ⟨va1, vc1, wB, va2, vc2, wC, c0, hr1, c1, hr2, hoC, hBC⟩ := repoRow hM
      have hrn0 := (hM.small 0 (by omega)).rn
      have hrn1 := (hM.small 1 (by omega)).rn
      obtain ⟨R0, hR0⟩ : ∃ x, (DD 0).rn = x := ⟨_, rfl⟩
      obtain ⟨R1, hR1⟩ : ∃ x, (DD 1).rn = x := ⟨_, rfl⟩
      have hlen := repoL_len DD
      rw [hR0] at c0 hr1 hr2 hoC hrn0 hlen
      rw [hR1] at c1 hr2 hoC hrn1 hlen
      obtain ⟨n2, hn2⟩ : ∃ x, 1 + R0 + R1 = x := ⟨_, rfl⟩
      rw [hn2] at hr2 hoC hlen
      have Hr1 := hid hr1; have Hr2 := hid hr2; have HoC := hid hoC; have HBC := hid hBC; have Hlen := hid hlen
      have hn2l : n2 ≤ 1000 := by omega
      have H15 := hid (sort15 w9.heap.size n2 (.slice va2 n2 vc2) _ wC hoC hlen (by omega))
      clear hM hr1 hr2 hoC hBC hR0 hR1 hlen hn2
      go_upto_region 9 with fail
      go_upto_region 10 with (at_builtin; refine wpList_append_run (u := .slice (some ⟨w9.heap.size, 0, none⟩) 1 1) (y := .slice (DD 0).ra R0 (DD 0).rc) (v' := .slice va1 (1 + R0) vc1) (w' := wB) rfl _ _ 22 rfl rfl rfl Hr1.out ?_)
      go_upto_region 11 with (at_builtin; refine wpList_append_run (u := .slice va1 (1 + R0) vc1) (y := .slice (DD 1).ra R1 (DD 1).rc) (v' := .slice va2 n2 vc2) (w' := wC) rfl _ _ 22 rfl rfl rfl Hr2.out ?_)
      go_wp2_with fail
      refine H15.out.mono ?_
      rintro e wD ⟨rfl, hoD, hFD⟩
      have hsD := hFD.size
      have hBD : Below w9.heap.size w9 wD := HBC.out.trans (below_fr hFD HBC.out.size (fun b hb => (HoC.out.lt b hb).1))
      have hsl : ((bytesL (repoL DD)).mergeSort leB).length = n2 := by rw [List.length_mergeSort]; exact Hlen.out
      have H16 := hid (compact16 w9.heap.size n2 (.slice va2 n2 vc2) _ wD hoD hsl (by omega))
      have HBD := hid hBD; have HoD := hid hoD
      clear hoD hFD hBD hsl c0 c1 H15
      go_wp2_with fail
      refine H16.out.mono ?_
      rintro e wE ⟨v', rfl, hoE, hvE, hFE⟩
      have hBE : Below w9.heap.size w9 wE := HBD.out.trans (below_fr hFE HBD.out.size (fun b hb => (HoD.out.lt b hb).1))
      rw [repos_law HM.out.rsF] at hoE
      obtain ⟨ea, ec, rfl⟩ := own_slice' hoE
      have hME := HM.out.up hBE
      have hRL := HM.out.rsF.2.2.2
      have c2 : wE.cell? ⟨K.cb, 2, none⟩ = some (.slice K.ra K.rs.length K.rc) := by rw [cell_of hME.cb]; rfl
      obtain ⟨RL, hRLe⟩ : ∃ x, K.rs.length = x := ⟨_, rfl⟩
      have H10 := hid (equal10_same (c := K.rc) (d := ec) hRLe (own_rowR hME.base.repos) (own_rowR hoE) (by omega))
      rw [hRLe] at c2 ⊢
      have HBE := hid hBE
      clear hoE hvE hFE hBE hME hRL hRLe H16 HoD HBD HoC HBC Hr1 Hr2 Hlen hsD
      go_wp2_with fail
      refine H10.out.mono ?_
      rintro e wF ⟨rfl, qF, hqF⟩
      have hBF : Below w9.heap.size w9 wF := by rw [hqF]; exact ⟨HBE.out.os, HBE.out.tape, HBE.out.output, HBE.out.size, HBE.out.block⟩
      have HBF := hid hBF
      clear hqF hBF c2 H10 HBE
      -- the names
      go_upto_block 0 with fail
      refine hB0 _ w fsb DD K p m T ss lg db fsb w9 wF HM.out HBF.out ?_
      rintro y9 y10 y12 y100 y101 y102 y103 y104 y105 y106 y107 y108 y109 y110 y111 y112 y113 y114 y115 y116 y117 y118 y119 y120 y121 y122 y123 y124 y125 y126 y127 y128 y129 wG ⟨hoG, hBG⟩
      rw [bytes_enc] at hoG
      obtain ⟨ga, gc, rfl⟩ := own_slice' hoG
      have hgl : (nameLL DD).length ≤ 1300 := by
        unfold nameLL
        rw [List.length_append]
        have := nameL_len (DD 0) (DD 0).un
        have := nameL_len (DD 1) (DD 1).un
        have := (HM.out.small 0 (by omega)).un
        have := (HM.out.small 0 (by omega)).nn
        have := (HM.out.small 1 (by omega)).un
        have := (HM.out.small 1 (by omega)).nn
        omega
      have hgb : (bytesL (nameLL DD)).length = (nameLL DD).length := by unfold bytesL; rw [List.length_map]
      obtain ⟨G, hG⟩ : ∃ x, (nameLL DD).length = x := ⟨_, rfl⟩
      rw [hG] at hoG hgl hgb ⊢
      have H15b := hid (sort15 w9.heap.size G (.slice ga G gc) _ wG hoG hgb (by omega))
      have HoG := hid hoG; have HBG := hid hBG; have Hgb := hid hgb
      clear hoG hBG hG HBF hgb
      go_wp2_with fail
      refine H15b.out.mono ?_
      rintro e wH ⟨rfl, hoH, hFH⟩
      have hBH : Below w9.heap.size w9 wH := HBG.out.trans (below_fr hFH HBG.out.size (fun b hb => (HoG.out.lt b hb).1))
      have H16b := hid (compact16 w9.heap.size G (.slice ga G gc) _ wH hoH (by rw [List.length_mergeSort]; exact Hgb.out) (by omega))
      have HoH := hid hoH; have HBH := hid hBH
      clear hoH hFH hBH H15b HoG HBG
      go_wp2_with fail
      refine H16b.out.mono ?_
      rintro e wI ⟨v', rfl, hoI, hvI, hFI⟩
      have hBI : Below w9.heap.size w9 wI := HBH.out.trans (below_fr hFI HBH.out.size (fun b hb => (HoH.out.lt b hb).1))
      rw [names_law HM.out.ssF.1 HM.out.ssF.2.1 HM.out.ssF.2.2.1] at hoI
      obtain ⟨na, nc, rfl⟩ := own_slice' hoI
      have hM6 := HM.out.ssF.2.2.2.2.2.2
      have hlg := HM.out.ssF.2.2.2.2.2.1
      obtain ⟨M, hMl⟩ : ∃ x, ss.length = x := ⟨_, rfl⟩
      rw [hMl] at hoI hM6 ⊢
      have HMl := hid hMl; have HoI := hid hoI; have HBI := hid hBI
      clear hoI hvI hFI hBI hMl H16b HoH HBH
      -- the longest
      go_upto_block 4 with fail
      refine hB4 _ M w9.heap.size nc lg na ss wI HMl.out hM6 HoI.out hlg HM.out.ssF.2.2.2.1 HM.out.ssF.2.2.2.2.1 ?_
      intro z15 z136 z137 z138 z139 z140 z141 z142 z143 z144 z145 z146
      -- the users
      obtain ⟨ub, ue, wJ, hrJ, hoJ, hBJ⟩ := usersRow1 HMl.out hM6 HBI.out.size HoI.out
      have hBJ9 : Below w9.heap.size w9 wJ := HBI.out.trans (hBJ.mono HBI.out.size)
      have Hrep := hid (Ybaz.strings_Repeat ⟨#[63]⟩ (lg + 1) wJ (by omega) (by show 1 * (lg + 1) ≤ _; omega))
      have HrJ := hid hrJ; have HoJ := hid (own_base hoJ HBI.out.size); have HBJ9 := hid hBJ9
      clear hrJ hoJ hBJ hBJ9
      go_upto_region 36 with fail
      go_upto_region 37 with (at_builtin; refine wpList_append_run (u := .slice (some ⟨wI.heap.size, 0, none⟩) 1 1) (y := .slice na M nc) (v' := .slice ub (1 + M) ue) (w' := wJ) rfl _ _ 22 rfl rfl rfl HrJ.out ?_)
      go_wp2_with fail
      refine Hrep.out.mono ?_
      rintro e wK ⟨rfl, hbK⟩
      have hoK := own_move HoJ.out (fun b hb hl => hbK.block b hl)
      have hBK : Below w9.heap.size w9 wK := HBJ9.out.trans (hbK.mono HBJ9.out.size)
      obtain ⟨un, hun⟩ : ∃ x, (⟨(Lib.repeatL (⟨#[63]⟩ : ByteArray).data.toList (lg + 1)).toArray⟩ : ByteArray) = x := ⟨_, rfl⟩
      obtain ⟨ud, uf, wN, hrN, hoN, hBN⟩ := usersRow2 (un := un) (by omega) hBK.size hoK
      have hBN9 : Below w9.heap.size w9 wN := hBK.trans hBN
      have huL : (⟨#[]⟩ :: ss.map (fun x => (⟨x.toArray⟩ : ByteArray))) ++ [un] = K.uL := by rw [HM.out.ku, ← hun]; rfl
      rw [huL] at hoN
      obtain ⟨z1, z2, z3⟩ := HM.out.usz
      have hUM : K.U = 1 + M + 1 := by rw [HM.out.kU, HMl.out]; omega
      obtain ⟨U, hU⟩ : ∃ x, 1 + M + 1 = x := ⟨_, rfl⟩
      rw [hU] at hoN hrN hUM
      rw [hUM] at z1 z2
      have HrN := hid hrN; have HoN := hid hoN; have HBN9 := hid hBN9; have HUM := hid hUM; have Hz1 := hid z1; have Hz3 := hid z3; have Hun := hid hun
      rw [hun]
      clear hbK hoK hBK hrN hoN hBN hBN9 huL hUM z1 z3 hun Hrep HrJ HoJ HBJ9 HoI HBI HMl
      have hU' : (1 + M : Nat) + 1 = U := hU
      go_upto_region 38 with (at_builtin; refine wpList_append_run (u := .slice ub (1 + M) ue) (y := .slice (some ⟨wK.heap.size, 0, none⟩) 1 1) (v' := .slice ud U uf) (w' := wN) rfl _ _ 22 rfl rfl rfl HrN.out ?_)
      have hMN := HM.out.up HBN9.out
      have c3 : wN.cell? ⟨K.cb, 3, none⟩ = some (.slice (some ⟨K.gu, 0, none⟩) U K.uc) := by rw [cell_of hMN.cb, ← HUM.out]; rfl
      have hub := hMN.base.users
      rw [HUM.out] at hub
      have H10b := hid (equal10_bas (c := K.uc) (d := uf) Hz1.out (own_rowR hub) (own_rowR HoN.out) (by omega))
      clear hMN hub HrN hU hU'
      go_wp2_with fail
      refine H10b.out.mono ?_
      rintro e wP ⟨rfl, qP, hqP⟩
      have hBP : Below w9.heap.size w9 wP := by rw [hqP]; exact ⟨HBN9.out.os, HBN9.out.tape, HBN9.out.output, HBN9.out.size, HBN9.out.block⟩
      have hoP : wP.ownsRow w9.heap.size 9 1 (.slice ud U uf) U (K.uL.map Value.string) := by rw [hqP]; exact HoN.out
      obtain ⟨ug, hug, _, _, _⟩ := user_cell (i := 0) (u := ⟨#[]⟩) hoP (by rw [HM.out.ku]; rfl)
      subst hug
      have hMP := HM.out.up hBP
      have hul : ∀ i v, K.uL[i]? = some v → wP.cell? ⟨ug, i, none⟩ = some (.string v) := fun i v hv => by
        obtain ⟨gu, hg, _, _, hc⟩ := user_cell hoP hv
        injection hg with hg
        injection hg with hg
        subst hg
        exact hc
      have b9 : wP.cell? ⟨K.cb, 9, none⟩ = some (.slice (some ⟨K.eb, 0, none⟩) U K.ec) := by rw [cell_of hMP.cb, ← HUM.out]; rfl
      have b15 : wP.cell? ⟨K.cb, 15, none⟩ = some (.slice K.sa U K.sc) := by rw [cell_of hMP.cb, ← HUM.out]; rfl
      have b14 : wP.cell? ⟨K.cb, 14, none⟩ = some (.map (some K.rg)) := by rw [cell_of hMP.cb]; rfl
      have b16 : wP.cell? ⟨K.cb, 16, none⟩ = some (.pointer (some ⟨K.nm, 0, none⟩)) := by rw [cell_of hMP.cb]; rfl
      have b17 : wP.cell? ⟨K.cb, 17, none⟩ = some (.map (some K.re)) := by rw [cell_of hMP.cb]; rfl
      have b18 : wP.cell? ⟨K.cb, 18, none⟩ = some (.map (some K.ro)) := by rw [cell_of hMP.cb]; rfl
      have b10 : wP.cell? ⟨K.cb, 10, none⟩ = some (.slice none 0 0) := by rw [cell_of hMP.cb]; rfl
      have b11 : wP.cell? ⟨K.cb, 11, none⟩ = some (.bool false) := by rw [cell_of hMP.cb]; rfl
      have b12 : wP.cell? ⟨K.cb, 12, none⟩ = some (.slice none 0 0) := by rw [cell_of hMP.cb]; rfl
      have b13 : wP.cell? ⟨K.cb, 13, none⟩ = some (.slice none 0 0) := by rw [cell_of hMP.cb]; rfl
      have l1 : ∀ ty, (Builtin.len_ #[76] ty #[.map (some K.rg)]).run Ybaz.prog wP = .ok (.int .i64 0) wP := fun ty => by have := hMP.base.regr.len Ybaz.underlying76 ty; simpa [Maps.size] using this
      have l2 : ∀ ty, (Builtin.len_ #[78] ty #[.map (some K.re)]).run Ybaz.prog wP = .ok (.int .i64 1) wP := fun ty => by have := hMP.base.rests.len Ybaz.underlying78 ty; rw [size_restD] at this; exact this
      have l3 : ∀ ty, (Builtin.len_ #[38] ty #[.map (some K.ro)]).run Ybaz.prog wP = .ok (.int .i64 0) wP := fun ty => by have := hMP.base.restsOf.len Ybaz.underlying38 ty; simpa [Maps.size] using this
      have l4 := look78 hMP.base.rests
      have HBP := hid hBP; have HoP := hid hoP; have HMP := hid hMP; have Hul := hid hul; have Hl1 := hid l1; have Hl2 := hid l2; have Hl3 := hid l3; have Hl4 := hid l4
      clear hqP hBP hoP hMP hul l1 l2 l3 l4 H10b HBN9 HoN c3
      go_upto_block 6 with fail
      refine hB6 _ fsb ug U uf K p m wP HUM.out (by omega) Hz1.out Hz3.out Hul.out HMP.out.cb HMP.out.base ?_
      intro t4 t17 t18 t19 t20 t184 t185 t186 t187 t188 t189 t190 t191 t192 t193 t194 t195 t196 t197 t198 t199 t200 t201 t202 t203 t204 t205 t206 t207 t208 t209 t210 t211 t212 t213 t214 t215 t216 t217 t218 t219 t220 t221 t222 t223 t224 t225 t226 t227 t228 t229 t230 t231 t232 t233 t234
      have l1 := Hl1.out; have l2 := Hl2.out; have l3 := Hl3.out; have l4 := Hl4.out
      go_upto_region 54 with fail
      go_upto_region 56 with fail
      go_upto_region 59 with fail
      clear l1 l2 l3 l4
      go_upto_block 10 with fail
      refine hB10 _ w fsb DD K p m T ss lg db fsb ug U uf w9 wP HM.out HUM.out HBP.out HoP.out ?_
      intro q4 q23 q24 q25 q26 q27 q29 q30 q31 q32 q33 q34 q35 q37 q38 q40 q41 q42 q43 q44 q312 q313 q314 q315 q316 q317 q318 q319 q320 q321 q322 q323 q324 q325 q326 q327 q328 q329 q330 q331 q332 q333 q334 q335 q336 q337 q338 q339 q340 q341 q342 q343 q344 q345 q346 q347 q348 q349 q350 q351 q352 q353 q354 q355 q356 q357 q358 q359 q360 q361 q362 q363 q364 q365 q366 q367 q368 q369 q370 q371 q372 q373 q374 q375 q376 q377 q378 q379 q380 q381 q382 q383 q384 q385 q386 q387 q388 q389 q390 q391 q392 q393 q394 q395 q396 q397 q398 q399 q400 q401 q402 q403 q404 q405 q406 q407 q408 q409 q410 q411 q412 q413 q414 q415 q416 q417 q418 q419 q420 q421 q422 q423 q424 q425 q426 q427 q428 q429 q430 q431 q432 q433 q434 q435 q436 q437 q438 q439 q440 q441 q442 q443 q444 q445 q446 q447 q448 q449 q450 q451 q452 q453 q454 q455 q456 q457 q458 q459 q460 q461 q462 q463 q464 q465 q466 q467 q468 q469 q470 q471 q472 q473 q474 q475 q476 q477 q478 q479 q480 q481 q482 q483 q484 q485 q486 q487 q488 q489 q490 q491 q492 q493 q494 q495 q496 q497 q498 q499 q500 q501 q502 q503 q504 q505 q506 q507 q508 q509 q510 q511 q512 q513 q514 q515 q516 q517 q518 q519 q520 q521 q522 q523 q524 q525 q526 q527 q528 q529 q530 q531 wR hBR
      have HBR := hid hBR
      clear hBR
      go_wp2
      go_ret
      exact ⟨rfl, HM.out.low.trans (HBR.out.mono HM.out.low.size)⟩
end Go.Proofs.YbulkchuuGreatDoor
