import Derived.Test.Ybulkchvi2
import Derived.Deep.RegionWith
import Derived.BigRegion
import Derived.BigQuiet
import Derived.Lib.QuietBelow
namespace Go.Proofs.Ybulkchvi
open Go.RowKit Go.Sort
set_option linter.unusedVariables false
set_option linter.unusedSimpArgs false
set_option maxRecDepth 100000

/-! ### plain laws -/
theorem or_range (a b : Int) (h1 : 0 ≤ a) (h2 : a < 18446744073709551616) (h3 : 0 ≤ b) (h4 : b < 18446744073709551616) : 0 ≤ bits .or .u64 a b ∧ bits .or .u64 a b < 18446744073709551616 := by
  rw [u64_or a b h1 h2 h3 h4]
  have : a.toNat ||| b.toNat < 2 ^ 64 := Nat.or_lt_two_pow (by omega) (by omega)
  omega
theorem or_zero (a : Int) (h1 : 0 ≤ a) (h2 : a < 18446744073709551616) : bits .or .u64 a 0 = a := by
  rw [u64_or a 0 h1 h2 (by omega) (by omega)]
  simp
  omega
theorem andNot_zero (b : Int) (h1 : 0 ≤ b) (h2 : b < 18446744073709551616) : bits .andNot .u64 0 b = 0 := by
  rw [u64_andNot 0 b (by omega) (by omega) h1 h2]
  simp

theorem step_len (ex : Bool) (al : Int) (i : Nat) (x : Int) (r : Bool) (s : Int × Int × Nat × List Value) (h : s.2.2.2.length = 7 * s.2.2.1) : (stepF ex al i x r s).2.2.2.length = 7 * (stepF ex al i x r s).2.2.1 := by
  unfold stepF; repeat' split
  all_goals simp [fault, h]
  all_goals omega
theorem run_len (ex : Bool) (al : Int) (bit : Nat → Int) (fl : Nat → Bool) (a0 r0 : Int) : ∀ k, (runF ex al bit fl (a0, r0, 0, []) k).2.2.2.length = 7 * (runF ex al bit fl (a0, r0, 0, []) k).2.2.1
  | 0 => by simp [runF]
  | k + 1 => by simp only [runF]; exact step_len _ _ _ _ _ _ (run_len ex al bit fl a0 r0 k)
theorem step_prefix (ex : Bool) (al : Int) (i : Nat) (x : Int) (r : Bool) (s : Int × Int × Nat × List Value) : ∃ rest, (stepF ex al i x r s).2.2.2 = s.2.2.2 ++ rest := by
  unfold stepF; repeat' split
  · exact ⟨[], by simp⟩
  · exact ⟨_, rfl⟩
  · exact ⟨_, rfl⟩
  · exact ⟨[], by simp⟩
  · exact ⟨[], by simp⟩
theorem run_prefix (ex : Bool) (al : Int) (bit : Nat → Int) (fl : Nat → Bool) (s0 : Int × Int × Nat × List Value) (j : Nat) : ∀ d, ∃ rest, (runF ex al bit fl s0 (j + d)).2.2.2 = (runF ex al bit fl s0 j).2.2.2 ++ rest
  | 0 => ⟨[], by simp⟩
  | d + 1 => by
    obtain ⟨r1, h1⟩ := run_prefix ex al bit fl s0 j d
    obtain ⟨r2, h2⟩ := step_prefix ex al (j + d) (bit (j + d)) (!ex && fl (j + d)) (runF ex al bit fl s0 (j + d))
    refine ⟨r1 ++ r2, ?_⟩
    rw [← Nat.add_assoc]
    simp only [runF]
    rw [h2, h1, List.append_assoc]
theorem ex_rem (al : Int) (bit : Nat → Int) (fl : Nat → Bool) (a0 r0 : Int) : ∀ k, (runF true al bit fl (a0, r0, 0, []) k).2.1 = r0
  | 0 => rfl
  | k + 1 => by
    simp only [runF, Bool.not_true, Bool.false_and]
    have h := ex_rem al bit fl a0 r0 k
    unfold stepF
    repeat' split
    all_goals first | exact h | (simp at *; done)
theorem ex_step_fault (al : Int) (bit : Nat → Int) (fl : Nat → Bool) (s0 : Int × Int × Nat × List Value) (k : Nat) (hal : 0 ≤ al ∧ al < 18446744073709551616) (h : (bits .andNot .u64 (bit k) al == 0) = false) :
    runF true al bit fl s0 (k + 1) = ((runF true al bit fl s0 k).1, (runF true al bit fl s0 k).2.1, (runF true al bit fl s0 k).2.2.1 + 1, (runF true al bit fl s0 k).2.2.2 ++ fault 1 k (bits .andNot .u64 (bit k) al) 0) := by
  have hx : bit k ≠ 0 := by
    intro e
    rw [e, andNot_zero al hal.1 hal.2] at h
    simp at h
  have h2 : bits .andNot .u64 (bit k) al ≠ 0 := by simpa using h
  simp [runF, stepF, hx, h2]
theorem ex_step_set (al : Int) (bit : Nat → Int) (fl : Nat → Bool) (s0 : Int × Int × Nat × List Value) (k : Nat) (hr : 0 ≤ (runF true al bit fl s0 k).1 ∧ (runF true al bit fl s0 k).1 < 18446744073709551616) (h : (bits .andNot .u64 (bit k) al == 0) = true) :
    runF true al bit fl s0 (k + 1) = (bits .or .u64 (runF true al bit fl s0 k).1 (bit k), (runF true al bit fl s0 k).2.1, (runF true al bit fl s0 k).2.2.1, (runF true al bit fl s0 k).2.2.2) := by
  have h2 : bits .andNot .u64 (bit k) al = 0 := by simpa using h
  by_cases hx : bit k = 0
  · rw [hx, or_zero _ hr.1 hr.2]
    simp [runF, stepF, hx]
  · simp [runF, stepF, hx, h2]
theorem ex_range (al : Int) (bit : Nat → Int) (fl : Nat → Bool) (r0 : Int) (hal : 0 ≤ al ∧ al < 18446744073709551616) (n : Nat) (hb : ∀ j, j < n → 0 ≤ bit j ∧ bit j < 18446744073709551616) : ∀ k, k ≤ n → 0 ≤ (runF true al bit fl (0, r0, 0, []) k).1 ∧ (runF true al bit fl (0, r0, 0, []) k).1 < 18446744073709551616
  | 0, _ => by simp [runF]
  | k + 1, hk => by
    have ih := ex_range al bit fl r0 hal n hb k (by omega)
    have hbk := hb k (by omega)
    cases h : (bits BinOp.andNot IntKind.u64 (bit k) al == 0) with
    | true => rw [ex_step_set al bit fl _ k ih h]; exact or_range _ _ ih.1 ih.2 hbk.1 hbk.2
    | false => rw [ex_step_fault al bit fl _ k hal h]; exact ih

set_option maxHeartbeats 4000000 in
theorem exact_any (pa ra : Option Addr) (pn pc rn rc : Nat) (al st : Int) (bit : Nat → Int) (rb : Nat → Bool) (w : World) (hn : pn ≤ 1024) (hrn : rn ≤ maxLen)
    (hal : 0 ≤ al ∧ al < 18446744073709551616) (hbits : ∀ j, j < pn → 0 ≤ bit j ∧ bit j < 18446744073709551616)
    (hP : RowAt w.heap.size pa pn (fun j => .int .u64 (bit j)) w) (hR : RowAt w.heap.size ra rn (fun j => .bool (rb j)) w) :
    Calls Yba.prog 4 #[.slice pa pn pc, .slice ra rn rc, .int .u64 al, .int .i64 st] w fun e w' => e = .returned (.bool true) ∧ Below w.heap.size w w' := by
  have HP := hid hP; have HR := hid hR; have Hrn := hid hrn; have Hal := hid hal; have Hbits := hid hbits
  clear hal hbits
  unfold maxLen at hrn
  clear hP hR
  have hn1 : ¬ (1024 : Int) < (pn : Int) := by omega
  go_enter Yba.func4, Yba.ntmps4
  go_wp2_with fail
  have bel0 : Below w.heap.size w (w.alloc (.cells #[.bool true, .slice pa pn pc, .slice ra rn rc, .int .i64 st] 28)) := (Below.refl _ _).alloc (Nat.le_refl _) _
  have hbox0 := heap_alloc_new w (.cells #[.bool true, .slice pa pn pc, .slice ra rn rc, .int .i64 st] 28)
  have l0 : w.heap.size < (w.alloc (.cells #[.bool true, .slice pa pn pc, .slice ra rn rc, .int .i64 st] 28)).heap.size := by simp
  generalize w.alloc (.cells #[.bool true, .slice pa pn pc, .slice ra rn rc, .int .i64 st] 28) = W0 at *
  have HP0 : RowAt W0.heap.size pa pn (fun j => .int .u64 (bit j)) W0 := fun j hj => by obtain ⟨bb, off, h1, h2, h3⟩ := HP.out.below bel0 j hj; exact ⟨bb, off, h1, by omega, h3⟩
  have HR0 : RowAt W0.heap.size ra rn (fun j => .bool (rb j)) W0 := fun j hj => by obtain ⟨bb, off, h1, h2, h3⟩ := HR.out.below bel0 j hj; exact ⟨bb, off, h1, by omega, h3⟩
  refine (build_any true pa ra pn pc rn rc st bit rb W0 hn Hrn.out HP0 HR0).mono ?_
  rintro e w1 ⟨gp, gr, rfl, hp1, hr1, hgp, hgr, hgne, hb1⟩
  have Hp1 := hid hp1; have Hr1 := hid hr1; have Hb1 := hid hb1; have Hbox := hid hbox0; have Hbel0 := hid bel0
  have l1 := hb1.size
  clear hp1 hr1 hb1 HP0 HR0 hbox0 bel0
  go_wp2_with fail
  have q1 := heap_alloc_new w1 (.cells #[.int .u8 2, .bool true, .slice (some ⟨gp, 0, none⟩) pn pn, .slice (some ⟨gr, 0, none⟩) pn pn, .int .i64 st] 38)
  generalize hA1 : w1.alloc (.cells #[.int .u8 2, .bool true, .slice (some ⟨gp, 0, none⟩) pn pn, .slice (some ⟨gr, 0, none⟩) pn pn, .int .i64 st] 38) = A1 at *
  have zA1 : A1.heap.size = w1.heap.size + 1 := by rw [← hA1]; simp
  have bA1 : Below w1.heap.size w1 A1 := by rw [← hA1]; exact (Below.refl _ _).alloc (Nat.le_refl _) _
  have q2 := heap_alloc_new A1 (.cells #[.pointer none, .bool false, .int .u64 0, .int .u64 0] 35)
  generalize hA2 : A1.alloc (.cells #[.pointer none, .bool false, .int .u64 0, .int .u64 0] 35) = A2 at *
  have zA2 : A2.heap.size = w1.heap.size + 1 + 1 := by rw [← hA2]; simp [zA1]
  have bA2 : Below A1.heap.size A1 A2 := by rw [← hA2]; exact (Below.refl _ _).alloc (Nat.le_refl _) _
  have q3 := heap_alloc_new A2 (.cells #[.slice none 0 0] 39)
  generalize hA3 : A2.alloc (.cells #[.slice none 0 0] 39) = A3 at *
  have zA3 : A3.heap.size = w1.heap.size + 1 + 1 + 1 := by rw [← hA3]; simp [zA2]
  have bA3 : Below A2.heap.size A2 A3 := by rw [← hA3]; exact (Below.refl _ _).alloc (Nat.le_refl _) _
  rw [zA1] at q2
  rw [zA2] at q3
  have bel13 : Below w1.heap.size w1 A3 := (bA1.trans (bA2.mono (by omega))).trans (bA3.mono (by omega))
  have k1 : A3.heap[w1.heap.size]? = some (.cells #[.int .u8 2, .bool true, .slice (some ⟨gp, 0, none⟩) pn pn, .slice (some ⟨gr, 0, none⟩) pn pn, .int .i64 st] 38 (0, 0)) := (bA3.block _ (by omega)).trans ((bA2.block _ (by omega)).trans q1)
  have k2 : A3.heap[w1.heap.size + 1]? = some (.cells #[.pointer none, .bool false, .int .u64 0, .int .u64 0] 35 (0, 0)) := (bA3.block _ (by omega)).trans q2
  have hl3 : LogAt w.heap.size (w1.heap.size + 1 + 1) (.slice none 0 0) 0 [] A3 := ⟨by omega, q3, World.ownsRow_nil _ _ _ _⟩
  have hp3 := Hp1.out.move (bel13.block gp Hp1.out.lt)
  have hr3 := Hr1.out.move (bel13.block gr Hr1.out.lt)
  have bel3 : Below w.heap.size w A3 := (Hbel0.out.trans (Hb1.out.mono (by omega))).trans (bel13.mono (by omega))
  have box3 : A3.heap[w.heap.size]? = some (.cells #[.bool true, .slice pa pn pc, .slice ra rn rc, .int .i64 st] 28 (0, 0)) := (bel13.block _ (by omega)).trans ((Hb1.out.block _ l0).trans Hbox.out)
  refine (apply_fresh_exact11 w.heap.size (w1.heap.size + 1) (w1.heap.size + 1 + 1) w1.heap.size gp gr pn hn al 0 0 2 st bit (flag rn rb) (.slice none 0 0) 0 (by omega) [] A3 k2 k1 hp3 hr3 hl3).mono ?_
  rintro e w4 ⟨u4, rfl, hadj4, hlog4, hfr4, hnx4⟩
  have k14 := hfr4.keep k1 (by omega) (by omega) (by simp [Value.ownBlock])
  have box4 := hfr4.keep box3 (by omega) (by omega) (by simp [Value.ownBlock])
  have lgp := Hp1.out.lt
  have lgr := Hr1.out.lt
  have hp4 := hp3.move (hfr4.2.2.2.2 gp (by omega) (by omega) (by omega) (by simp [Value.ownBlock]))
  have hr4 := hr3.move (hfr4.2.2.2.2 gr (by omega) (by omega) (by omega) (by simp [Value.ownBlock]))
  have bel4 : Below w.heap.size w w4 := bel3.trans (hfr4.below (by omega) (by omega) (by omega) (fun k hk => by simp [Value.ownBlock] at hk))
  have l4 := hfr4.size
  have Hadj4 := hid hadj4; have Hlog4 := hid hlog4; have Hk14 := hid k14; have Hbox4 := hid box4; have Hp4 := hid hp4; have Hr4 := hid hr4; have Hbel4 := hid bel4
  clear hadj4 hlog4 k14 box4 hp4 hr4 bel4 hfr4 hnx4 k1 k2 q1 q2 q3 hA1 hA2 hA3 bA1 bA2 bA3 bel13 hl3 hp3 hr3 bel3 box3 Hp1 Hr1 Hb1 Hbox Hbel0
  -- the log's slice
  have hcn := run_count true al bit (flag rn rb) 0 18446744073709551615 pn
  have hu4 : ∃ ao c, u4 = .slice ao (runF true al bit (flag rn rb) (0, 18446744073709551615, 0, []) pn).2.2.1 c := by
    have h := Hlog4.out.2.2
    rw [Nat.zero_add] at h
    rcases h.2 with ⟨hv, h0⟩ | ⟨g, cap, cur, hv, _⟩
    · exact ⟨none, 0, by rw [hv, h0]⟩
    · exact ⟨_, _, hv⟩
  obtain ⟨ao, lc, rfl⟩ := hu4
  have cl : w4.cell? ⟨w1.heap.size + 1 + 1, 0, none⟩ = some (.slice ao (runF true al bit (flag rn rb) (0, 18446744073709551615, 0, []) pn).2.2.1 lc) := by rw [cell_of Hlog4.out.2.1]; rfl
  have HRange := hid (ex_range al bit (flag rn rb) 18446744073709551615 Hal.out pn Hbits.out)
  have HPre := hid (run_prefix true al bit (flag rn rb) (0, 18446744073709551615, 0, []))
  have HLen := hid (run_len true al bit (flag rn rb) 0 18446744073709551615)
  have HFault := hid (fun k => ex_step_fault al bit (flag rn rb) (0, 18446744073709551615, 0, []) k Hal.out)
  have HSet := hid (ex_step_set al bit (flag rn rb) (0, 18446744073709551615, 0, []))
  have HRem := hid (ex_rem al bit (flag rn rb) 0 18446744073709551615 pn)
  have HR0 := hid (show runF true al bit (flag rn rb) (0, 18446744073709551615, 0, []) 0 = (0, 18446744073709551615, 0, []) from rfl)
  generalize runF true al bit (flag rn rb) (0, 18446744073709551615, 0, []) = F at *
  have Hcl := hid cl
  clear cl
  go_wp2
  go_loopw [15, 16, 17] (fun un kk i wr => ∃ j : Nat, j ≤ pn ∧ i = .int .i64 j ∧ un = .int .u64 (F j).1 ∧ kk = .int .i64 (F j).2.2.1 ∧ Below w4.heap.size w4 wr) (fun _ _ i _ => pn - (intOf i).toNat)
  case atStart => exact ⟨0, by omega, rfl, by rw [HR0.out], by rw [HR0.out]; rfl, Below.refl _ _⟩
  case round =>
    obtain ⟨j, hj, rfl, rfl, rfl, hB⟩ := hrel
    have bel5 : Below w.heap.size w wr := Hbel4.out.trans (hB.mono (by omega))
    have cl : wr.cell? ⟨w1.heap.size + 1 + 1, 0, none⟩ = some (.slice ao (F pn).2.2.1 lc) := (hB.cell (p := ⟨w1.heap.size + 1 + 1, 0, none⟩) (by have := heap_lt Hlog4.out.2.1; omega)).trans Hcl.out
    have HB := hid hB; have Hbel5 := hid bel5
    by_cases hjn : j < pn
    · obtain ⟨bb, off, rfl, hbb, hcell⟩ := HP.out j hjn
      have hc1 := (bel5.cell (p := ⟨bb, off + j, none⟩) hbb).trans hcell
      have hji : (j : Int) < (pn : Int) := by omega
      have hS := HSet.out j (HRange.out j (by omega))
      have hF := HFault.out j
      have HS := hid hS; have HF := hid hF
      have hlj := HLen.out j
      have hln := HLen.out pn
      have hlj1 := HLen.out (j + 1)
      have hpre : ∃ rest, (F pn).2.2.2 = (F (j + 1)).2.2.2 ++ rest := by
        obtain ⟨rest, h⟩ := HPre.out (j + 1) (pn - (j + 1))
        exact ⟨rest, by rw [show j + 1 + (pn - (j + 1)) = pn by omega] at h; exact h⟩
      have Hpre := hid hpre
      have Hlj := hid hlj; have Hln := hid hln; have Hlj1 := hid hlj1
      clear hB bel5 hcell hS hF hpre hlj hln hlj1
      cases hu : (bits BinOp.andNot IntKind.u64 (bit j) al == 0) with
      | true =>
        go_wp2
        go_roundw
        case rel =>
          have h := HS.out hu
          exact ⟨j + 1, by omega, by go_num, by rw [h], by rw [h], HB.out⟩
        case measure => simp [intOf]; omega
      | false =>
        have h1 := HF.out hu
        obtain ⟨rest, hrest⟩ := Hpre.out
        have hcell : ∃ gl, ao = some ⟨gl, 0, none⟩ ∧ gl < w4.heap.size ∧ (F j).2.2.1 + 1 ≤ (F pn).2.2.1 ∧ ∀ t v, (fault 1 j (bits .andNot .u64 (bit j) al) 0)[t]? = some v → wr.cell? ⟨gl, (F j).2.2.1 * 7 + t, none⟩ = some v := by
          have hlen := congrArg List.length hrest
          rw [List.length_append, Hlj1.out, Hln.out, h1] at hlen
          simp only at hlen
          have hown := Hlog4.out.2.2
          rw [Nat.zero_add, List.nil_append] at hown
          rcases hown.2 with ⟨hv, h0⟩ | ⟨g, cap, cur, hv, _, hg, _⟩
          · omega
          · injection hv with e1 e2 e3
            refine ⟨g, e1, heap_lt hg, by omega, fun t v ht => ?_⟩
            have hc := hown.cells (g := g) (by rw [e1]; rfl) ((F j).2.2.1 * 7 + t) v (by
              have htl : t < (fault 1 j (bits .andNot .u64 (bit j) al) 0).length := by
                rcases Nat.lt_or_ge t (fault 1 j (bits .andNot .u64 (bit j) al) 0).length with h | h
                · exact h
                · rw [List.getElem?_eq_none h] at ht; cases ht
              rw [hrest, h1]
              simp only
              have hl7 := Hlj.out
              rw [List.getElem?_append_left (by rw [List.length_append]; omega), List.getElem?_append_right (by omega), show (F j).2.2.1 * 7 + t - (F j).2.2.2.length = t by omega]
              exact ht)
            have hadd : (⟨g, 0, none⟩ : Addr).add ((F j).2.2.1 * 7 + t) = ⟨g, (F j).2.2.1 * 7 + t, none⟩ := by unfold Addr.add; split <;> simp_all
            rw [hadd] at hc
            exact (HB.out.cell (p := ⟨g, (F j).2.2.1 * 7 + t, none⟩) (heap_lt hg)).trans hc
        obtain ⟨gl, rfl, hgl, hlt, hcells⟩ := hcell
        have g0 := hcells 0 _ rfl; have g1 := hcells 1 _ rfl; have g2 := hcells 2 _ rfl; have g3 := hcells 3 _ rfl; have g4 := hcells 4 _ rfl; have g5 := hcells 5 _ rfl; have g6 := hcells 6 _ rfl
        have Hh1 := hid h1
        have hcj : (F j).2.2.1 ≤ 1024 := by omega
        clear hcells hrest h1
        generalize (F j).2.2.1 = c at *
        have hci : (c : Int) < ((F pn).2.2.1 : Int) := by omega
        have hcd : decide (((F pn).2.2.1 : Int) ≤ (c : Int)) = false := by simp; omega
        rw [Nat.add_zero] at g0
        go_wp2
        go_roundw
        case rel =>
          have h := Hh1.out
          exact ⟨j + 1, by omega, by go_num, by rw [h], by rw [h]; go_num, HB.out.alloc HB.out.size _⟩
        case measure => simp [intOf]; omega
    · have hjj : j = pn := by omega
      have hji : (pn : Int) ≤ (j : Int) := by omega
      subst hjj
      have keep : ∀ {k : Nat} {o : Obj}, w4.heap[k]? = some o → wr.heap[k]? = some o := fun h => (hB.block _ (heap_lt h)).trans h
      have a5 := keep Hadj4.out
      have m5 := keep Hk14.out
      have b5 := keep Hbox4.out
      rw [HRem.out] at a5
      have a_0 : wr.cell? ⟨w1.heap.size + 1, 0, none⟩ = some (.pointer (some ⟨w1.heap.size, 0, none⟩)) := by rw [cell_of a5]; rfl
      have a_1 : wr.cell? ⟨w1.heap.size + 1, 1, none⟩ = some (.bool true) := by rw [cell_of a5]; rfl
      have a_2 : wr.cell? ⟨w1.heap.size + 1, 2, none⟩ = some (.int .u64 (F j).1) := by rw [cell_of a5]; rfl
      have a_3 : wr.cell? ⟨w1.heap.size + 1, 3, none⟩ = some (.int .u64 18446744073709551615) := by rw [cell_of a5]; rfl
      have m_2 : wr.cell? ⟨w1.heap.size, 2, none⟩ = some (.slice (some ⟨gp, 0, none⟩) j j) := by rw [cell_of m5]; rfl
      have m_3 : wr.cell? ⟨w1.heap.size, 3, none⟩ = some (.slice (some ⟨gr, 0, none⟩) j j) := by rw [cell_of m5]; rfl
      have b_0 : wr.cell? ⟨w.heap.size, 0, none⟩ = some (.bool true) := by rw [cell_of b5]; rfl
      have b_1 : wr.cell? ⟨w.heap.size, 1, none⟩ = some (.slice pa j pc) := by rw [cell_of b5]; rfl
      have b_2 : wr.cell? ⟨w.heap.size, 2, none⟩ = some (.slice ra rn rc) := by rw [cell_of b5]; rfl
      have b_3 : wr.cell? ⟨w.heap.size, 3, none⟩ = some (.int .i64 st) := by rw [cell_of b5]; rfl
      have hp5 := Hp4.out.move (hB.block gp Hp4.out.lt)
      have hr5 := Hr4.out.move (hB.block gr Hr4.out.lt)
      have hle : w.heap.size ≤ wr.heap.size := by have := hB.size; omega
      have HPr : Hid (∀ d os, RowAt (grow (redrawn wr d) os).heap.size pa j (fun j => .int .u64 (bit j)) (grow (redrawn wr d) os)) := fun d os i hi => by
        obtain ⟨bb, off, h1, h2, h3⟩ := HP.out.below bel5 i hi
        have hs := (below_regrown wr d os).size
        exact ⟨bb, off, h1, by omega, cell_regrown h3 d os⟩
      have HRr : Hid (∀ d os, RowAt (grow (redrawn wr d) os).heap.size ra rn (fun j => .bool (rb j)) (grow (redrawn wr d) os)) := fun d os i hi => by
        obtain ⟨bb, off, h1, h2, h3⟩ := HR.out.below bel5 i hi
        have hs := (below_regrown wr d os).size
        exact ⟨bb, off, h1, by omega, cell_regrown h3 d os⟩
      have Hp5 := hid hp5; have Hr5 := hid hr5
      obtain ⟨j38, hj38⟩ := Option.isSome_iff_exists.1 (show (Yba.prog.info? 38).isSome = true by kernel_rfl)
      have hpe := fun (wx : World) (ad : Addr) => run_eql_ptr_same (P := Yba.prog) wx (tp := 32) ad Yba.underlying32 hj38
      have k_a0 := cell_regrown a_0; have k_a1 := cell_regrown a_1; have k_a2 := cell_regrown a_2; have k_a3 := cell_regrown a_3
      have k_m2 := cell_regrown m_2; have k_m3 := cell_regrown m_3
      have k_b0 := cell_regrown b_0; have k_b1 := cell_regrown b_1; have k_b2 := cell_regrown b_2; have k_b3 := cell_regrown b_3
      have CS := hid (fun (d : Nat) (os : Array Obj) => Calls.regrown_of (w := wr) (d := d) (os := os) (v := .bool true) ((same_any true pa ra j pc rn rc gp gr st bit rb (grow (redrawn wr d) os) hn Hrn.out (HPr.out d os) (HRr.out d os) (hp5.move ((below_regrown wr d os).block gp hp5.lt)) (hr5.move ((below_regrown wr d os).block gr hr5.lt))).mono fun e w' h => ⟨h.1, by obtain ⟨nq, h2⟩ := h.2; rw [h2]; exact below_drewN ((Below.refl _ _).alloc (Nat.le_refl _) _) nq⟩))
      have hdone : Hid (∀ d os, Below w.heap.size w (grow (redrawn wr d) os)) := fun d os => bel5.trans ((below_regrown wr d os).mono hle)
      clear hB bel5 keep a5 m5 b5 hp5 hr5 HSet HFault HRange HPre HLen HRem HR0 HP HR Hbits Hal a_0 a_1 a_2 a_3 m_2 m_3 b_0 b_1 b_2 b_3 Hp5 Hr5 HPr HRr Hadj4 Hlog4 Hk14 Hbox4 Hp4 Hr4 Hbel4 HB Hbel5
      go_wp2
      refine wp_region_quiet_below (by kernel_rfl) (by kernel_rfl) ?_
      repeat (go_big_quiet_step (exact CS.out _ _))
      refine wpQuiet_nil ?_
      intro _ hw'
      obtain ⟨⟨dq, osq⟩, hw''⟩ := hw'
      subst hw''
      go_wp2
      go_ret
      exact ⟨rfl, hdone.out dq osq⟩
end Go.Proofs.Ybulkchvi
