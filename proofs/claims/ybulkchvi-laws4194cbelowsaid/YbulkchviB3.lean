import Derived.Test.YbulkchviB2
namespace Go.Proofs.Ybulkchvi
open Go.RowKit
set_option linter.unusedVariables false
set_option linter.unusedSimpArgs false
set_option maxRecDepth 100000

/-- what the merge's loop keeps -/
def MLoop (g c cap : Nat) (D : Nat → Int × Int) (i p : Nat) (w : World) : Prop :=
  ∃ f h, MInv D i p f ∧ BlkAt g (cap * 2) h w ∧ (∀ t, t ≤ p → h (t * 2) = .int .i32 (f t).1 ∧ h (t * 2 + 1) = .int .i32 (f t).2) ∧ ∀ t, i < t → t < c → h (t * 2) = .int .i32 (D t).1 ∧ h (t * 2 + 1) = .int .i32 (D t).2

/-- the merge behind the sort -/
def MergePost (g c cap : Nat) (D : Nat → Int × Int) (w : World) (e : Ending) (w' : World) : Prop :=
  ∃ p f h, e = .returned (.slice (some ⟨g, 0, none⟩) (p + 1) cap) ∧ p < c ∧ AscN f (p + 1) ∧ (∀ v, CovN f (p + 1) v ↔ CovN D c v) ∧ BlkAt g (cap * 2) h w' ∧ (∀ t, t ≤ p → h (t * 2) = .int .i32 (f t).1 ∧ h (t * 2 + 1) = .int .i32 (f t).2) ∧ Fr g g none w w'

set_option maxHeartbeats 4000000 in
theorem merge_tail (g c1 cap : Nat) (D : Nat → Int × Int) (w : World) (hc1 : c1 + 1 ≤ cap) (hcap : cap ≤ maxLen) (hc2 : c1 ≤ 100000000)
    (hD : ∀ t, t < c1 + 1 → 0 ≤ (D t).1 ∧ (D t).1 ≤ (D t).2 ∧ (D t).2 ≤ 71) (hsort : ∀ t, t + 1 < c1 + 1 → (D t).1 ≤ (D (t + 1)).1)
    (sortC : Calls Yba.prog 18 #[.slice (some ⟨g, 0, none⟩) (c1 + 1) cap, .func (.func 19) #[] #[]] w fun e w' => e = .returned (.tuple #[]) ∧ Fr g g none w w' ∧ ∃ h, BlkAt g (cap * 2) h w' ∧ ∀ t, t < c1 + 1 → h (t * 2) = .int .i32 (D t).1 ∧ h (t * 2 + 1) = .int .i32 (D t).2) :
    Calls Yba.prog 17 #[.slice (some ⟨g, 0, none⟩) (c1 + 1) cap] w (MergePost g (c1 + 1) cap D w) := by
  have HD := hid hD; have HS := hid hsort
  have hcapI : (c1 : Int) + 1 ≤ (cap : Int) := by omega
  unfold maxLen at hcap
  clear hD hsort
  by_cases hcap1 : cap = 1
  · obtain rfl : c1 = 0 := by omega
    subst hcap1
    go_enter Yba.func17, Yba.ntmps17
    go_wp2_with fail
    refine sortC.mono ?_
    rintro e w1 ⟨rfl, hfr1, h1, hb1, hd1⟩
    have Hfr1 := hid hfr1; have Hb1 := hid hb1; have Hd1 := hid hd1
    clear hfr1 hb1 hd1 sortC
    go_wp2
    refine wp_loop_rounds 1 ?_
    rw [rounds_succ]
    go_wp2
    go_ret
    refine ⟨0, D, h1, rfl, by omega, (minv_start D (HD.out 0 (by omega))).2.1, fun v => Iff.rfl, Hb1.out, fun t ht => Hd1.out t (by omega), Hfr1.out⟩
  · go_enter Yba.func17, Yba.ntmps17
    go_wp2_with fail
    refine sortC.mono ?_
    rintro e w1 ⟨rfl, hfr1, h1, hb1, hd1⟩
    have Hfr1 := hid hfr1; have Hb1 := hid hb1; have Hd1 := hid hd1
    clear hfr1 hb1 hd1 sortC
    go_wp2
    go_loopw [3, 14] (fun mv i wr => ∃ k p : Nat, k ≤ c1 ∧ i = .int .i64 k ∧ mv = .slice (some ⟨g, 0, none⟩) (p + 1) cap ∧ MLoop g (c1 + 1) cap D k p wr ∧ Fr g g none w wr) (fun _ i _ => c1 - (intOf i).toNat)
    case atStart => exact ⟨0, 0, by omega, rfl, rfl, ⟨D, h1, minv_start D (HD.out 0 (by omega)), Hb1.out, fun t ht => Hd1.out t (by omega), fun t _ ht => Hd1.out t ht⟩, Hfr1.out⟩
    case round =>
      obtain ⟨k, p, hk, rfl, rfl, ⟨f, h, hM, hB, hf, hd⟩, hfr⟩ := hrel
      have hpk := hM.1
      by_cases hkn : k < c1
      · have hki : (k : Int) < (c1 : Int) := by omega
        have hx := hd (k + 1) (by omega) (by omega)
        have hx0 := hB.cell ((k + 1) * 2) (by omega)
        have hx1 := hB.cell ((k + 1) * 2 + 1) (by omega)
        rw [hx.1, show (k + 1) * 2 = 2 + k * 2 by omega] at hx0
        rw [hx.2, show (k + 1) * 2 + 1 = 2 + k * 2 + 1 by omega] at hx1
        have hy := hf p (Nat.le_refl _)
        have hy0 := hB.cell (p * 2) (by omega)
        have hy1 := hB.cell (p * 2 + 1) (by omega)
        rw [hy.1] at hy0
        rw [hy.2] at hy1
        have hz := hB.frozen (p * 2 + 1)
        have hdk := HD.out (k + 1) (by omega)
        have hsk := HS.out k (by omega)
        have hfp := hM.2.1.1 p (by omega)
        have hgl := hB.lt
        have HM := hid hM; have HB := hid hB; have Hf := hid hf; have Hd := hid hd; have Hfr := hid hfr; have Hdk := hid hdk; have Hsk := hid hsk
        have HDk := hid (show D (k + 1) = ((D (k + 1)).1, (D (k + 1)).2) from rfl)
        have Hfp := hid (show f p = ((f p).1, (f p).2) from rfl)
        clear hM hB hf hd hfr hx hy
        obtain ⟨X0, hX0⟩ : ∃ x, (D (k + 1)).1 = x := ⟨_, rfl⟩
        obtain ⟨X1, hX1⟩ : ∃ x, (D (k + 1)).2 = x := ⟨_, rfl⟩
        obtain ⟨Y0, hY0⟩ : ∃ x, (f p).1 = x := ⟨_, rfl⟩
        obtain ⟨Y1, hY1⟩ : ∃ x, (f p).2 = x := ⟨_, rfl⟩
        rw [hX0] at hx0; rw [hX1] at hx1; rw [hY0] at hy0; rw [hY1] at hy1
        rw [hX0, hX1] at hdk; rw [hY0, hY1] at hfp
        have HX0 := hid hX0; have HX1 := hid hX1; have HY0 := hid hY0; have HY1 := hid hY1
        clear hX0 hX1 hY0 hY1 hsk
        by_cases hgt : Y1 + 1 < X0
        · have hgd : decide (Y1 + 1 < X0) = true := by simpa using hgt
          go_wp2
          go_quiet (fail)
          have hbA : BlkAt g (cap * 2) h (((wr.alloc (.cells #[.int .i32 X0, .int .i32 X1] 57)).drewN nq).alloc (.cells #[.int .i32 X0, .int .i32 X1] 57)) :=
            HB.out.move ((Below.heap_alloc _ _ _ (by simp; omega)).trans (Below.heap_alloc _ _ _ hgl))
          have HbA := hid hbA
          clear hbA
          go_wp2_with (at_builtin; refine wpList_append_in _ rfl _ _ rfl g (p + 1) cap h rfl HbA.out ⟨wr.heap.size + 1, 0, none⟩ 1 (.int .i32 X0) (.int .i32 X1) rfl ?c1 ?c2 ?c3 ?_)
          case c1 =>
            intro j u hj
            have hnew := heap_alloc_new ((wr.alloc (.cells #[.int .i32 X0, .int .i32 X1] 57)).drewN nq) (.cells #[.int .i32 X0, .int .i32 X1] 57)
            have hsz : ((wr.alloc (.cells #[.int .i32 X0, .int .i32 X1] 57)).drewN nq).heap.size = wr.heap.size + 1 := by simp
            rw [hsz] at hnew
            rw [Go.WideShapes.add_plain, Nat.zero_add, cell_of hnew]
            simpa using hj
          case c2 => simp [Value.oneCell']
          case c3 => omega
          intro w2 hb2 hf2
          have Hb2 := hid hb2; have Hf2 := hid hf2
          clear hb2 hf2
          go_wp2
          go_roundw
          case rel =>
            refine ⟨k + 1, p + 1, by omega, by go_num, rfl, ⟨setN f (p + 1) (D (k + 1)), _, minv_new HM.out Hdk.out (by rw [HY1.out, HX0.out]; exact hgt), Hb2.out, ?_, ?_⟩, ?_⟩
            · intro t ht
              have e1 := HX0.out; have e2 := HX1.out
              by_cases c : t = p + 1
              · subst c; simp [Set1, setN_same, e1, e2]
              · have := Hf.out t (by omega)
                simp only [Set1, setN, if_neg c, if_neg (show ¬ t * 2 = (p + 1) * 2 + 1 by omega), if_neg (show ¬ t * 2 = (p + 1) * 2 by omega), if_neg (show ¬ t * 2 + 1 = (p + 1) * 2 + 1 by omega), if_neg (show ¬ t * 2 + 1 = (p + 1) * 2 by omega)]
                exact this
            · intro t ht1 ht2
              have := Hd.out t (by omega) ht2
              simp only [Set1, if_neg (show ¬ t * 2 = (p + 1) * 2 + 1 by omega), if_neg (show ¬ t * 2 = (p + 1) * 2 by omega), if_neg (show ¬ t * 2 + 1 = (p + 1) * 2 + 1 by omega), if_neg (show ¬ t * 2 + 1 = (p + 1) * 2 by omega)]
              exact this
            · exact (((Hfr.out.alloc _).trans (Next.refl _ _) (Fr.of_below (below_drewN (Below.refl _ _) nq))).alloc _).trans (Next.refl _ _) Hf2.out
          case measure => simp [intOf]; omega
        · have hgd : decide (Y1 + 1 < X0) = false := by simpa using hgt
          have hX0' : X0 ≤ Y1 + 1 := by omega
          clear hgt
          go_wp2
          go_quiet (fail)
          go_wp2
          go_region
          all_goals
            go_wp2
            refine ⟨⟨k + 1, p, by omega, by go_num, rfl, ⟨setN f p ((f p).1, max (f p).2 (D (k + 1)).2), Set1 h (p * 2 + 1) (.int .i32 (if Y1 < X1 then X1 else Y1)), minv_join HM.out Hdk.out Hsk.out (by rw [HX0.out, HY1.out]; exact hX0'), ?_, ?_, ?_⟩, ?_⟩, by simp [intOf]; omega⟩
            · exact BlkAt.set (HB.out.move (Below.heap_alloc _ _ _ hgl)) (p * 2 + 1) _
            · intro t ht
              by_cases c : t = p
              · subst c
                have e1 := (Hf.out t (Nat.le_refl _)).1
                rw [setN_same]
                simp only [Set1, if_neg (show ¬ t * 2 = t * 2 + 1 by omega), if_pos trivial]
                refine ⟨e1, ?_⟩
                rw [HX1.out, HY1.out]
                by_cases c2 : Y1 < X1
                · rw [if_pos c2]; congr 1; omega
                · rw [if_neg c2]; congr 1; omega
              · have := Hf.out t ht
                simp only [Set1, setN, if_neg c, if_neg (show ¬ t * 2 = p * 2 + 1 by omega), if_neg (show ¬ t * 2 + 1 = p * 2 + 1 by omega)]
                exact this
            · intro t ht1 ht2
              have := Hd.out t (by omega) ht2
              simp only [Set1, if_neg (show ¬ t * 2 = p * 2 + 1 by omega), if_neg (show ¬ t * 2 + 1 = p * 2 + 1 by omega)]
              exact this
            · exact ((Hfr.out.alloc _).trans (Next.refl _ _) (Fr.of_below (below_drewN (Below.refl _ _) (nq + 1)))).setCell g _ _ (.inl rfl)
      · have hki : (c1 : Int) ≤ (k : Int) := by omega
        obtain rfl : k = c1 := by omega
        have HM := hid hM; have HB := hid hB; have Hf := hid hf; have Hfr := hid hfr
        clear hM hB hf hd hfr
        go_wp2
        go_ret
        exact ⟨p, f, h, rfl, by omega, HM.out.2.1, HM.out.2.2.2, HB.out, Hf.out, Hfr.out⟩
end Go.Proofs.Ybulkchvi
