import Derived.Test.YbulkchuuGreatDoorS6
import Derived.Test.YbulkchuuGreatDoorS7
import Derived.Deep.Cut
import Derived.Deep.CutRange
import Derived.Deep.LoopGhost
namespace Go.Proofs.YbulkchuuGreatDoor
open Go.RowKit
open Go.Sort (swp ltInt size_swp PermIn SortedIn insertionSort heapSort partialInsertionSort)
set_option linter.unusedVariables false
set_option linter.unusedSimpArgs false
set_option maxRecDepth 100000

/-! ### plainly -/
def Srt (a b : Nat) (d : Array Int) : Prop := ∀ i j, a ≤ i → i < j → j < b → d[i]! ≤ d[j]!
def Low (a b : Nat) (d : Array Int) : Prop := a = 0 ∨ ∀ i, a ≤ i → i < b → d[a - 1]! ≤ d[i]!
theorem lt_false {x y : Int} : ltInt x y = false ↔ y ≤ x := by simp [ltInt]
theorem lt_true {x y : Int} : ltInt x y = true ↔ x < y := by simp [ltInt]
theorem srt_iff (a b : Nat) (d : Array Int) : SortedIn ltInt a b d ↔ Srt a b d := by
  unfold SortedIn Srt
  constructor
  · intro h i j h1 h2 h3; exact lt_false.1 (h i j h1 h2 h3)
  · intro h i j h1 h2 h3; exact lt_false.2 (h i j h1 h2 h3)
theorem low_iff (a b : Nat) (d : Array Int) : Go.Sort.Below ltInt a b d ↔ Low a b d := by
  unfold Go.Sort.Below Low
  constructor
  · rintro (h | h)
    · exact .inl h
    · exact .inr fun i h1 h2 => lt_false.1 (h i h1 h2)
  · rintro (h | h)
    · exact .inl h
    · exact .inr fun i h1 h2 => lt_false.2 (h i h1 h2)
theorem swo32 : Go.Sort.SWO ltInt where
  irrefl x := by simp [ltInt]
  trans x y z h1 h2 := by simp [ltInt] at *; omega
  ntrans x y z h1 h2 := by simp [ltInt] at *; omega
theorem perm_out {a b : Nat} {d d' : Array Int} (h : PermIn a b d d') (i : Nat) (hi : i < a ∨ b ≤ i) : d'[i]! = d[i]! := h.2.1 i hi
theorem perm_all {a b : Nat} {d d' : Array Int} (h : PermIn a b d d') (hb : b ≤ d.size) (p : Int → Prop) (hp : ∀ i, a ≤ i → i < b → p d[i]!) : ∀ i, a ≤ i → i < b → p d'[i]! := Go.Sort.permIn_all d d' a b p hb h hp
theorem low_perm {a b : Nat} {d d' : Array Int} (hL : Low a b d) (h : PermIn a b d d') (hb : b ≤ d.size) : Low a b d' := by
  rcases hL with h0 | h0
  · exact .inl h0
  · by_cases e : a = 0
    · exact .inl e
    · right
      rw [perm_out h (a - 1) (.inl (by omega))]
      exact perm_all h hb (fun x => d[a - 1]! ≤ x) h0
/-- what is still to be sorted -/
def Rest (a b : Nat) (d : Array Int) (a' b' : Nat) (dk : Array Int) : Prop := ∀ d'', PermIn a' b' dk d'' → Srt a' b' d'' → PermIn a b d d'' ∧ Srt a b d''
theorem Rest.perm {a b a' b' : Nat} {d dk d1 : Array Int} (h : Rest a b d a' b' dk) (hp : PermIn a' b' dk d1) : Rest a b d a' b' d1 :=
  fun d'' h1 h2 => h d'' (Go.Sort.permIn_trans dk d1 d'' a' b' hp h1) h2
theorem perm_mono {a b a' b' : Nat} {d d' : Array Int} (h : PermIn a b d d') (ha : a' ≤ a) (hb : b ≤ b') (hs : b' ≤ d.size) : PermIn a' b' d d' := Go.Sort.permIn_mono d d' a b a' b' ha hb hs h
/-- behind partitionEqual -/
theorem Rest.equal {a b a' b' mid : Nat} {d dk d1 : Array Int} {p : Int} (h : Rest a b d a' b' dk) (hs : b' ≤ dk.size) (hP : PermIn a' b' dk d1) (h1 : a' < mid) (h2 : mid ≤ b') (hl : ∀ t, a' ≤ t → t < mid → ltInt p d1[t]! = false) (hr : ∀ t, mid ≤ t → t < b' → ltInt p d1[t]! = true)
    (hge : ∀ t, a' ≤ t → t < b' → p ≤ dk[t]!) : Rest a b d mid b' d1 ∧ Low mid b' d1 := by
  have hge1 := perm_all hP hs (fun x => p ≤ x) hge
  have hs1 : d1.size = dk.size := hP.1
  refine ⟨fun d'' k1 k2 => h d'' (Go.Sort.permIn_trans dk d1 d'' a' b' hP (perm_mono k1 (by omega) (Nat.le_refl _) (by omega))) ?_, .inr fun i hi1 hi2 => ?_⟩
  · intro i j hi hij hj
    have hr2 := perm_all k1 (by omega) (fun x => p < x) (fun t t1 t2 => lt_true.1 (hr t t1 t2))
    by_cases e1 : mid ≤ i
    · exact k2 i j e1 hij hj
    · have hi1 : d''[i]! = d1[i]! := perm_out k1 i (.inl (by omega))
      have hi2 := lt_false.1 (hl i hi (by omega))
      by_cases e2 : mid ≤ j
      · have := hr2 j e2 hj
        rw [hi1]; omega
      · rw [hi1, perm_out k1 j (.inl (by omega))]
        have := hge1 j (by omega) (by omega)
        omega
  · have := lt_false.1 (hl (mid - 1) (by omega) (by omega))
    have := lt_true.1 (hr i hi1 hi2)
    omega
/-- behind partition and the left part's sort -/
theorem Rest.left {a b a' b' mid : Nat} {d dk d1 d2 : Array Int} (h : Rest a b d a' b' dk) (hs : b' ≤ dk.size) (hP : Parted a' b' mid dk d1) (h1 : a' ≤ mid) (h2 : mid < b') (hp2 : PermIn a' mid d1 d2) (hs2 : Srt a' mid d2) : Rest a b d (mid + 1) b' d2 ∧ Low (mid + 1) b' d2 := by
  obtain ⟨hP1, hl, hr⟩ := hP
  have hz1 : d1.size = dk.size := hP1.1
  have hz2 : d2.size = dk.size := hp2.1.trans hz1
  have hl2 := perm_all hp2 (by omega) (fun x => x < d1[mid]!) (fun t t1 t2 => lt_true.1 (hl t t1 t2))
  have hm2 : d2[mid]! = d1[mid]! := perm_out hp2 mid (.inr (Nat.le_refl _))
  have hr2 : ∀ t, mid < t → t < b' → d1[mid]! ≤ d2[t]! := fun t t1 t2 => by
    rw [perm_out hp2 t (.inr (by omega))]; exact lt_false.1 (hr t t1 t2)
  refine ⟨fun d'' k1 k2 => h d'' (Go.Sort.permIn_trans dk d1 d'' a' b' hP1 (Go.Sort.permIn_trans d1 d2 d'' a' b' (perm_mono hp2 (Nat.le_refl _) (by omega) (by omega)) (perm_mono k1 (by omega) (Nat.le_refl _) (by omega)))) ?_, .inr fun i hi1 hi2 => ?_⟩
  · intro i j hi hij hj
    have hr3 := perm_all k1 (by omega) (fun x => d1[mid]! ≤ x) (fun t t1 t2 => hr2 t (by omega) t2)
    by_cases e1 : mid + 1 ≤ i
    · exact k2 i j e1 hij hj
    · have hi1 : d''[i]! = d2[i]! := perm_out k1 i (.inl (by omega))
      rw [hi1]
      have hile : d2[i]! ≤ d1[mid]! := by
        by_cases e : i = mid
        · rw [e, hm2]; exact Int.le_refl _
        · have := hl2 i hi (by omega); omega
      by_cases e2 : mid + 1 ≤ j
      · have := hr3 j e2 hj; omega
      · rw [perm_out k1 j (.inl (by omega))]
        by_cases e : j = mid
        · rw [e, hm2]; exact hile
        · exact hs2 i j hi hij (by omega)
  · rw [Nat.add_sub_cancel, hm2]; exact hr2 i (by omega) hi2
/-- behind partition and the right part's sort -/
theorem Rest.right {a b a' b' mid : Nat} {d dk d1 d2 : Array Int} (h : Rest a b d a' b' dk) (hs : b' ≤ dk.size) (hL : Low a' b' dk) (hP : Parted a' b' mid dk d1) (h1 : a' ≤ mid) (h2 : mid < b') (hp2 : PermIn (mid + 1) b' d1 d2) (hs2 : Srt (mid + 1) b' d2) : Rest a b d a' mid d2 ∧ Low a' mid d2 := by
  obtain ⟨hP1, hl, hr⟩ := hP
  have hz1 : d1.size = dk.size := hP1.1
  have hz2 : d2.size = dk.size := hp2.1.trans hz1
  have hr2 := perm_all hp2 (by omega) (fun x => d1[mid]! ≤ x) (fun t t1 t2 => lt_false.1 (hr t (by omega) t2))
  have hm2 : d2[mid]! = d1[mid]! := perm_out hp2 mid (.inl (by omega))
  have hl2 : ∀ t, a' ≤ t → t < mid → d2[t]! < d1[mid]! := fun t t1 t2 => by
    rw [perm_out hp2 t (.inl (by omega))]; exact lt_true.1 (hl t t1 t2)
  have hL1 := low_perm hL hP1 hs
  refine ⟨fun d'' k1 k2 => h d'' (Go.Sort.permIn_trans dk d1 d'' a' b' hP1 (Go.Sort.permIn_trans d1 d2 d'' a' b' (perm_mono hp2 (by omega) (Nat.le_refl _) (by omega)) (perm_mono k1 (Nat.le_refl _) (by omega) (by omega)))) ?_, ?_⟩
  · intro i j hi hij hj
    have hl3 := perm_all k1 (by omega) (fun x => x < d1[mid]!) hl2
    by_cases e1 : mid ≤ j
    · have hj1 : d''[j]! = d2[j]! := perm_out k1 j (.inr e1)
      rw [hj1]
      have hjge : d1[mid]! ≤ d2[j]! := by
        by_cases e : j = mid
        · rw [e, hm2]; exact Int.le_refl _
        · exact hr2 j (by omega) hj
      by_cases e2 : mid ≤ i
      · rw [perm_out k1 i (.inr e2)]
        by_cases e : i = mid
        · rw [e, hm2]; exact hjge
        · exact hs2 i j (by omega) hij hj
      · have := hl3 i hi (by omega); omega
    · exact k2 i j hi hij (by omega)
  · rcases hL1 with h0 | h0
    · exact .inl h0
    · by_cases e : a' = 0
      · exact .inl e
      · right
        intro i hi1 hi2
        rw [perm_out hp2 (a' - 1) (.inl (by omega)), perm_out hp2 i (.inl (by omega))]
        exact h0 i hi1 (by omega)

def PdqPost (g off a b : Nat) (d : Array Int) (w : World) (e : Ending) (w' : World) : Prop := e = .returned (.tuple #[]) ∧ ∃ d', R32 g off d' w' ∧ PermIn a b d d' ∧ Srt a b d' ∧ FrG g w w'

set_option maxHeartbeats 12000000 in
theorem pdq128 : ∀ (N g off cap n a b lim : Nat) (d : Array Int) (w : World), b - a < N → d.size = n → R32 g off d w → a ≤ b → b ≤ n → n < 1000000 → lim ≤ 1000 → Low a b d →
    Calls Ybaz.prog 128 #[.slice (some ⟨g, off, none⟩) n cap, .int .i64 a, .int .i64 b, .int .i64 lim] w (PdqPost g off a b d w) := by
  intro N
  induction N with
  | zero => intro g off cap n a b lim d w h; omega
  | succ N ih =>
    intro g off cap n a b lim d w hN hn hR hab hb hsz hlim hL
    have HR := hid hR; have HL := hid hL; have IH := hid ih
    clear hR hL ih
    go_enter Ybaz.func128, Ybaz.ntmps128
    go_wp2
    go_loopg [1, 2, 3, 8, 9] (b - a) (fun k s1 s2 s3 s8 s9 wr => ∃ (a' b' li : Nat) (wb wp : Bool) (dk : Array Int), s1 = .int .i64 a' ∧ s2 = .int .i64 b' ∧ s3 = .int .i64 li ∧ s8 = .bool wb ∧ s9 = .bool wp ∧
      a' ≤ b' ∧ b' ≤ n ∧ b' - a' ≤ k ∧ k ≤ b - a ∧ li ≤ 1000 ∧ dk.size = n ∧ Low a' b' dk ∧ R32 g off dk wr ∧ FrG g w wr ∧ Rest a b d a' b' dk)
    case atStart => exact ⟨a, b, lim, true, true, d, rfl, rfl, rfl, rfl, rfl, hab, hb, Nat.le_refl _, Nat.le_refl _, hlim, hn, HL.out, HR.out, Fr.refl _ _, fun d'' h1 h2 => ⟨h1, h2⟩⟩
    case round =>
      generalize wr = wq at *
      obtain ⟨a', b', li, wb, wp, dk, rfl, rfl, rfl, rfl, rfl, hab', hb', hk, hkN, hli, hsk, hLk, hRk, hFk, hRe⟩ := hrel
      have HLk := hid hLk; have HRk := hid hRk; have HFk := hid hFk; have HRe := hid hRe
      clear hLk hRk hFk hRe
      by_cases h12 : b' - a' ≤ 12
      · have h12i : (b' : Int) - (a' : Int) ≤ 12 := by omega
        have hc := insertion165 g off cap a' b' n dk wq hsk HRk.out hab' hb' hsz
        have hso := Go.Sort.insertionSort_holds (lt := ltInt) swo32 dk a' b' hab' (by omega)
        rw [srt_iff] at hso
        go_wp2_with (go_at_call 165; refine hc.mono ?_; rintro e w1 ⟨rfl, hR1, hF1⟩)
        (try simp only [Exit.inBlock, Exit.then]); refine bodyPost_ret (results_none rfl _ _ _) rfl ?_
        obtain ⟨k1, k2⟩ := HRe.out _ hso.1 hso.2
        exact ⟨rfl, _, hR1, k1, k2, HFk.out.trans hF1⟩
      · have h12i : ¬ (b' : Int) - (a' : Int) ≤ 12 := by omega
        by_cases hl0 : li = 0
        · subst hl0
          have hc := heap166 g off cap a' b' n dk wq hsk HRk.out (by omega) hb' hsz
          have hso := Go.Sort.heapSort_holds (lt := ltInt) swo32 dk a' b' hab' (by omega)
          rw [srt_iff] at hso
          go_wp2_with (go_at_call 166; refine hc.mono ?_; rintro e w1 ⟨rfl, hR1, hF1⟩)
          (try simp only [Exit.inBlock, Exit.then]); refine bodyPost_ret (results_none rfl _ _ _) rfl ?_
          obtain ⟨k1, k2⟩ := HRe.out _ hso.1 hso.2
          exact ⟨rfl, _, hR1, k1, k2, HFk.out.trans hF1⟩
        · have hl0i : ¬ ((li : Int) = 0) := by omega
          go_upto_if 35 with fail
          go_cut [3] from 19 to 133 (fun s3 wc => ∃ (l2 : Nat) (d1 : Array Int), s3 = .int .i64 l2 ∧ l2 ≤ 1000 ∧ PermIn a' b' dk d1 ∧ R32 g off d1 wc ∧ FrG g w wc)
          case first =>
            cases wb
            · have hc := break167 g off cap n a' b' (b' - a') dk wq hsk HRk.out (by omega) (by omega) hb' hsz
              go_wp2_with (go_at_call 167; refine hc.mono ?_; rintro e w1 ⟨rfl, d1, hR1, hP1, hF1⟩)
              go_meet
              case rel => exact ⟨li - 1, d1, by congr 1; omega, by omega, hP1, hR1, HFk.out.trans hF1⟩
            · go_wp2_with fail
              go_meet
              case rel => exact ⟨li, dk, rfl, hli, Go.Sort.permIn_refl dk a' b', HRk.out, HFk.out⟩
          case rest =>
            obtain ⟨l2, d1, rfl, hl2, hP1, hR1, hF1⟩ := hcut
            have hs1 : d1.size = n := hP1.1.trans hsk
            have hc168 := pivot168 g off cap n a' b' (b' - a') d1 wc hs1 hR1 (by omega) (by omega) hb' hsz
            have HP1 := hid hP1; have HR1 := hid hR1; have HF1 := hid hF1
            clear hP1 hR1 hF1
            generalize hwc : wc = wc1 at *
            clear hwc
            go_upto_if 50 with (go_at_call 168; refine hc168.mono ?_; rintro e w2 ⟨x, h, rfl, hx1, hx2, hh2, hB2⟩)
            have HR2 := hid (HR1.out.move (hB2.block g HR1.out.lt)); have HF2 := hid (HF1.out.trans (Fr.of_new hB2))
            clear hB2 hc168
            go_cut [11, 12] from 19 to 133 (fun s11 s12 wc => ∃ (x2 h2 : Nat) (d2 : Array Int), s11 = .int .i64 x2 ∧ s12 = .int .i64 h2 ∧ a' ≤ x2 ∧ x2 < b' ∧ PermIn a' b' d1 d2 ∧ R32 g off d2 wc ∧ FrG g w wc)
            case first =>
              by_cases hh : h = 2
              · subst hh
                have hc := reverse169 g off cap a' b' n d1 w2 hs1 HR2.out (by omega) hb' hsz
                go_wp2_with (go_at_call 169; refine hc.mono ?_; rintro e w3 ⟨rfl, d2, hR3, hP3, hF3⟩)
                go_meet
                case rel => exact ⟨b' - 1 - (x - a'), 1, d2, by congr 1; omega, rfl, by omega, by omega, hP3, hR3, HF2.out.trans hF3⟩
              · have hhi : ((h : Int) == 2) = false := by simp; omega
                have hhi2 : ¬ ((h : Int) = 2) := by omega
                go_wp2_with fail
                go_meet
                case rel => exact ⟨x, h, d1, rfl, rfl, hx1, hx2, Go.Sort.permIn_refl d1 a' b', HR2.out, HF2.out⟩
            case rest =>
              obtain ⟨x2, h2, d2, rfl, rfl, hxa, hxb, hP2, hR2, hF2⟩ := hcut
              have hs2 : d2.size = n := hP2.1.trans hs1
              have HP2 := hid (Go.Sort.permIn_trans dk d1 d2 a' b' HP1.out hP2); have HR3 := hid hR2; have HF3 := hid hF2
              clear hP2 hR2 hF2 HR2 HF2 HR1 HF1 HP1
              generalize hwc : wc = wc2 at *
              clear hwc
              go_upto_region 15 with fail
              go_cut [68] from 19 to 133 (fun s68 wx => ∃ q : Bool, s68 = .bool q ∧ wx = wc2)
              case first =>
                cases wb <;> cases wp <;> (by_cases hh1 : (h2 : Int) = 1 <;> (go_wp2_with fail; all_goals go_meet; all_goals (case rel => exact ⟨_, rfl, rfl⟩)))
              case rest =>
                obtain ⟨q, rfl, rfl⟩ := hcut
                go_upto_if 68 with fail
                go_cut [] from 19 to 133 (fun wx => ∃ d3 : Array Int, PermIn a' b' dk d3 ∧ R32 g off d3 wx ∧ FrG g w wx)
                case first =>
                  cases q
                  · go_wp2_with fail
                    go_meet
                    case rel => exact ⟨d2, HP2.out, HR3.out, HF3.out⟩
                  · have hc170 := partial170 g off cap n a' b' d2 wc hs2 HR3.out (by omega) hb' hsz
                    have hL2 := low_perm HLk.out HP2.out (by omega)
                    have hso := Go.Sort.partialInsertionSort_holds (lt := ltInt) swo32 d2 a' b' (by omega) (by omega) ((low_iff a' b' d2).2 hL2)
                    rw [srt_iff] at hso
                    cases hpi : (partialInsertionSort ltInt d2 a' b').2 with
                    | true =>
                      rw [hpi] at hc170 hso
                      go_wp2_with (go_at_call 170; refine hc170.mono ?_; rintro e w5 ⟨rfl, hR5, hF5⟩)
                      (try simp only [Exit.inBlock, Exit.then]); refine bodyPost_ret (results_none rfl _ _ _) rfl ?_
                      obtain ⟨k1, k2⟩ := HRe.out _ (Go.Sort.permIn_trans dk d2 _ a' b' HP2.out hso.1) (hso.2 (by first | trivial | rfl))
                      exact ⟨rfl, _, hR5, k1, k2, HF3.out.trans hF5⟩
                    | false =>
                      rw [hpi] at hc170 hso
                      go_wp2_with (go_at_call 170; refine hc170.mono ?_; rintro e w5 ⟨rfl, hR5, hF5⟩)
                      go_meet
                      case rel => exact ⟨_, Go.Sort.permIn_trans dk d2 _ a' b' HP2.out hso.1, hR5, HF3.out.trans hF5⟩
                case rest =>
                  obtain ⟨d3, hP3, hR4, hF4⟩ := hcut
                  have hs3 : d3.size = n := hP3.1.trans hsk
                  have HL3 := hid (low_perm HLk.out hP3 (by omega))
                  have HRe3 := hid (HRe.out.perm hP3)
                  have HP3 := hid hP3; have HR4 := hid hR4; have HF4 := hid hF4
                  obtain ⟨G, hG, hcw, hfw⟩ := hR4.fam hs3
                  have HG := hid hG
                  clear hP3 hR4 hF4 hG HRe HLk HP2 HR3 HF3
                  by_cases ha0 : 0 < a'
                  · have ha0i : (0 : Int) < (a' : Int) := by omega
                    have hc1 : wc.cell? ⟨g, off + (a' - 1), none⟩ = some (.int .i32 (G (a' - 1))) := hcw (a' - 1) (by omega)
                    have hc2 : wc.cell? ⟨g, off + x2, none⟩ = some (.int .i32 (G x2)) := hcw x2 (by omega)
                    cases hl : ltInt (G (a' - 1)) (G x2) with
                    | false =>
                      have hc172 := fun q => partEq172 g off cap n a' b' x2 d3 (wc.drewN q) hs3 HR4.out hxa hxb hb' hsz
                      have hge : ∀ t, a' ≤ t → t < b' → d3[x2]! ≤ d3[t]! := fun t t1 t2 => by
                        rw [HG.out, HG.out] at hl
                        have h1 := lt_false.1 hl
                        rcases HL3.out with h0 | h0
                        · omega
                        · have := h0 t t1 t2; omega
                      have Hge := hid hge
                      clear hge
                      go_wp2_with fail
                      go_quiet (first | (go_at_call 171; refine Calls.quiet_of_same (less171 _ _ _)))
                      go_wp2_with (go_at_call 172; refine (hc172 _).mono ?_; rintro e w6 ⟨mid, d4, rfl, hm1, hm2, hR6, hP6, hl6, hr6, hF6⟩)
                      have hRL := HRe3.out.equal (by omega) hP6 hm1 hm2 hl6 hr6 Hge.out
                      have hs4 : d4.size = n := hP6.1.trans hs3
                      go_roundg (b' - mid)
                      case measure => omega
                      case rel => exact ⟨mid, b', l2, wb, wp, d4, rfl, rfl, rfl, rfl, rfl, hm2, hb', Nat.le_refl _, by omega, hl2, hs4, hRL.2, hR6, HF4.out.trans hF6, hRL.1⟩
                    | true =>
                      go_wp2_with fail
                      go_quiet (first | (go_at_call 171; refine Calls.quiet_of_same (less171 _ _ _)))
                      have HR5 : Hid (R32 g off d3 (wc.drewN nq)) := hid HR4.out
                      have HF5 : Hid (FrG g w (wc.drewN nq)) := hid HF4.out
                      clear hcw hfw hl hc1 hc2
                      have hc173 := part173 g off cap n a' b' x2 d3 (wc.drewN nq) hs3 HR5.out hxa hxb hb' hsz
                      go_upto_if 113 with (go_at_call 173; refine hc173.mono ?_; rintro e w6 ⟨mid, al, d4, rfl, hm1, hm2, hR6, hPt, hF6⟩)
                      have hs4 : d4.size = n := hPt.1.1.trans hs3
                      have HR6 := hid hR6; have HF6 := hid (HF5.out.trans hF6); have HPt := hid hPt
                      have HL4 := hid (low_perm HL3.out hPt.1 (by omega))
                      clear hR6 hF6 hPt hc173
                      by_cases hlr : mid - a' < b' - mid
                      · have hlri : (mid : Int) - (a' : Int) < (b' : Int) - (mid : Int) := by omega
                        have hLl : Low a' mid d4 := by
                          rcases HL4.out with h0 | h0
                          · exact .inl h0
                          · exact .inr fun i h1 h2 => h0 i h1 (by omega)
                        have hcr := IH.out g off cap n a' mid l2 d4 w6 (by omega) hs4 HR6.out hm1 (by omega) hsz hl2 hLl
                        go_wp2_with (go_at_call 128; refine hcr.mono ?_; rintro e w7 ⟨rfl, d5, hR7, hP7, hS7, hF7⟩)
                        have hRL := HRe3.out.left (by omega) HPt.out hm1 hm2 hP7 hS7
                        have hs5 : d5.size = n := hP7.1.trans hs4
                        go_roundg (b' - (mid + 1))
                        case measure => omega
                        case rel => exact ⟨mid + 1, b', l2, _, al, d5, by go_num, rfl, rfl, rfl, rfl, by omega, hb', Nat.le_refl _, by omega, hl2, hs5, hRL.2, hR7, HF6.out.trans hF7, hRL.1⟩
                      · have hlri : ¬ (mid : Int) - (a' : Int) < (b' : Int) - (mid : Int) := by omega
                        have hLr : Low (mid + 1) b' d4 := .inr fun i h1 h2 => by
                          rw [Nat.add_sub_cancel]; exact lt_false.1 (HPt.out.2.2 i (by omega) h2)
                        have hcr := IH.out g off cap n (mid + 1) b' l2 d4 w6 (by omega) hs4 HR6.out (by omega) hb' hsz hl2 hLr
                        go_wp2_with (go_at_call 128; refine hcr.mono ?_; rintro e w7 ⟨rfl, d5, hR7, hP7, hS7, hF7⟩)
                        have hRL := HRe3.out.right (by omega) HL3.out HPt.out hm1 hm2 hP7 hS7
                        have hs5 : d5.size = n := hP7.1.trans hs4
                        go_roundg (mid - a')
                        case measure => omega
                        case rel => exact ⟨a', mid, l2, _, al, d5, rfl, rfl, rfl, rfl, rfl, by omega, by omega, Nat.le_refl _, by omega, hl2, hs5, hRL.2, hR7, HF6.out.trans hF7, hRL.1⟩
                  · have ha0i : decide ((0 : Int) < (a' : Int)) = false := by simp; omega
                    go_wp2_with fail
                    go_quiet (first | (go_at_call 171; refine Calls.quiet_of_same (less171 _ _ _)))
                    have HR5 : Hid (R32 g off d3 (wc.drewN nq)) := hid HR4.out
                    have HF5 : Hid (FrG g w (wc.drewN nq)) := hid HF4.out
                    clear hcw hfw
                    have hc173 := part173 g off cap n a' b' x2 d3 (wc.drewN nq) hs3 HR5.out hxa hxb hb' hsz
                    go_upto_if 113 with (go_at_call 173; refine hc173.mono ?_; rintro e w6 ⟨mid, al, d4, rfl, hm1, hm2, hR6, hPt, hF6⟩)
                    have hs4 : d4.size = n := hPt.1.1.trans hs3
                    have HR6 := hid hR6; have HF6 := hid (HF5.out.trans hF6); have HPt := hid hPt
                    have HL4 := hid (low_perm HL3.out hPt.1 (by omega))
                    clear hR6 hF6 hPt hc173
                    by_cases hlr : mid - a' < b' - mid
                    · have hlri : (mid : Int) - (a' : Int) < (b' : Int) - (mid : Int) := by omega
                      have hLl : Low a' mid d4 := by
                        rcases HL4.out with h0 | h0
                        · exact .inl h0
                        · exact .inr fun i h1 h2 => h0 i h1 (by omega)
                      have hcr := IH.out g off cap n a' mid l2 d4 w6 (by omega) hs4 HR6.out hm1 (by omega) hsz hl2 hLl
                      go_wp2_with (go_at_call 128; refine hcr.mono ?_; rintro e w7 ⟨rfl, d5, hR7, hP7, hS7, hF7⟩)
                      have hRL := HRe3.out.left (by omega) HPt.out hm1 hm2 hP7 hS7
                      have hs5 : d5.size = n := hP7.1.trans hs4
                      go_roundg (b' - (mid + 1))
                      case measure => omega
                      case rel => exact ⟨mid + 1, b', l2, _, al, d5, by go_num, rfl, rfl, rfl, rfl, by omega, hb', Nat.le_refl _, by omega, hl2, hs5, hRL.2, hR7, HF6.out.trans hF7, hRL.1⟩
                    · have hlri : ¬ (mid : Int) - (a' : Int) < (b' : Int) - (mid : Int) := by omega
                      have hLr : Low (mid + 1) b' d4 := .inr fun i h1 h2 => by
                        rw [Nat.add_sub_cancel]; exact lt_false.1 (HPt.out.2.2 i (by omega) h2)
                      have hcr := IH.out g off cap n (mid + 1) b' l2 d4 w6 (by omega) hs4 HR6.out (by omega) hb' hsz hl2 hLr
                      go_wp2_with (go_at_call 128; refine hcr.mono ?_; rintro e w7 ⟨rfl, d5, hR7, hP7, hS7, hF7⟩)
                      have hRL := HRe3.out.right (by omega) HL3.out HPt.out hm1 hm2 hP7 hS7
                      have hs5 : d5.size = n := hP7.1.trans hs4
                      go_roundg (mid - a')
                      case measure => omega
                      case rel => exact ⟨a', mid, l2, _, al, d5, rfl, rfl, rfl, rfl, rfl, by omega, by omega, Nat.le_refl _, by omega, hl2, hs5, hRL.2, hR7, HF6.out.trans hF7, hRL.1⟩

set_option maxHeartbeats 1000000 in
/-- slices.Sort at []int32 -/
theorem sort78 (g off cap n : Nat) (d : Array Int) (w : World) (hn : d.size = n) (hR : R32 g off d w) (hsz : n < 1000000) :
    Calls Ybaz.prog 78 #[.slice (some ⟨g, off, none⟩) n cap] w (PdqPost g off 0 n d w) := by
  have hLen : ∀ w, Calls Ybaz.prog 42 #[.int .u64 (n : Int)] w fun e w' => e = .returned (.int .i64 (Go.Sort.bitsLen n : Nat)) ∧ w' = w := fun w => by
    have h := Ybaz.bits_Len (n : Int) w (by omega) (by omega)
    rw [Int.toNat_natCast, bitLen_eq n (by omega)] at h
    exact h
  have hk := bits_small n hsz
  have hp := pdq128 (n + 1) g off cap n 0 n (Go.Sort.bitsLen n) d w (by omega) hn hR (by omega) (by omega) hsz (by omega) (.inl rfl)
  generalize Go.Sort.bitsLen n = k at *
  have HL := hid hLen; have HP := hid hp
  clear hLen hp hR
  go_enter Ybaz.func78, Ybaz.ntmps78
  go_wp2_with fail
  refine (HL.out _).mono ?_
  rintro e w' ⟨rfl, rfl⟩
  go_wp2_with fail
  refine HP.out.mono ?_
  rintro e w2 ⟨rfl, h2⟩
  have H2 := hid h2
  clear h2
  go_wp2
  go_end0
  exact ⟨rfl, H2.out⟩
end Go.Proofs.YbulkchuuGreatDoor
