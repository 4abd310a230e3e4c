import Derived.Test.YbulkchuuGreatDoorS5
namespace Go.Proofs.YbulkchuuGreatDoor
open Go.RowKit
open Go.Sort (swp ltInt size_swp PermIn)
set_option linter.unusedVariables false
set_option linter.unusedSimpArgs false
set_option maxRecDepth 100000

/-- between the two scans of partition -/
def PA (a b i j : Nat) (p : Int) (d dk : Array Int) : Prop :=
  PermIn a b d dk ∧ dk[a]! = p ∧ (∀ t, a < t → t < i → ltInt dk[t]! p = true) ∧ ∀ t, j < t → t < b → ltInt dk[t]! p = false
theorem PA.swap {a b i j n : Nat} {p : Int} {d dk : Array Int} (h : PA a b i j p d dk) (hs : dk.size = n) (hb : b ≤ n) (hai : a < i) (hij : i < j) (hjb : j < b) (h1 : ltInt dk[i]! p = false) (h2 : ltInt dk[j]! p = true) : PA a b (i + 1) (j - 1) p d (swp dk i j) := by
  obtain ⟨hP, ha, hl, hr⟩ := h
  have hg := fun k => Go.Sort.swp_get dk (i := i) (j := j) (by omega) (by omega) k
  refine ⟨Go.Sort.permIn_trans d dk _ a b hP (Go.Sort.swp_permIn dk a b i j (by omega) (by omega) (by omega) (by omega) (by omega)), ?_, fun t ht1 ht2 => ?_, fun t ht1 ht2 => ?_⟩
  · rw [hg, if_neg (by omega), if_neg (by omega)]; exact ha
  · rw [hg]
    by_cases e : t = i
    · rw [if_neg (by omega), if_pos e]; exact h2
    · rw [if_neg (by omega), if_neg e]; exact hl t ht1 (by omega)
  · rw [hg]
    by_cases e : t = j
    · rw [if_pos e]; exact h1
    · rw [if_neg e, if_neg (by omega)]; exact hr t (by omega) ht2
theorem PA.up {a b i j : Nat} {p : Int} {d dk : Array Int} (h : PA a b i j p d dk) (h1 : ltInt dk[i]! p = true) : PA a b (i + 1) j p d dk := by
  obtain ⟨hP, ha, hl, hr⟩ := h
  refine ⟨hP, ha, fun t ht1 ht2 => ?_, hr⟩
  by_cases e : t = i
  · subst e; exact h1
  · exact hl t ht1 (by omega)
theorem PA.down {a b i j : Nat} {p : Int} {d dk : Array Int} (h : PA a b i j p d dk) (h1 : ltInt dk[j]! p = false) : PA a b i (j - 1) p d dk := by
  obtain ⟨hP, ha, hl, hr⟩ := h
  refine ⟨hP, ha, hl, fun t ht1 ht2 => ?_⟩
  by_cases e : t = j
  · subst e; exact h1
  · exact hr t (by omega) ht2
theorem PA.start {a b pivot n : Nat} {d : Array Int} (hn : d.size = n) (hb : b ≤ n) (hap : a ≤ pivot) (hpb : pivot < b) : PA a b (a + 1) (b - 1) d[pivot]! d (swp d a pivot) := by
  obtain ⟨h1, h2, _, _⟩ := PE.start hn hb hap hpb
  exact ⟨h1, h2, fun t h1 h2 => by omega, fun t h1 h2 => by omega⟩
/-- what partition leaves -/
def Parted (a b mid : Nat) (d d' : Array Int) : Prop := PermIn a b d d' ∧ (∀ t, a ≤ t → t < mid → ltInt d'[t]! d'[mid]! = true) ∧ ∀ t, mid < t → t < b → ltInt d'[t]! d'[mid]! = false
theorem PA.finish {a b j n : Nat} {p : Int} {d dk : Array Int} (h : PA a b (j + 1) j p d dk) (hs : dk.size = n) (hb : b ≤ n) (haj : a ≤ j) (hjb : j < b) : Parted a b j d (swp dk j a) := by
  obtain ⟨hP, ha, hl, hr⟩ := h
  have hg := fun k => Go.Sort.swp_get dk (i := j) (j := a) (by omega) (by omega) k
  have hm : (swp dk j a)[j]! = p := by
    rw [hg]
    by_cases e : j = a
    · rw [if_pos e, e]; exact ha
    · rw [if_neg e, if_pos rfl]; exact ha
  refine ⟨Go.Sort.permIn_trans d dk _ a b hP (Go.Sort.swp_permIn dk a b j a (by omega) (by omega) (by omega) (by omega) (by omega)), fun t h1 h2 => ?_, fun t h1 h2 => ?_⟩
  · rw [hm, hg]
    by_cases e : t = a
    · rw [if_pos e]; exact hl j (by omega) (by omega)
    · rw [if_neg e, if_neg (by omega)]; exact hl t (by omega) (by omega)
  · rw [hm, hg, if_neg (by omega), if_neg (by omega)]; exact hr t h1 h2

def PAPost (g off a b n : Nat) (d : Array Int) (w : World) (e : Ending) (w' : World) : Prop :=
  ∃ (mid : Nat) (al : Bool) (d' : Array Int), e = .returned (.tuple #[.int .i64 mid, .bool al]) ∧ a ≤ mid ∧ mid < b ∧ R32 g off d' w' ∧ Parted a b mid d d' ∧ FrG g w w'

set_option maxHeartbeats 12000000 in
theorem part173 (g off cap n a b pivot : Nat) (d : Array Int) (w : World) (hn : d.size = n) (hR : R32 g off d w) (hap : a ≤ pivot) (hpb : pivot < b) (hb : b ≤ n) (hsz : n < 1000000) :
    Calls Ybaz.prog 173 #[.slice (some ⟨g, off, none⟩) n cap, .int .i64 a, .int .i64 b, .int .i64 pivot] w (PAPost g off a b n d w) := by
  have hPE0 := PA.start hn hb hap hpb
  have hR0 := hR.swap a pivot (by omega) (by omega)
  have hF0 := FrG.swap (g := g) (Fr.refl (fun k => k = g) w) (off + a) (off + pivot) (.int .i32 d[pivot]!) (.int .i32 d[a]!)
  have hs0 : (swp d a pivot).size = n := by rw [size_swp]; exact hn
  obtain ⟨G0, hG0, hcw, hfw⟩ := hR.fam hn
  generalize swp d a pivot = d0 at *
  rw [← hG0, ← hG0] at hR0 hF0
  rw [← hG0] at hPE0
  have HPE0 := hid hPE0; have HR0 := hid hR0; have HF0 := hid hF0
  clear hPE0 hR0 hF0 hR hG0
  go_enter Ybaz.func173, Ybaz.ntmps173
  go_wp2
  by_cases hsame : a = pivot
  · subst hsame
    go_region
    go_wp2
    have HR1 : Hid (R32 g off d0 ((w.setCell ⟨g, off + a, none⟩ (.int .i32 (G0 a))).setCell ⟨g, off + a, none⟩ (.int .i32 (G0 a))).drew) := hid HR0.out
    have HF1 : Hid (FrG g w ((w.setCell ⟨g, off + a, none⟩ (.int .i32 (G0 a))).setCell ⟨g, off + a, none⟩ (.int .i32 (G0 a))).drew) := hid HF0.out
    generalize ((w.setCell ⟨g, off + a, none⟩ (.int .i32 (G0 a))).setCell ⟨g, off + a, none⟩ (.int .i32 (G0 a))).drew = W0 at *
    clear HR0 HF0 hcw hfw
    generalize G0 a = p at *
    have hab1 : a + 1 ≤ b := by omega
    obtain ⟨j0, hj0e⟩ : ∃ j0, b - 1 = j0 := ⟨_, rfl⟩
    have hj0b : ((b : Int) - 1) = (j0 : Int) := by omega
    have hj0b2 : j0 < b ∧ b ≤ j0 + 1 := by omega
    obtain ⟨i0, hi0e⟩ : ∃ i0, a + 1 = i0 := ⟨_, rfl⟩
    have hi0a : ((a : Int) + 1) = (i0 : Int) := by omega
    have hi0a2 : a < i0 ∧ i0 ≤ a + 1 := by omega
    rw [hj0e, hi0e] at HPE0
    clear hj0e hi0e
    rw [hj0b, hi0a]
    have hsk := hs0
    go_loopw [10] (fun vi wr => ∃ (i : Nat), vi = .int .i64 i ∧ i0 ≤ i ∧ i ≤ j0 + 1 ∧ PA a b i j0 p d d0 ∧ R32 g off d0 wr ∧ FrG g w wr) (fun vi _ => (j0 + 1 - (intOf vi).toNat))
    case atStart => exact ⟨i0, rfl, Nat.le_refl _, by omega, HPE0.out, HR1.out, HF1.out⟩
    case round =>
      generalize wr = wx at *
      obtain ⟨i, rfl, hi0, hi1, hPi, hRi, hFi⟩ := hrel
      obtain ⟨G, hG, hcw, hfw⟩ := hRi.fam hsk
      have hGa : G a = p := by rw [hG]; exact hPi.2.1
      have hcwa : wx.cell? ⟨g, off + a, none⟩ = some (.int .i32 p) := by rw [← hGa]; exact hcw a (by omega)
      have HRi := hid hRi; have HFi := hid hFi; have HPi := hid hPi; have HG := hid hG
      clear hRi hFi hPi hG hGa
      by_cases hile : i ≤ j0
      · have hilei : (i : Int) ≤ (j0 : Int) := by omega
        cases hl : ltInt (G i) p with
        | true =>
          go_wp2
          go_quiet (first | (go_at_call 171; refine Calls.quiet_of_same (less171 _ _ _)))
          go_wp2
          go_roundw
          case rel => exact ⟨i + 1, by go_num, by omega, by omega, HPi.out.up (by rw [← HG.out]; exact hl), HRi.out, HFi.out⟩
          case measure => simp [intOf] <;> omega
        | false =>
          have Hz : Hid (i ≤ j0 → ltInt d0[i]! p = false) := hid (fun _ => by rw [← HG.out]; exact hl)
          go_wp2
          go_quiet (first | (go_at_call 171; refine Calls.quiet_of_same (less171 _ _ _)))
          go_wp2
          clear hcw hfw hcwa hl
          go_loopw [11] (fun vj wr => ∃ (j : Nat), vj = .int .i64 j ∧ j ≤ j0 ∧ i ≤ j + 1 ∧ PA a b i j p d d0 ∧ R32 g off d0 wr ∧ FrG g w wr) (fun vj _ => (intOf vj).toNat)
          case atStart => exact ⟨j0, rfl, Nat.le_refl _, hi1, HPi.out, HRi.out, HFi.out⟩
          case round =>
            generalize wr = wz at *
            obtain ⟨j, rfl, hj0, hj1, hPj, hRj, hFj⟩ := hrel
            obtain ⟨G2, hG2, hcw2, hfw2⟩ := hRj.fam hsk
            have hGa2 : G2 a = p := by rw [hG2]; exact hPj.2.1
            have hcwa2 : wz.cell? ⟨g, off + a, none⟩ = some (.int .i32 p) := by rw [← hGa2]; exact hcw2 a (by omega)
            have HRj := hid hRj; have HFj := hid hFj; have HPj := hid hPj; have HG2 := hid hG2
            clear hRj hFj hPj hG2
            by_cases hjle : i ≤ j
            · have hjlei : (i : Int) ≤ (j : Int) := by omega
              cases hl2 : ltInt (G2 j) p with
              | false =>
                clear hGa2
                go_wp2
                go_quiet (first | (go_at_call 171; refine Calls.quiet_of_same (less171 _ _ _)))
                go_wp2
                go_roundw
                case rel => exact ⟨j - 1, by congr 1; omega, by omega, by omega, HPj.out.down (by rw [← HG2.out]; exact hl2), HRj.out, HFj.out⟩
                case measure => simp [intOf] <;> omega
              | true =>
                have hz1 := Hz.out (by omega)
                have hne : i ≠ j := fun e => by subst e; rw [HG2.out] at hl2; rw [hl2] at hz1; cases hz1
                have hlt : i < j := by omega
                have hngt : ¬ (j : Int) < (i : Int) := by omega
                rw [HG2.out] at hl2
                have HPs := hid (HPj.out.swap hsk hb (by omega) hlt (by omega) hz1 hl2)
                have Hl2 := hid hl2; have Hz1 := hid hz1
                clear hl2 hz1 hGa2
                have hl3 : ltInt (G2 j) p = true := by rw [HG2.out]; exact Hl2.out
                go_wp2
                go_quiet (first | (go_at_call 171; refine Calls.quiet_of_same (less171 _ _ _)))
                go_wp2
                revert nq; intro nq2
                have hcw4 : ∀ t, t < n → (wz.drewN nq2).cell? ⟨g, off + t, none⟩ = some (.int .i32 (G2 t)) := hcw2
                have hfw4 : ∀ t, t < n → (wz.drewN nq2).frozen? ⟨g, off + t, none⟩ = false := hfw2
                have HR4 : Hid (R32 g off d0 (wz.drewN nq2)) := hid HRj.out
                have HF4 : Hid (FrG g w (wz.drewN nq2)) := hid HFj.out
                clear hcw2 hfw2 hcwa2
                generalize wz.drewN nq2 = wy at hcw4 hfw4 HR4 HF4 ⊢
                go_region
                go_wp2
                have HR6 : Hid (R32 g off (swp d0 i j) (((wy.setCell ⟨g, off + i, none⟩ (.int .i32 (G2 j))).setCell ⟨g, off + j, none⟩ (.int .i32 (G2 i))).drew)) := hid (by simp only [HG2.out]; exact HR4.out.swap i j (by omega) (by omega))
                have HF6 : Hid (FrG g w (((wy.setCell ⟨g, off + i, none⟩ (.int .i32 (G2 j))).setCell ⟨g, off + j, none⟩ (.int .i32 (G2 i))).drew)) := hid (FrG.swap (g := g) HF4.out _ _ _ _)
                generalize ((wy.setCell ⟨g, off + i, none⟩ (.int .i32 (G2 j))).setCell ⟨g, off + j, none⟩ (.int .i32 (G2 i))).drew = W6 at *
                have hs6 : (swp d0 i j).size = n := by rw [size_swp]; exact hs0
                generalize swp d0 i j = d6 at *
                clear hcw4 hfw4 HR4 HF4 hl3
                have hdec : decide (j < i) = false := by simp; omega
                rw [hdec]
                clear hdec
                go_loopw [10, 11] (fun vi vj wr => ∃ (i j : Nat) (dk : Array Int), vi = .int .i64 i ∧ vj = .int .i64 j ∧ a < i ∧ i ≤ j + 1 ∧ j < b ∧ dk.size = n ∧ R32 g off dk wr ∧ PA a b i j p d dk ∧ FrG g w wr) (fun vi vj _ => (intOf vj + 1 - intOf vi).toNat)
                case atStart => exact ⟨i + 1, j - 1, d6, by go_num, by congr 1; omega, by omega, by omega, by omega, hs6, HR6.out, HPs.out, HF6.out⟩
                case round =>
                  clear hsk
                  obtain ⟨i0, j0, dk, rfl, rfl, hai, hij, hjb, hsk, hRk, hPk, hFk⟩ := hrel
                  have HRk := hid hRk; have HFk := hid hFk; have HPk := hid hPk
                  clear hRk hFk hPk
                  generalize wr = wq at *
                  go_wp2
                  go_loopw [10] (fun vi wr => ∃ (i : Nat), vi = .int .i64 i ∧ i0 ≤ i ∧ i ≤ j0 + 1 ∧ PA a b i j0 p d dk ∧ R32 g off dk wr ∧ FrG g w wr) (fun vi _ => (j0 + 1 - (intOf vi).toNat))
                  case atStart => exact ⟨i0, rfl, Nat.le_refl _, hij, HPk.out, HRk.out, HFk.out⟩
                  case round =>
                    generalize wr = wx at *
                    obtain ⟨i, rfl, hi0, hi1, hPi, hRi, hFi⟩ := hrel
                    obtain ⟨G, hG, hcw, hfw⟩ := hRi.fam hsk
                    have hGa : G a = p := by rw [hG]; exact hPi.2.1
                    have hcwa : wx.cell? ⟨g, off + a, none⟩ = some (.int .i32 p) := by rw [← hGa]; exact hcw a (by omega)
                    have HRi := hid hRi; have HFi := hid hFi; have HPi := hid hPi; have HG := hid hG
                    clear hRi hFi hPi hG hGa
                    by_cases hile : i ≤ j0
                    · have hilei : (i : Int) ≤ (j0 : Int) := by omega
                      cases hl : ltInt (G i) p with
                      | true =>
                        go_wp2
                        go_quiet (first | (go_at_call 171; refine Calls.quiet_of_same (less171 _ _ _)))
                        go_wp2
                        go_roundw
                        case rel => exact ⟨i + 1, by go_num, by omega, by omega, HPi.out.up (by rw [← HG.out]; exact hl), HRi.out, HFi.out⟩
                        case measure => simp [intOf] <;> omega
                      | false =>
                        have Hz : Hid (i ≤ j0 → ltInt dk[i]! p = false) := hid (fun _ => by rw [← HG.out]; exact hl)
                        go_wp2
                        go_quiet (first | (go_at_call 171; refine Calls.quiet_of_same (less171 _ _ _)))
                        go_wp2
                        clear hcw hfw hcwa hl
                        go_loopw [11] (fun vj wr => ∃ (j : Nat), vj = .int .i64 j ∧ j ≤ j0 ∧ i ≤ j + 1 ∧ PA a b i j p d dk ∧ R32 g off dk wr ∧ FrG g w wr) (fun vj _ => (intOf vj).toNat)
                        case atStart => exact ⟨j0, rfl, Nat.le_refl _, hi1, HPi.out, HRi.out, HFi.out⟩
                        case round =>
                          generalize wr = wz at *
                          obtain ⟨j, rfl, hj0, hj1, hPj, hRj, hFj⟩ := hrel
                          obtain ⟨G2, hG2, hcw2, hfw2⟩ := hRj.fam hsk
                          have hGa2 : G2 a = p := by rw [hG2]; exact hPj.2.1
                          have hcwa2 : wz.cell? ⟨g, off + a, none⟩ = some (.int .i32 p) := by rw [← hGa2]; exact hcw2 a (by omega)
                          have HRj := hid hRj; have HFj := hid hFj; have HPj := hid hPj; have HG2 := hid hG2
                          clear hRj hFj hPj hG2
                          by_cases hjle : i ≤ j
                          · have hjlei : (i : Int) ≤ (j : Int) := by omega
                            cases hl2 : ltInt (G2 j) p with
                            | false =>
                              clear hGa2
                              go_wp2
                              go_quiet (first | (go_at_call 171; refine Calls.quiet_of_same (less171 _ _ _)))
                              go_wp2
                              go_roundw
                              case rel => exact ⟨j - 1, by congr 1; omega, by omega, by omega, HPj.out.down (by rw [← HG2.out]; exact hl2), HRj.out, HFj.out⟩
                              case measure => simp [intOf] <;> omega
                            | true =>
                              have hz1 := Hz.out (by omega)
                              have hne : i ≠ j := fun e => by subst e; rw [HG2.out] at hl2; rw [hl2] at hz1; cases hz1
                              have hlt : i < j := by omega
                              have hngt : ¬ (j : Int) < (i : Int) := by omega
                              rw [HG2.out] at hl2
                              have HPs := hid (HPj.out.swap hsk hb (by omega) hlt (by omega) hz1 hl2)
                              have Hl2 := hid hl2; have Hz1 := hid hz1
                              clear hl2 hz1 hGa2
                              have hl3 : ltInt (G2 j) p = true := by rw [HG2.out]; exact Hl2.out
                              go_wp2
                              go_quiet (first | (go_at_call 171; refine Calls.quiet_of_same (less171 _ _ _)))
                              go_wp2
                              revert nq; intro nq2
                              have hcw4 : ∀ t, t < n → (wz.drewN nq2).cell? ⟨g, off + t, none⟩ = some (.int .i32 (G2 t)) := hcw2
                              have hfw4 : ∀ t, t < n → (wz.drewN nq2).frozen? ⟨g, off + t, none⟩ = false := hfw2
                              have HR4 : Hid (R32 g off dk (wz.drewN nq2)) := hid HRj.out
                              have HF4 : Hid (FrG g w (wz.drewN nq2)) := hid HFj.out
                              clear hcw2 hfw2 hcwa2
                              generalize wz.drewN nq2 = wy at hcw4 hfw4 HR4 HF4 ⊢
                              go_region
                              go_wp2
                              go_roundw
                              case rel =>
                                simp only [HG2.out]
                                refine ⟨i + 1, j - 1, swp dk i j, by go_num, by congr 1; omega, by omega, by omega, by omega, by rw [size_swp]; exact hsk, ?_, HPs.out, ?_⟩
                                · exact HR4.out.swap i j (by omega) (by omega)
                                · exact FrG.swap (g := g) HF4.out _ _ _ _
                              case measure => simp [intOf] <;> omega
                          · have hjlei : decide ((i : Int) ≤ (j : Int)) = false := by simp; omega
                            have hgt : (j : Int) < (i : Int) := by omega
                            clear hGa2
                            go_wp2
                            go_quiet (first | (go_at_call 171; refine Calls.quiet_of_same (less171 _ _ _)))
                            go_wp2
                            have HPe := hid (PA.finish (j := j) (by have h := HPj.out; rw [show i = j + 1 by omega] at h; exact h) hsk hb (by omega) (by omega))
                            revert nq; intro nq5
                            have hcw5 : ∀ t, t < n → (wz.drewN nq5).cell? ⟨g, off + t, none⟩ = some (.int .i32 (G2 t)) := hcw2
                            have hfw5 : ∀ t, t < n → (wz.drewN nq5).frozen? ⟨g, off + t, none⟩ = false := hfw2
                            have HR5 : Hid (R32 g off dk (wz.drewN nq5)) := hid HRj.out
                            have HF5 : Hid (FrG g w (wz.drewN nq5)) := hid HFj.out
                            clear hcw2 hfw2 hcwa2
                            generalize wz.drewN nq5 = wy at hcw5 hfw5 HR5 HF5 ⊢
                            have hjn : j < n := by omega
                            have han : a < n := by omega
                            by_cases hja : j = a
                            · subst hja
                              go_region
                              all_goals go_wp2
                              all_goals go_ret2
                              all_goals simp only [HG2.out]
                              all_goals exact ⟨j, false, swp dk j j, rfl, by omega, by omega, HR5.out.swap j j (by omega) (by omega), HPe.out, FrG.swap (g := g) HF5.out _ _ _ _⟩
                            · go_region
                              all_goals go_wp2
                              all_goals go_ret2
                              all_goals simp only [HG2.out]
                              all_goals exact ⟨j, false, swp dk (j) a, rfl, by omega, by omega, HR5.out.swap (j) a (by omega) (by omega), HPe.out, FrG.swap (g := g) HF5.out _ _ _ _⟩
                    · have hilei : decide ((i : Int) ≤ (j0 : Int)) = false := by simp; omega
                      go_wp2
                      go_quiet (first | (go_at_call 171; refine Calls.quiet_of_same (less171 _ _ _)))
                      go_wp2
                      clear hcw hfw hcwa hilei
                      go_loopw [11] (fun vj wr => ∃ (j : Nat), vj = .int .i64 j ∧ j ≤ j0 ∧ i ≤ j + 1 ∧ PA a b i j p d dk ∧ R32 g off dk wr ∧ FrG g w wr) (fun vj _ => (intOf vj).toNat)
                      case atStart => exact ⟨j0, rfl, Nat.le_refl _, hi1, HPi.out, HRi.out, HFi.out⟩
                      case round =>
                        generalize wr = wz at *
                        obtain ⟨j, rfl, hj0, hj1, hPj, hRj, hFj⟩ := hrel
                        obtain ⟨G2, hG2, hcw2, hfw2⟩ := hRj.fam hsk
                        have hGa2 : G2 a = p := by rw [hG2]; exact hPj.2.1
                        have hcwa2 : wz.cell? ⟨g, off + a, none⟩ = some (.int .i32 p) := by rw [← hGa2]; exact hcw2 a (by omega)
                        have HRj := hid hRj; have HFj := hid hFj; have HPj := hid hPj; have HG2 := hid hG2
                        clear hRj hFj hPj hG2
                        by_cases hjle : i ≤ j
                        · exact absurd hjle (by omega)
                        · have hjlei : decide ((i : Int) ≤ (j : Int)) = false := by simp; omega
                          have hgt : (j : Int) < (i : Int) := by omega
                          clear hGa2
                          go_wp2
                          go_quiet (first | (go_at_call 171; refine Calls.quiet_of_same (less171 _ _ _)))
                          go_wp2
                          have HPe := hid (PA.finish (j := j) (by have h := HPj.out; rw [show i = j + 1 by omega] at h; exact h) hsk hb (by omega) (by omega))
                          revert nq; intro nq5
                          have hcw5 : ∀ t, t < n → (wz.drewN nq5).cell? ⟨g, off + t, none⟩ = some (.int .i32 (G2 t)) := hcw2
                          have hfw5 : ∀ t, t < n → (wz.drewN nq5).frozen? ⟨g, off + t, none⟩ = false := hfw2
                          have HR5 : Hid (R32 g off dk (wz.drewN nq5)) := hid HRj.out
                          have HF5 : Hid (FrG g w (wz.drewN nq5)) := hid HFj.out
                          clear hcw2 hfw2 hcwa2
                          generalize wz.drewN nq5 = wy at hcw5 hfw5 HR5 HF5 ⊢
                          have hjn : j < n := by omega
                          have han : a < n := by omega
                          by_cases hja : j = a
                          · subst hja
                            go_region
                            all_goals go_wp2
                            all_goals go_ret2
                            all_goals simp only [HG2.out]
                            all_goals exact ⟨j, false, swp dk j j, rfl, by omega, by omega, HR5.out.swap j j (by omega) (by omega), HPe.out, FrG.swap (g := g) HF5.out _ _ _ _⟩
                          · go_region
                            all_goals go_wp2
                            all_goals go_ret2
                            all_goals simp only [HG2.out]
                            all_goals exact ⟨j, false, swp dk (j) a, rfl, by omega, by omega, HR5.out.swap (j) a (by omega) (by omega), HPe.out, FrG.swap (g := g) HF5.out _ _ _ _⟩
            · have hjlei : decide ((i : Int) ≤ (j : Int)) = false := by simp; omega
              have hgt : (j : Int) < (i : Int) := by omega
              clear hGa2
              go_wp2
              go_quiet (first | (go_at_call 171; refine Calls.quiet_of_same (less171 _ _ _)))
              go_wp2
              have HPe := hid (PA.finish (j := j) (by have h := HPj.out; rw [show i = j + 1 by omega] at h; exact h) hsk hb (by omega) (by omega))
              revert nq; intro nq5
              have hcw5 : ∀ t, t < n → (wz.drewN nq5).cell? ⟨g, off + t, none⟩ = some (.int .i32 (G2 t)) := hcw2
              have hfw5 : ∀ t, t < n → (wz.drewN nq5).frozen? ⟨g, off + t, none⟩ = false := hfw2
              have HR5 : Hid (R32 g off d0 (wz.drewN nq5)) := hid HRj.out
              have HF5 : Hid (FrG g w (wz.drewN nq5)) := hid HFj.out
              clear hcw2 hfw2 hcwa2
              generalize wz.drewN nq5 = wy at hcw5 hfw5 HR5 HF5 ⊢
              have hjn : j < n := by omega
              have han : a < n := by omega
              by_cases hja : j = a
              · subst hja
                go_region
                all_goals go_wp2
                all_goals go_ret2
                all_goals simp only [HG2.out]
                all_goals exact ⟨j, true, swp d0 j j, rfl, by omega, by omega, HR5.out.swap j j (by omega) (by omega), HPe.out, FrG.swap (g := g) HF5.out _ _ _ _⟩
              · go_region
                all_goals go_wp2
                all_goals go_ret2
                all_goals simp only [HG2.out]
                all_goals exact ⟨j, true, swp d0 (j) a, rfl, by omega, by omega, HR5.out.swap (j) a (by omega) (by omega), HPe.out, FrG.swap (g := g) HF5.out _ _ _ _⟩
      · have hilei : decide ((i : Int) ≤ (j0 : Int)) = false := by simp; omega
        go_wp2
        go_quiet (first | (go_at_call 171; refine Calls.quiet_of_same (less171 _ _ _)))
        go_wp2
        clear hcw hfw hcwa hilei
        go_loopw [11] (fun vj wr => ∃ (j : Nat), vj = .int .i64 j ∧ j ≤ j0 ∧ i ≤ j + 1 ∧ PA a b i j p d d0 ∧ R32 g off d0 wr ∧ FrG g w wr) (fun vj _ => (intOf vj).toNat)
        case atStart => exact ⟨j0, rfl, Nat.le_refl _, hi1, HPi.out, HRi.out, HFi.out⟩
        case round =>
          generalize wr = wz at *
          obtain ⟨j, rfl, hj0, hj1, hPj, hRj, hFj⟩ := hrel
          obtain ⟨G2, hG2, hcw2, hfw2⟩ := hRj.fam hsk
          have hGa2 : G2 a = p := by rw [hG2]; exact hPj.2.1
          have hcwa2 : wz.cell? ⟨g, off + a, none⟩ = some (.int .i32 p) := by rw [← hGa2]; exact hcw2 a (by omega)
          have HRj := hid hRj; have HFj := hid hFj; have HPj := hid hPj; have HG2 := hid hG2
          clear hRj hFj hPj hG2
          by_cases hjle : i ≤ j
          · exact absurd hjle (by omega)
          · have hjlei : decide ((i : Int) ≤ (j : Int)) = false := by simp; omega
            have hgt : (j : Int) < (i : Int) := by omega
            clear hGa2
            go_wp2
            go_quiet (first | (go_at_call 171; refine Calls.quiet_of_same (less171 _ _ _)))
            go_wp2
            have HPe := hid (PA.finish (j := j) (by have h := HPj.out; rw [show i = j + 1 by omega] at h; exact h) hsk hb (by omega) (by omega))
            revert nq; intro nq5
            have hcw5 : ∀ t, t < n → (wz.drewN nq5).cell? ⟨g, off + t, none⟩ = some (.int .i32 (G2 t)) := hcw2
            have hfw5 : ∀ t, t < n → (wz.drewN nq5).frozen? ⟨g, off + t, none⟩ = false := hfw2
            have HR5 : Hid (R32 g off d0 (wz.drewN nq5)) := hid HRj.out
            have HF5 : Hid (FrG g w (wz.drewN nq5)) := hid HFj.out
            clear hcw2 hfw2 hcwa2
            generalize wz.drewN nq5 = wy at hcw5 hfw5 HR5 HF5 ⊢
            have hjn : j < n := by omega
            have han : a < n := by omega
            by_cases hja : j = a
            · subst hja
              go_region
              all_goals go_wp2
              all_goals go_ret2
              all_goals simp only [HG2.out]
              all_goals exact ⟨j, true, swp d0 j j, rfl, by omega, by omega, HR5.out.swap j j (by omega) (by omega), HPe.out, FrG.swap (g := g) HF5.out _ _ _ _⟩
            · go_region
              all_goals go_wp2
              all_goals go_ret2
              all_goals simp only [HG2.out]
              all_goals exact ⟨j, true, swp d0 (j) a, rfl, by omega, by omega, HR5.out.swap (j) a (by omega) (by omega), HPe.out, FrG.swap (g := g) HF5.out _ _ _ _⟩
  · go_region
    go_wp2
    have HR1 : Hid (R32 g off d0 ((w.setCell ⟨g, off + a, none⟩ (.int .i32 (G0 pivot))).setCell ⟨g, off + pivot, none⟩ (.int .i32 (G0 a))).drew) := hid HR0.out
    have HF1 : Hid (FrG g w ((w.setCell ⟨g, off + a, none⟩ (.int .i32 (G0 pivot))).setCell ⟨g, off + pivot, none⟩ (.int .i32 (G0 a))).drew) := hid HF0.out
    generalize ((w.setCell ⟨g, off + a, none⟩ (.int .i32 (G0 pivot))).setCell ⟨g, off + pivot, none⟩ (.int .i32 (G0 a))).drew = W0 at *
    clear HR0 HF0 hcw hfw
    generalize G0 pivot = p at *
    have hab1 : a + 1 ≤ b := by omega
    obtain ⟨j0, hj0e⟩ : ∃ j0, b - 1 = j0 := ⟨_, rfl⟩
    have hj0b : ((b : Int) - 1) = (j0 : Int) := by omega
    have hj0b2 : j0 < b ∧ b ≤ j0 + 1 := by omega
    obtain ⟨i0, hi0e⟩ : ∃ i0, a + 1 = i0 := ⟨_, rfl⟩
    have hi0a : ((a : Int) + 1) = (i0 : Int) := by omega
    have hi0a2 : a < i0 ∧ i0 ≤ a + 1 := by omega
    rw [hj0e, hi0e] at HPE0
    clear hj0e hi0e
    rw [hj0b, hi0a]
    have hsk := hs0
    go_loopw [10] (fun vi wr => ∃ (i : Nat), vi = .int .i64 i ∧ i0 ≤ i ∧ i ≤ j0 + 1 ∧ PA a b i j0 p d d0 ∧ R32 g off d0 wr ∧ FrG g w wr) (fun vi _ => (j0 + 1 - (intOf vi).toNat))
    case atStart => exact ⟨i0, rfl, Nat.le_refl _, by omega, HPE0.out, HR1.out, HF1.out⟩
    case round =>
      generalize wr = wx at *
      obtain ⟨i, rfl, hi0, hi1, hPi, hRi, hFi⟩ := hrel
      obtain ⟨G, hG, hcw, hfw⟩ := hRi.fam hsk
      have hGa : G a = p := by rw [hG]; exact hPi.2.1
      have hcwa : wx.cell? ⟨g, off + a, none⟩ = some (.int .i32 p) := by rw [← hGa]; exact hcw a (by omega)
      have HRi := hid hRi; have HFi := hid hFi; have HPi := hid hPi; have HG := hid hG
      clear hRi hFi hPi hG hGa
      by_cases hile : i ≤ j0
      · have hilei : (i : Int) ≤ (j0 : Int) := by omega
        cases hl : ltInt (G i) p with
        | true =>
          go_wp2
          go_quiet (first | (go_at_call 171; refine Calls.quiet_of_same (less171 _ _ _)))
          go_wp2
          go_roundw
          case rel => exact ⟨i + 1, by go_num, by omega, by omega, HPi.out.up (by rw [← HG.out]; exact hl), HRi.out, HFi.out⟩
          case measure => simp [intOf] <;> omega
        | false =>
          have Hz : Hid (i ≤ j0 → ltInt d0[i]! p = false) := hid (fun _ => by rw [← HG.out]; exact hl)
          go_wp2
          go_quiet (first | (go_at_call 171; refine Calls.quiet_of_same (less171 _ _ _)))
          go_wp2
          clear hcw hfw hcwa hl
          go_loopw [11] (fun vj wr => ∃ (j : Nat), vj = .int .i64 j ∧ j ≤ j0 ∧ i ≤ j + 1 ∧ PA a b i j p d d0 ∧ R32 g off d0 wr ∧ FrG g w wr) (fun vj _ => (intOf vj).toNat)
          case atStart => exact ⟨j0, rfl, Nat.le_refl _, hi1, HPi.out, HRi.out, HFi.out⟩
          case round =>
            generalize wr = wz at *
            obtain ⟨j, rfl, hj0, hj1, hPj, hRj, hFj⟩ := hrel
            obtain ⟨G2, hG2, hcw2, hfw2⟩ := hRj.fam hsk
            have hGa2 : G2 a = p := by rw [hG2]; exact hPj.2.1
            have hcwa2 : wz.cell? ⟨g, off + a, none⟩ = some (.int .i32 p) := by rw [← hGa2]; exact hcw2 a (by omega)
            have HRj := hid hRj; have HFj := hid hFj; have HPj := hid hPj; have HG2 := hid hG2
            clear hRj hFj hPj hG2
            by_cases hjle : i ≤ j
            · have hjlei : (i : Int) ≤ (j : Int) := by omega
              cases hl2 : ltInt (G2 j) p with
              | false =>
                clear hGa2
                go_wp2
                go_quiet (first | (go_at_call 171; refine Calls.quiet_of_same (less171 _ _ _)))
                go_wp2
                go_roundw
                case rel => exact ⟨j - 1, by congr 1; omega, by omega, by omega, HPj.out.down (by rw [← HG2.out]; exact hl2), HRj.out, HFj.out⟩
                case measure => simp [intOf] <;> omega
              | true =>
                have hz1 := Hz.out (by omega)
                have hne : i ≠ j := fun e => by subst e; rw [HG2.out] at hl2; rw [hl2] at hz1; cases hz1
                have hlt : i < j := by omega
                have hngt : ¬ (j : Int) < (i : Int) := by omega
                rw [HG2.out] at hl2
                have HPs := hid (HPj.out.swap hsk hb (by omega) hlt (by omega) hz1 hl2)
                have Hl2 := hid hl2; have Hz1 := hid hz1
                clear hl2 hz1 hGa2
                have hl3 : ltInt (G2 j) p = true := by rw [HG2.out]; exact Hl2.out
                go_wp2
                go_quiet (first | (go_at_call 171; refine Calls.quiet_of_same (less171 _ _ _)))
                go_wp2
                revert nq; intro nq2
                have hcw4 : ∀ t, t < n → (wz.drewN nq2).cell? ⟨g, off + t, none⟩ = some (.int .i32 (G2 t)) := hcw2
                have hfw4 : ∀ t, t < n → (wz.drewN nq2).frozen? ⟨g, off + t, none⟩ = false := hfw2
                have HR4 : Hid (R32 g off d0 (wz.drewN nq2)) := hid HRj.out
                have HF4 : Hid (FrG g w (wz.drewN nq2)) := hid HFj.out
                clear hcw2 hfw2 hcwa2
                generalize wz.drewN nq2 = wy at hcw4 hfw4 HR4 HF4 ⊢
                go_region
                go_wp2
                have HR6 : Hid (R32 g off (swp d0 i j) (((wy.setCell ⟨g, off + i, none⟩ (.int .i32 (G2 j))).setCell ⟨g, off + j, none⟩ (.int .i32 (G2 i))).drew)) := hid (by simp only [HG2.out]; exact HR4.out.swap i j (by omega) (by omega))
                have HF6 : Hid (FrG g w (((wy.setCell ⟨g, off + i, none⟩ (.int .i32 (G2 j))).setCell ⟨g, off + j, none⟩ (.int .i32 (G2 i))).drew)) := hid (FrG.swap (g := g) HF4.out _ _ _ _)
                generalize ((wy.setCell ⟨g, off + i, none⟩ (.int .i32 (G2 j))).setCell ⟨g, off + j, none⟩ (.int .i32 (G2 i))).drew = W6 at *
                have hs6 : (swp d0 i j).size = n := by rw [size_swp]; exact hs0
                generalize swp d0 i j = d6 at *
                clear hcw4 hfw4 HR4 HF4 hl3
                have hdec : decide (j < i) = false := by simp; omega
                rw [hdec]
                clear hdec
                go_loopw [10, 11] (fun vi vj wr => ∃ (i j : Nat) (dk : Array Int), vi = .int .i64 i ∧ vj = .int .i64 j ∧ a < i ∧ i ≤ j + 1 ∧ j < b ∧ dk.size = n ∧ R32 g off dk wr ∧ PA a b i j p d dk ∧ FrG g w wr) (fun vi vj _ => (intOf vj + 1 - intOf vi).toNat)
                case atStart => exact ⟨i + 1, j - 1, d6, by go_num, by congr 1; omega, by omega, by omega, by omega, hs6, HR6.out, HPs.out, HF6.out⟩
                case round =>
                  clear hsk
                  obtain ⟨i0, j0, dk, rfl, rfl, hai, hij, hjb, hsk, hRk, hPk, hFk⟩ := hrel
                  have HRk := hid hRk; have HFk := hid hFk; have HPk := hid hPk
                  clear hRk hFk hPk
                  generalize wr = wq at *
                  go_wp2
                  go_loopw [10] (fun vi wr => ∃ (i : Nat), vi = .int .i64 i ∧ i0 ≤ i ∧ i ≤ j0 + 1 ∧ PA a b i j0 p d dk ∧ R32 g off dk wr ∧ FrG g w wr) (fun vi _ => (j0 + 1 - (intOf vi).toNat))
                  case atStart => exact ⟨i0, rfl, Nat.le_refl _, hij, HPk.out, HRk.out, HFk.out⟩
                  case round =>
                    generalize wr = wx at *
                    obtain ⟨i, rfl, hi0, hi1, hPi, hRi, hFi⟩ := hrel
                    obtain ⟨G, hG, hcw, hfw⟩ := hRi.fam hsk
                    have hGa : G a = p := by rw [hG]; exact hPi.2.1
                    have hcwa : wx.cell? ⟨g, off + a, none⟩ = some (.int .i32 p) := by rw [← hGa]; exact hcw a (by omega)
                    have HRi := hid hRi; have HFi := hid hFi; have HPi := hid hPi; have HG := hid hG
                    clear hRi hFi hPi hG hGa
                    by_cases hile : i ≤ j0
                    · have hilei : (i : Int) ≤ (j0 : Int) := by omega
                      cases hl : ltInt (G i) p with
                      | true =>
                        go_wp2
                        go_quiet (first | (go_at_call 171; refine Calls.quiet_of_same (less171 _ _ _)))
                        go_wp2
                        go_roundw
                        case rel => exact ⟨i + 1, by go_num, by omega, by omega, HPi.out.up (by rw [← HG.out]; exact hl), HRi.out, HFi.out⟩
                        case measure => simp [intOf] <;> omega
                      | false =>
                        have Hz : Hid (i ≤ j0 → ltInt dk[i]! p = false) := hid (fun _ => by rw [← HG.out]; exact hl)
                        go_wp2
                        go_quiet (first | (go_at_call 171; refine Calls.quiet_of_same (less171 _ _ _)))
                        go_wp2
                        clear hcw hfw hcwa hl
                        go_loopw [11] (fun vj wr => ∃ (j : Nat), vj = .int .i64 j ∧ j ≤ j0 ∧ i ≤ j + 1 ∧ PA a b i j p d dk ∧ R32 g off dk wr ∧ FrG g w wr) (fun vj _ => (intOf vj).toNat)
                        case atStart => exact ⟨j0, rfl, Nat.le_refl _, hi1, HPi.out, HRi.out, HFi.out⟩
                        case round =>
                          generalize wr = wz at *
                          obtain ⟨j, rfl, hj0, hj1, hPj, hRj, hFj⟩ := hrel
                          obtain ⟨G2, hG2, hcw2, hfw2⟩ := hRj.fam hsk
                          have hGa2 : G2 a = p := by rw [hG2]; exact hPj.2.1
                          have hcwa2 : wz.cell? ⟨g, off + a, none⟩ = some (.int .i32 p) := by rw [← hGa2]; exact hcw2 a (by omega)
                          have HRj := hid hRj; have HFj := hid hFj; have HPj := hid hPj; have HG2 := hid hG2
                          clear hRj hFj hPj hG2
                          by_cases hjle : i ≤ j
                          · have hjlei : (i : Int) ≤ (j : Int) := by omega
                            cases hl2 : ltInt (G2 j) p with
                            | false =>
                              clear hGa2
                              go_wp2
                              go_quiet (first | (go_at_call 171; refine Calls.quiet_of_same (less171 _ _ _)))
                              go_wp2
                              go_roundw
                              case rel => exact ⟨j - 1, by congr 1; omega, by omega, by omega, HPj.out.down (by rw [← HG2.out]; exact hl2), HRj.out, HFj.out⟩
                              case measure => simp [intOf] <;> omega
                            | true =>
                              have hz1 := Hz.out (by omega)
                              have hne : i ≠ j := fun e => by subst e; rw [HG2.out] at hl2; rw [hl2] at hz1; cases hz1
                              have hlt : i < j := by omega
                              have hngt : ¬ (j : Int) < (i : Int) := by omega
                              rw [HG2.out] at hl2
                              have HPs := hid (HPj.out.swap hsk hb (by omega) hlt (by omega) hz1 hl2)
                              have Hl2 := hid hl2; have Hz1 := hid hz1
                              clear hl2 hz1 hGa2
                              have hl3 : ltInt (G2 j) p = true := by rw [HG2.out]; exact Hl2.out
                              go_wp2
                              go_quiet (first | (go_at_call 171; refine Calls.quiet_of_same (less171 _ _ _)))
                              go_wp2
                              revert nq; intro nq2
                              have hcw4 : ∀ t, t < n → (wz.drewN nq2).cell? ⟨g, off + t, none⟩ = some (.int .i32 (G2 t)) := hcw2
                              have hfw4 : ∀ t, t < n → (wz.drewN nq2).frozen? ⟨g, off + t, none⟩ = false := hfw2
                              have HR4 : Hid (R32 g off dk (wz.drewN nq2)) := hid HRj.out
                              have HF4 : Hid (FrG g w (wz.drewN nq2)) := hid HFj.out
                              clear hcw2 hfw2 hcwa2
                              generalize wz.drewN nq2 = wy at hcw4 hfw4 HR4 HF4 ⊢
                              go_region
                              go_wp2
                              go_roundw
                              case rel =>
                                simp only [HG2.out]
                                refine ⟨i + 1, j - 1, swp dk i j, by go_num, by congr 1; omega, by omega, by omega, by omega, by rw [size_swp]; exact hsk, ?_, HPs.out, ?_⟩
                                · exact HR4.out.swap i j (by omega) (by omega)
                                · exact FrG.swap (g := g) HF4.out _ _ _ _
                              case measure => simp [intOf] <;> omega
                          · have hjlei : decide ((i : Int) ≤ (j : Int)) = false := by simp; omega
                            have hgt : (j : Int) < (i : Int) := by omega
                            clear hGa2
                            go_wp2
                            go_quiet (first | (go_at_call 171; refine Calls.quiet_of_same (less171 _ _ _)))
                            go_wp2
                            have HPe := hid (PA.finish (j := j) (by have h := HPj.out; rw [show i = j + 1 by omega] at h; exact h) hsk hb (by omega) (by omega))
                            revert nq; intro nq5
                            have hcw5 : ∀ t, t < n → (wz.drewN nq5).cell? ⟨g, off + t, none⟩ = some (.int .i32 (G2 t)) := hcw2
                            have hfw5 : ∀ t, t < n → (wz.drewN nq5).frozen? ⟨g, off + t, none⟩ = false := hfw2
                            have HR5 : Hid (R32 g off dk (wz.drewN nq5)) := hid HRj.out
                            have HF5 : Hid (FrG g w (wz.drewN nq5)) := hid HFj.out
                            clear hcw2 hfw2 hcwa2
                            generalize wz.drewN nq5 = wy at hcw5 hfw5 HR5 HF5 ⊢
                            have hjn : j < n := by omega
                            have han : a < n := by omega
                            by_cases hja : j = a
                            · subst hja
                              go_region
                              all_goals go_wp2
                              all_goals go_ret2
                              all_goals simp only [HG2.out]
                              all_goals exact ⟨j, false, swp dk j j, rfl, by omega, by omega, HR5.out.swap j j (by omega) (by omega), HPe.out, FrG.swap (g := g) HF5.out _ _ _ _⟩
                            · go_region
                              all_goals go_wp2
                              all_goals go_ret2
                              all_goals simp only [HG2.out]
                              all_goals exact ⟨j, false, swp dk (j) a, rfl, by omega, by omega, HR5.out.swap (j) a (by omega) (by omega), HPe.out, FrG.swap (g := g) HF5.out _ _ _ _⟩
                    · have hilei : decide ((i : Int) ≤ (j0 : Int)) = false := by simp; omega
                      go_wp2
                      go_quiet (first | (go_at_call 171; refine Calls.quiet_of_same (less171 _ _ _)))
                      go_wp2
                      clear hcw hfw hcwa hilei
                      go_loopw [11] (fun vj wr => ∃ (j : Nat), vj = .int .i64 j ∧ j ≤ j0 ∧ i ≤ j + 1 ∧ PA a b i j p d dk ∧ R32 g off dk wr ∧ FrG g w wr) (fun vj _ => (intOf vj).toNat)
                      case atStart => exact ⟨j0, rfl, Nat.le_refl _, hi1, HPi.out, HRi.out, HFi.out⟩
                      case round =>
                        generalize wr = wz at *
                        obtain ⟨j, rfl, hj0, hj1, hPj, hRj, hFj⟩ := hrel
                        obtain ⟨G2, hG2, hcw2, hfw2⟩ := hRj.fam hsk
                        have hGa2 : G2 a = p := by rw [hG2]; exact hPj.2.1
                        have hcwa2 : wz.cell? ⟨g, off + a, none⟩ = some (.int .i32 p) := by rw [← hGa2]; exact hcw2 a (by omega)
                        have HRj := hid hRj; have HFj := hid hFj; have HPj := hid hPj; have HG2 := hid hG2
                        clear hRj hFj hPj hG2
                        by_cases hjle : i ≤ j
                        · exact absurd hjle (by omega)
                        · have hjlei : decide ((i : Int) ≤ (j : Int)) = false := by simp; omega
                          have hgt : (j : Int) < (i : Int) := by omega
                          clear hGa2
                          go_wp2
                          go_quiet (first | (go_at_call 171; refine Calls.quiet_of_same (less171 _ _ _)))
                          go_wp2
                          have HPe := hid (PA.finish (j := j) (by have h := HPj.out; rw [show i = j + 1 by omega] at h; exact h) hsk hb (by omega) (by omega))
                          revert nq; intro nq5
                          have hcw5 : ∀ t, t < n → (wz.drewN nq5).cell? ⟨g, off + t, none⟩ = some (.int .i32 (G2 t)) := hcw2
                          have hfw5 : ∀ t, t < n → (wz.drewN nq5).frozen? ⟨g, off + t, none⟩ = false := hfw2
                          have HR5 : Hid (R32 g off dk (wz.drewN nq5)) := hid HRj.out
                          have HF5 : Hid (FrG g w (wz.drewN nq5)) := hid HFj.out
                          clear hcw2 hfw2 hcwa2
                          generalize wz.drewN nq5 = wy at hcw5 hfw5 HR5 HF5 ⊢
                          have hjn : j < n := by omega
                          have han : a < n := by omega
                          by_cases hja : j = a
                          · subst hja
                            go_region
                            all_goals go_wp2
                            all_goals go_ret2
                            all_goals simp only [HG2.out]
                            all_goals exact ⟨j, false, swp dk j j, rfl, by omega, by omega, HR5.out.swap j j (by omega) (by omega), HPe.out, FrG.swap (g := g) HF5.out _ _ _ _⟩
                          · go_region
                            all_goals go_wp2
                            all_goals go_ret2
                            all_goals simp only [HG2.out]
                            all_goals exact ⟨j, false, swp dk (j) a, rfl, by omega, by omega, HR5.out.swap (j) a (by omega) (by omega), HPe.out, FrG.swap (g := g) HF5.out _ _ _ _⟩
            · have hjlei : decide ((i : Int) ≤ (j : Int)) = false := by simp; omega
              have hgt : (j : Int) < (i : Int) := by omega
              clear hGa2
              go_wp2
              go_quiet (first | (go_at_call 171; refine Calls.quiet_of_same (less171 _ _ _)))
              go_wp2
              have HPe := hid (PA.finish (j := j) (by have h := HPj.out; rw [show i = j + 1 by omega] at h; exact h) hsk hb (by omega) (by omega))
              revert nq; intro nq5
              have hcw5 : ∀ t, t < n → (wz.drewN nq5).cell? ⟨g, off + t, none⟩ = some (.int .i32 (G2 t)) := hcw2
              have hfw5 : ∀ t, t < n → (wz.drewN nq5).frozen? ⟨g, off + t, none⟩ = false := hfw2
              have HR5 : Hid (R32 g off d0 (wz.drewN nq5)) := hid HRj.out
              have HF5 : Hid (FrG g w (wz.drewN nq5)) := hid HFj.out
              clear hcw2 hfw2 hcwa2
              generalize wz.drewN nq5 = wy at hcw5 hfw5 HR5 HF5 ⊢
              have hjn : j < n := by omega
              have han : a < n := by omega
              by_cases hja : j = a
              · subst hja
                go_region
                all_goals go_wp2
                all_goals go_ret2
                all_goals simp only [HG2.out]
                all_goals exact ⟨j, true, swp d0 j j, rfl, by omega, by omega, HR5.out.swap j j (by omega) (by omega), HPe.out, FrG.swap (g := g) HF5.out _ _ _ _⟩
              · go_region
                all_goals go_wp2
                all_goals go_ret2
                all_goals simp only [HG2.out]
                all_goals exact ⟨j, true, swp d0 (j) a, rfl, by omega, by omega, HR5.out.swap (j) a (by omega) (by omega), HPe.out, FrG.swap (g := g) HF5.out _ _ _ _⟩
      · have hilei : decide ((i : Int) ≤ (j0 : Int)) = false := by simp; omega
        go_wp2
        go_quiet (first | (go_at_call 171; refine Calls.quiet_of_same (less171 _ _ _)))
        go_wp2
        clear hcw hfw hcwa hilei
        go_loopw [11] (fun vj wr => ∃ (j : Nat), vj = .int .i64 j ∧ j ≤ j0 ∧ i ≤ j + 1 ∧ PA a b i j p d d0 ∧ R32 g off d0 wr ∧ FrG g w wr) (fun vj _ => (intOf vj).toNat)
        case atStart => exact ⟨j0, rfl, Nat.le_refl _, hi1, HPi.out, HRi.out, HFi.out⟩
        case round =>
          generalize wr = wz at *
          obtain ⟨j, rfl, hj0, hj1, hPj, hRj, hFj⟩ := hrel
          obtain ⟨G2, hG2, hcw2, hfw2⟩ := hRj.fam hsk
          have hGa2 : G2 a = p := by rw [hG2]; exact hPj.2.1
          have hcwa2 : wz.cell? ⟨g, off + a, none⟩ = some (.int .i32 p) := by rw [← hGa2]; exact hcw2 a (by omega)
          have HRj := hid hRj; have HFj := hid hFj; have HPj := hid hPj; have HG2 := hid hG2
          clear hRj hFj hPj hG2
          by_cases hjle : i ≤ j
          · exact absurd hjle (by omega)
          · have hjlei : decide ((i : Int) ≤ (j : Int)) = false := by simp; omega
            have hgt : (j : Int) < (i : Int) := by omega
            clear hGa2
            go_wp2
            go_quiet (first | (go_at_call 171; refine Calls.quiet_of_same (less171 _ _ _)))
            go_wp2
            have HPe := hid (PA.finish (j := j) (by have h := HPj.out; rw [show i = j + 1 by omega] at h; exact h) hsk hb (by omega) (by omega))
            revert nq; intro nq5
            have hcw5 : ∀ t, t < n → (wz.drewN nq5).cell? ⟨g, off + t, none⟩ = some (.int .i32 (G2 t)) := hcw2
            have hfw5 : ∀ t, t < n → (wz.drewN nq5).frozen? ⟨g, off + t, none⟩ = false := hfw2
            have HR5 : Hid (R32 g off d0 (wz.drewN nq5)) := hid HRj.out
            have HF5 : Hid (FrG g w (wz.drewN nq5)) := hid HFj.out
            clear hcw2 hfw2 hcwa2
            generalize wz.drewN nq5 = wy at hcw5 hfw5 HR5 HF5 ⊢
            have hjn : j < n := by omega
            have han : a < n := by omega
            by_cases hja : j = a
            · subst hja
              go_region
              all_goals go_wp2
              all_goals go_ret2
              all_goals simp only [HG2.out]
              all_goals exact ⟨j, true, swp d0 j j, rfl, by omega, by omega, HR5.out.swap j j (by omega) (by omega), HPe.out, FrG.swap (g := g) HF5.out _ _ _ _⟩
            · go_region
              all_goals go_wp2
              all_goals go_ret2
              all_goals simp only [HG2.out]
              all_goals exact ⟨j, true, swp d0 (j) a, rfl, by omega, by omega, HR5.out.swap (j) a (by omega) (by omega), HPe.out, FrG.swap (g := g) HF5.out _ _ _ _⟩
end Go.Proofs.YbulkchuuGreatDoor
