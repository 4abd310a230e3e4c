import Derived.Test.YbulkchuuGreatDoorS4
namespace Go.Proofs.YbulkchuuGreatDoor
open Go.RowKit
open Go.Sort (swp ltInt size_swp PermIn)
set_option linter.unusedVariables false
set_option linter.unusedSimpArgs false
set_option maxRecDepth 100000

/-- between the two scans of partitionEqual -/
def PE (a b i j : Nat) (p : Int) (d dk : Array Int) : Prop :=
  PermIn a b d dk ∧ dk[a]! = p ∧ (∀ t, a ≤ t → t < i → ltInt p dk[t]! = false) ∧ ∀ t, j < t → t < b → ltInt p dk[t]! = true
theorem PE.swap {a b i j n : Nat} {p : Int} {d dk : Array Int} (h : PE a b i j p d dk) (hs : dk.size = n) (hb : b ≤ n) (hai : a < i) (hij : i < j) (hjb : j < b) (h1 : ltInt p dk[i]! = true) (h2 : ltInt p dk[j]! = false) : PE a b (i + 1) (j - 1) p d (swp dk i j) := by
  obtain ⟨hP, ha, hl, hr⟩ := h
  have hg := fun k => Go.Sort.swp_get dk (i := i) (j := j) (by omega) (by omega) k
  refine ⟨Go.Sort.permIn_trans d dk _ a b hP (Go.Sort.swp_permIn dk a b i j (by omega) (by omega) (by omega) (by omega) (by omega)), ?_, fun t ht1 ht2 => ?_, fun t ht1 ht2 => ?_⟩
  · rw [hg, if_neg (by omega), if_neg (by omega)]; exact ha
  · rw [hg]
    by_cases e : t = i
    · rw [if_neg (by omega), if_pos e]; exact h2
    · rw [if_neg (by omega), if_neg e]; exact hl t ht1 (by omega)
  · rw [hg]
    by_cases e : t = j
    · rw [if_pos e]; exact h1
    · rw [if_neg e, if_neg (by omega)]; exact hr t (by omega) ht2
theorem PE.up {a b i j : Nat} {p : Int} {d dk : Array Int} (h : PE a b i j p d dk) (h1 : ltInt p dk[i]! = false) : PE a b (i + 1) j p d dk := by
  obtain ⟨hP, ha, hl, hr⟩ := h
  refine ⟨hP, ha, fun t ht1 ht2 => ?_, hr⟩
  by_cases e : t = i
  · subst e; exact h1
  · exact hl t ht1 (by omega)
theorem PE.down {a b i j : Nat} {p : Int} {d dk : Array Int} (h : PE a b i j p d dk) (h1 : ltInt p dk[j]! = true) : PE a b i (j - 1) p d dk := by
  obtain ⟨hP, ha, hl, hr⟩ := h
  refine ⟨hP, ha, hl, fun t ht1 ht2 => ?_⟩
  by_cases e : t = j
  · subst e; exact h1
  · exact hr t (by omega) ht2
theorem PE.start {a b pivot n : Nat} {d : Array Int} (hn : d.size = n) (hb : b ≤ n) (hap : a ≤ pivot) (hpb : pivot < b) : PE a b (a + 1) (b - 1) d[pivot]! d (swp d a pivot) := by
  have hg := fun k => Go.Sort.swp_get d (i := a) (j := pivot) (by omega) (by omega) k
  have ha : (swp d a pivot)[a]! = d[pivot]! := by
    rw [hg]
    by_cases e : a = pivot
    · subst e; simp
    · rw [if_neg e, if_pos rfl]
  refine ⟨Go.Sort.swp_permIn d a b a pivot (by omega) (by omega) (by omega) (by omega) (by omega), ha, fun t h1 h2 => ?_, fun t h1 h2 => by omega⟩
  obtain rfl : t = a := by omega
  rw [ha]; simp [ltInt]

def PEPost (g off a b n : Nat) (p : Int) (d : Array Int) (w : World) (e : Ending) (w' : World) : Prop :=
  ∃ (mid : Nat) (d' : Array Int), e = .returned (.int .i64 mid) ∧ a < mid ∧ mid ≤ b ∧ R32 g off d' w' ∧ PermIn a b d d' ∧ (∀ t, a ≤ t → t < mid → ltInt p d'[t]! = false) ∧ (∀ t, mid ≤ t → t < b → ltInt p d'[t]! = true) ∧ FrG g w w'

set_option maxHeartbeats 4000000 in
theorem partEq172 (g off cap n a b pivot : Nat) (d : Array Int) (w : World) (hn : d.size = n) (hR : R32 g off d w) (hap : a ≤ pivot) (hpb : pivot < b) (hb : b ≤ n) (hsz : n < 1000000) :
    Calls Ybaz.prog 172 #[.slice (some ⟨g, off, none⟩) n cap, .int .i64 a, .int .i64 b, .int .i64 pivot] w (PEPost g off a b n d[pivot]! d w) := by
  have hPE0 := PE.start hn hb hap hpb
  have hR0 := hR.swap a pivot (by omega) (by omega)
  have hF0 := FrG.swap (g := g) (Fr.refl (fun k => k = g) w) (off + a) (off + pivot) (.int .i32 d[pivot]!) (.int .i32 d[a]!)
  have hs0 : (swp d a pivot).size = n := by rw [size_swp]; exact hn
  obtain ⟨G0, hG0, hcw, hfw⟩ := hR.fam hn
  generalize swp d a pivot = d0 at *
  rw [← hG0, ← hG0] at hR0 hF0
  rw [← hG0] at hPE0 ⊢
  have HPE0 := hid hPE0; have HR0 := hid hR0; have HF0 := hid hF0
  clear hPE0 hR0 hF0 hR hG0
  go_enter Ybaz.func172, Ybaz.ntmps172
  go_wp2
  by_cases hsame : a = pivot
  · subst hsame
    go_region
    go_wp2
    have HR1 : Hid (R32 g off d0 ((w.setCell ⟨g, off + a, none⟩ (.int .i32 (G0 a))).setCell ⟨g, off + a, none⟩ (.int .i32 (G0 a))).drew) := hid HR0.out
    have HF1 : Hid (FrG g w ((w.setCell ⟨g, off + a, none⟩ (.int .i32 (G0 a))).setCell ⟨g, off + a, none⟩ (.int .i32 (G0 a))).drew) := hid HF0.out
    generalize ((w.setCell ⟨g, off + a, none⟩ (.int .i32 (G0 a))).setCell ⟨g, off + a, none⟩ (.int .i32 (G0 a))).drew = W0 at *
    clear HR0 HF0 hcw hfw
    generalize G0 a = p at *
    have hab1 : a + 1 ≤ b := by omega
    go_loopw [9, 10] (fun vi vj wr => ∃ (i j : Nat) (dk : Array Int), vi = .int .i64 i ∧ vj = .int .i64 j ∧ a < i ∧ i ≤ j + 1 ∧ j < b ∧ dk.size = n ∧ R32 g off dk wr ∧ PE a b i j p d dk ∧ FrG g w wr) (fun vi vj _ => (intOf vj + 1 - intOf vi).toNat)
    case atStart => exact ⟨a + 1, b - 1, d0, by go_num, by congr 1; omega, by omega, by omega, by omega, hs0, HR1.out, HPE0.out, HF1.out⟩
    case round =>
      generalize wr = wq at *
      obtain ⟨i0, j0, dk, rfl, rfl, hai, hij, hjb, hsk, hRk, hPk, hFk⟩ := hrel
      have HRk := hid hRk; have HFk := hid hFk; have HPk := hid hPk
      clear hRk hFk hPk
      go_wp2
      go_loopw [9] (fun vi wr => ∃ (i : Nat), vi = .int .i64 i ∧ i0 ≤ i ∧ i ≤ j0 + 1 ∧ PE a b i j0 p d dk ∧ R32 g off dk wr ∧ FrG g w wr) (fun vi _ => (j0 + 1 - (intOf vi).toNat))
      case atStart => exact ⟨i0, rfl, Nat.le_refl _, hij, HPk.out, HRk.out, HFk.out⟩
      case round =>
        generalize wr = wx at *
        obtain ⟨i, rfl, hi0, hi1, hPi, hRi, hFi⟩ := hrel
        obtain ⟨G, hG, hcw, hfw⟩ := hRi.fam hsk
        have hGa : G a = p := by rw [hG]; exact hPi.2.1
        have hcwa : wx.cell? ⟨g, off + a, none⟩ = some (.int .i32 p) := by rw [← hGa]; exact hcw a (by omega)
        have HRi := hid hRi; have HFi := hid hFi; have HPi := hid hPi; have HG := hid hG
        clear hRi hFi hPi hG
        by_cases hile : i ≤ j0
        · have hilei : (i : Int) ≤ (j0 : Int) := by omega
          cases hl : ltInt p (G i) with
          | false =>
            go_wp2
            go_quiet (first | (go_at_call 171; refine Calls.quiet_of_same (less171 _ _ _)))
            go_wp2
            go_roundw
            case rel => exact ⟨i + 1, by go_num, by omega, by omega, HPi.out.up (by rw [← HG.out]; exact hl), HRi.out, HFi.out⟩
            case measure => simp [intOf] <;> omega
          | true =>
            have Hz : Hid (i ≤ j0 → ltInt p dk[i]! = true) := hid (fun _ => by rw [← HG.out]; exact hl)
            go_wp2
            go_quiet (first | (go_at_call 171; refine Calls.quiet_of_same (less171 _ _ _)))
            go_wp2
            clear hcw hfw hcwa hl hGa
            go_loopw [10] (fun vj wr => ∃ (j : Nat), vj = .int .i64 j ∧ j ≤ j0 ∧ i ≤ j + 1 ∧ PE a b i j p d dk ∧ R32 g off dk wr ∧ FrG g w wr) (fun vj _ => (intOf vj).toNat)
            case atStart => exact ⟨j0, rfl, Nat.le_refl _, hi1, HPi.out, HRi.out, HFi.out⟩
            case round =>
              generalize wr = wz at *
              obtain ⟨j, rfl, hj0, hj1, hPj, hRj, hFj⟩ := hrel
              obtain ⟨G2, hG2, hcw2, hfw2⟩ := hRj.fam hsk
              have hGa2 : G2 a = p := by rw [hG2]; exact hPj.2.1
              have hcwa2 : wz.cell? ⟨g, off + a, none⟩ = some (.int .i32 p) := by rw [← hGa2]; exact hcw2 a (by omega)
              have HRj := hid hRj; have HFj := hid hFj; have HPj := hid hPj; have HG2 := hid hG2
              clear hRj hFj hPj hG2
              by_cases hjle : i ≤ j
              · have hjlei : (i : Int) ≤ (j : Int) := by omega
                cases hl2 : ltInt p (G2 j) with
                | true =>
                  go_wp2
                  go_quiet (first | (go_at_call 171; refine Calls.quiet_of_same (less171 _ _ _)))
                  go_wp2
                  go_roundw
                  case rel => exact ⟨j - 1, by congr 1; omega, by omega, by omega, HPj.out.down (by rw [← HG2.out]; exact hl2), HRj.out, HFj.out⟩
                  case measure => simp [intOf] <;> omega
                | false =>
                  have hz1 := Hz.out (by omega)
                  have hne : i ≠ j := fun e => by subst e; rw [HG2.out] at hl2; rw [hl2] at hz1; cases hz1
                  have hlt : i < j := by omega
                  have hngt : ¬ (j : Int) < (i : Int) := by omega
                  rw [HG2.out] at hl2
                  have HPs := hid (HPj.out.swap hsk hb (by omega) hlt (by omega) hz1 hl2)
                  have Hl2 := hid hl2; have Hz1 := hid hz1
                  clear hl2 hz1
                  have hl3 : ltInt p (G2 j) = false := by rw [HG2.out]; exact Hl2.out
                  go_wp2
                  go_quiet (first | (go_at_call 171; refine Calls.quiet_of_same (less171 _ _ _)))
                  go_wp2
                  revert nq; intro nq2
                  have hcw4 : ∀ t, t < n → (wz.drewN nq2).cell? ⟨g, off + t, none⟩ = some (.int .i32 (G2 t)) := hcw2
                  have hfw4 : ∀ t, t < n → (wz.drewN nq2).frozen? ⟨g, off + t, none⟩ = false := hfw2
                  have HR4 : Hid (R32 g off dk (wz.drewN nq2)) := hid HRj.out
                  have HF4 : Hid (FrG g w (wz.drewN nq2)) := hid HFj.out
                  clear hcw2 hfw2 hcwa2
                  generalize wz.drewN nq2 = wy at hcw4 hfw4 HR4 HF4 ⊢
                  go_region
                  go_wp2
                  go_roundw
                  case rel =>
                    simp only [HG2.out]
                    refine ⟨i + 1, j - 1, swp dk i j, by go_num, by congr 1; omega, by omega, by omega, by omega, by rw [size_swp]; exact hsk, ?_, HPs.out, ?_⟩
                    · exact HR4.out.swap i j (by omega) (by omega)
                    · exact FrG.swap (g := g) HF4.out _ _ _ _
                  case measure => simp [intOf] <;> omega
              · have hjlei : decide ((i : Int) ≤ (j : Int)) = false := by simp; omega
                have hgt : (j : Int) < (i : Int) := by omega
                go_wp2
                go_quiet (first | (go_at_call 171; refine Calls.quiet_of_same (less171 _ _ _)))
                go_wp2
                go_ret
                refine ⟨i, dk, rfl, by omega, by omega, HRj.out, HPj.out.1, HPj.out.2.2.1, fun t h1 h2 => HPj.out.2.2.2 t (by omega) h2, HFj.out⟩
        · have hilei : decide ((i : Int) ≤ (j0 : Int)) = false := by simp; omega
          have Hz : Hid (i ≤ j0 → ltInt p dk[i]! = true) := hid (fun h => absurd h hile)
          go_wp2
          go_quiet (first | (go_at_call 171; refine Calls.quiet_of_same (less171 _ _ _)))
          go_wp2
          clear hcw hfw hcwa hGa hilei
          go_loopw [10] (fun vj wr => ∃ (j : Nat), vj = .int .i64 j ∧ j ≤ j0 ∧ i ≤ j + 1 ∧ PE a b i j p d dk ∧ R32 g off dk wr ∧ FrG g w wr) (fun vj _ => (intOf vj).toNat)
          case atStart => exact ⟨j0, rfl, Nat.le_refl _, hi1, HPi.out, HRi.out, HFi.out⟩
          case round =>
            generalize wr = wz at *
            obtain ⟨j, rfl, hj0, hj1, hPj, hRj, hFj⟩ := hrel
            obtain ⟨G2, hG2, hcw2, hfw2⟩ := hRj.fam hsk
            have hGa2 : G2 a = p := by rw [hG2]; exact hPj.2.1
            have hcwa2 : wz.cell? ⟨g, off + a, none⟩ = some (.int .i32 p) := by rw [← hGa2]; exact hcw2 a (by omega)
            have HRj := hid hRj; have HFj := hid hFj; have HPj := hid hPj; have HG2 := hid hG2
            clear hRj hFj hPj hG2
            by_cases hjle : i ≤ j
            · exact absurd hjle (by omega)
            · have hjlei : decide ((i : Int) ≤ (j : Int)) = false := by simp; omega
              have hgt : (j : Int) < (i : Int) := by omega
              go_wp2
              go_quiet (first | (go_at_call 171; refine Calls.quiet_of_same (less171 _ _ _)))
              go_wp2
              go_ret
              refine ⟨i, dk, rfl, by omega, by omega, HRj.out, HPj.out.1, HPj.out.2.2.1, fun t h1 h2 => HPj.out.2.2.2 t (by omega) h2, HFj.out⟩
  · go_region
    go_wp2
    have HR1 : Hid (R32 g off d0 ((w.setCell ⟨g, off + a, none⟩ (.int .i32 (G0 pivot))).setCell ⟨g, off + pivot, none⟩ (.int .i32 (G0 a))).drew) := hid HR0.out
    have HF1 : Hid (FrG g w ((w.setCell ⟨g, off + a, none⟩ (.int .i32 (G0 pivot))).setCell ⟨g, off + pivot, none⟩ (.int .i32 (G0 a))).drew) := hid HF0.out
    generalize ((w.setCell ⟨g, off + a, none⟩ (.int .i32 (G0 pivot))).setCell ⟨g, off + pivot, none⟩ (.int .i32 (G0 a))).drew = W0 at *
    clear HR0 HF0 hcw hfw
    generalize G0 pivot = p at *
    have hab1 : a + 1 ≤ b := by omega
    go_loopw [9, 10] (fun vi vj wr => ∃ (i j : Nat) (dk : Array Int), vi = .int .i64 i ∧ vj = .int .i64 j ∧ a < i ∧ i ≤ j + 1 ∧ j < b ∧ dk.size = n ∧ R32 g off dk wr ∧ PE a b i j p d dk ∧ FrG g w wr) (fun vi vj _ => (intOf vj + 1 - intOf vi).toNat)
    case atStart => exact ⟨a + 1, b - 1, d0, by go_num, by congr 1; omega, by omega, by omega, by omega, hs0, HR1.out, HPE0.out, HF1.out⟩
    case round =>
      generalize wr = wq at *
      obtain ⟨i0, j0, dk, rfl, rfl, hai, hij, hjb, hsk, hRk, hPk, hFk⟩ := hrel
      have HRk := hid hRk; have HFk := hid hFk; have HPk := hid hPk
      clear hRk hFk hPk
      go_wp2
      go_loopw [9] (fun vi wr => ∃ (i : Nat), vi = .int .i64 i ∧ i0 ≤ i ∧ i ≤ j0 + 1 ∧ PE a b i j0 p d dk ∧ R32 g off dk wr ∧ FrG g w wr) (fun vi _ => (j0 + 1 - (intOf vi).toNat))
      case atStart => exact ⟨i0, rfl, Nat.le_refl _, hij, HPk.out, HRk.out, HFk.out⟩
      case round =>
        generalize wr = wx at *
        obtain ⟨i, rfl, hi0, hi1, hPi, hRi, hFi⟩ := hrel
        obtain ⟨G, hG, hcw, hfw⟩ := hRi.fam hsk
        have hGa : G a = p := by rw [hG]; exact hPi.2.1
        have hcwa : wx.cell? ⟨g, off + a, none⟩ = some (.int .i32 p) := by rw [← hGa]; exact hcw a (by omega)
        have HRi := hid hRi; have HFi := hid hFi; have HPi := hid hPi; have HG := hid hG
        clear hRi hFi hPi hG
        by_cases hile : i ≤ j0
        · have hilei : (i : Int) ≤ (j0 : Int) := by omega
          cases hl : ltInt p (G i) with
          | false =>
            go_wp2
            go_quiet (first | (go_at_call 171; refine Calls.quiet_of_same (less171 _ _ _)))
            go_wp2
            go_roundw
            case rel => exact ⟨i + 1, by go_num, by omega, by omega, HPi.out.up (by rw [← HG.out]; exact hl), HRi.out, HFi.out⟩
            case measure => simp [intOf] <;> omega
          | true =>
            have Hz : Hid (i ≤ j0 → ltInt p dk[i]! = true) := hid (fun _ => by rw [← HG.out]; exact hl)
            go_wp2
            go_quiet (first | (go_at_call 171; refine Calls.quiet_of_same (less171 _ _ _)))
            go_wp2
            clear hcw hfw hcwa hl hGa
            go_loopw [10] (fun vj wr => ∃ (j : Nat), vj = .int .i64 j ∧ j ≤ j0 ∧ i ≤ j + 1 ∧ PE a b i j p d dk ∧ R32 g off dk wr ∧ FrG g w wr) (fun vj _ => (intOf vj).toNat)
            case atStart => exact ⟨j0, rfl, Nat.le_refl _, hi1, HPi.out, HRi.out, HFi.out⟩
            case round =>
              generalize wr = wz at *
              obtain ⟨j, rfl, hj0, hj1, hPj, hRj, hFj⟩ := hrel
              obtain ⟨G2, hG2, hcw2, hfw2⟩ := hRj.fam hsk
              have hGa2 : G2 a = p := by rw [hG2]; exact hPj.2.1
              have hcwa2 : wz.cell? ⟨g, off + a, none⟩ = some (.int .i32 p) := by rw [← hGa2]; exact hcw2 a (by omega)
              have HRj := hid hRj; have HFj := hid hFj; have HPj := hid hPj; have HG2 := hid hG2
              clear hRj hFj hPj hG2
              by_cases hjle : i ≤ j
              · have hjlei : (i : Int) ≤ (j : Int) := by omega
                cases hl2 : ltInt p (G2 j) with
                | true =>
                  go_wp2
                  go_quiet (first | (go_at_call 171; refine Calls.quiet_of_same (less171 _ _ _)))
                  go_wp2
                  go_roundw
                  case rel => exact ⟨j - 1, by congr 1; omega, by omega, by omega, HPj.out.down (by rw [← HG2.out]; exact hl2), HRj.out, HFj.out⟩
                  case measure => simp [intOf] <;> omega
                | false =>
                  have hz1 := Hz.out (by omega)
                  have hne : i ≠ j := fun e => by subst e; rw [HG2.out] at hl2; rw [hl2] at hz1; cases hz1
                  have hlt : i < j := by omega
                  have hngt : ¬ (j : Int) < (i : Int) := by omega
                  rw [HG2.out] at hl2
                  have HPs := hid (HPj.out.swap hsk hb (by omega) hlt (by omega) hz1 hl2)
                  have Hl2 := hid hl2; have Hz1 := hid hz1
                  clear hl2 hz1
                  have hl3 : ltInt p (G2 j) = false := by rw [HG2.out]; exact Hl2.out
                  go_wp2
                  go_quiet (first | (go_at_call 171; refine Calls.quiet_of_same (less171 _ _ _)))
                  go_wp2
                  revert nq; intro nq2
                  have hcw4 : ∀ t, t < n → (wz.drewN nq2).cell? ⟨g, off + t, none⟩ = some (.int .i32 (G2 t)) := hcw2
                  have hfw4 : ∀ t, t < n → (wz.drewN nq2).frozen? ⟨g, off + t, none⟩ = false := hfw2
                  have HR4 : Hid (R32 g off dk (wz.drewN nq2)) := hid HRj.out
                  have HF4 : Hid (FrG g w (wz.drewN nq2)) := hid HFj.out
                  clear hcw2 hfw2 hcwa2
                  generalize wz.drewN nq2 = wy at hcw4 hfw4 HR4 HF4 ⊢
                  go_region
                  go_wp2
                  go_roundw
                  case rel =>
                    simp only [HG2.out]
                    refine ⟨i + 1, j - 1, swp dk i j, by go_num, by congr 1; omega, by omega, by omega, by omega, by rw [size_swp]; exact hsk, ?_, HPs.out, ?_⟩
                    · exact HR4.out.swap i j (by omega) (by omega)
                    · exact FrG.swap (g := g) HF4.out _ _ _ _
                  case measure => simp [intOf] <;> omega
              · have hjlei : decide ((i : Int) ≤ (j : Int)) = false := by simp; omega
                have hgt : (j : Int) < (i : Int) := by omega
                go_wp2
                go_quiet (first | (go_at_call 171; refine Calls.quiet_of_same (less171 _ _ _)))
                go_wp2
                go_ret
                refine ⟨i, dk, rfl, by omega, by omega, HRj.out, HPj.out.1, HPj.out.2.2.1, fun t h1 h2 => HPj.out.2.2.2 t (by omega) h2, HFj.out⟩
        · have hilei : decide ((i : Int) ≤ (j0 : Int)) = false := by simp; omega
          have Hz : Hid (i ≤ j0 → ltInt p dk[i]! = true) := hid (fun h => absurd h hile)
          go_wp2
          go_quiet (first | (go_at_call 171; refine Calls.quiet_of_same (less171 _ _ _)))
          go_wp2
          clear hcw hfw hcwa hGa hilei
          go_loopw [10] (fun vj wr => ∃ (j : Nat), vj = .int .i64 j ∧ j ≤ j0 ∧ i ≤ j + 1 ∧ PE a b i j p d dk ∧ R32 g off dk wr ∧ FrG g w wr) (fun vj _ => (intOf vj).toNat)
          case atStart => exact ⟨j0, rfl, Nat.le_refl _, hi1, HPi.out, HRi.out, HFi.out⟩
          case round =>
            generalize wr = wz at *
            obtain ⟨j, rfl, hj0, hj1, hPj, hRj, hFj⟩ := hrel
            obtain ⟨G2, hG2, hcw2, hfw2⟩ := hRj.fam hsk
            have hGa2 : G2 a = p := by rw [hG2]; exact hPj.2.1
            have hcwa2 : wz.cell? ⟨g, off + a, none⟩ = some (.int .i32 p) := by rw [← hGa2]; exact hcw2 a (by omega)
            have HRj := hid hRj; have HFj := hid hFj; have HPj := hid hPj; have HG2 := hid hG2
            clear hRj hFj hPj hG2
            by_cases hjle : i ≤ j
            · exact absurd hjle (by omega)
            · have hjlei : decide ((i : Int) ≤ (j : Int)) = false := by simp; omega
              have hgt : (j : Int) < (i : Int) := by omega
              go_wp2
              go_quiet (first | (go_at_call 171; refine Calls.quiet_of_same (less171 _ _ _)))
              go_wp2
              go_ret
              refine ⟨i, dk, rfl, by omega, by omega, HRj.out, HPj.out.1, HPj.out.2.2.1, fun t h1 h2 => HPj.out.2.2.2 t (by omega) h2, HFj.out⟩
end Go.Proofs.YbulkchuuGreatDoor
