import Derived.Test.YbulkchuuGreatDoorS2
namespace Go.Proofs.YbulkchuuGreatDoor
open Go.RowKit
open Go.Sort (ltInt)
set_option linter.unusedVariables false
set_option linter.unusedSimpArgs false
set_option maxRecDepth 100000

/-- a counter of the call's own -/
def One (sb : Nat) (s : Int) (w : World) : Prop := w.heap[sb]? = some (.cells #[.int .i64 s] 3 (0, 0))
theorem One.cell {sb : Nat} {s : Int} {w : World} (h : One sb s w) : w.cell? ⟨sb, 0, none⟩ = some (.int .i64 s) := by rw [cell_of h]; rfl
theorem One.set {sb : Nat} {s : Int} {w : World} (h : One sb s w) (t : Int) : One sb t (w.setCell ⟨sb, 0, none⟩ (.int .i64 t)) := by
  unfold One; rw [heap_set h]; rfl
theorem R32.fr {g off : Nat} {d : Array Int} {w w' : World} {S : Nat → Prop} (h : R32 g off d w) (hf : Fr S w w') (hs : ¬ S g) : R32 g off d w' := h.move (hf.block g h.lt hs)

set_option maxHeartbeats 2000000 in
theorem order228 (g off cap n a b sb : Nat) (s : Int) (d : Array Int) (w : World) (hn : d.size = n) (hR : R32 g off d w) (hS : One sb s w) (ha : a < n) (hb : b < n) (hsz : n < 1000000) :
    Calls Ybaz.prog 228 #[.slice (some ⟨g, off, none⟩) n cap, .int .i64 a, .int .i64 b, .pointer (some ⟨sb, 0, none⟩)] w fun e w' => ∃ (x y : Nat) (s' : Int), e = .returned (.tuple #[.int .i64 x, .int .i64 y]) ∧ ((x = a ∧ y = b) ∨ (x = b ∧ y = a)) ∧ One sb s' w' ∧ Fr (fun k => k = sb) w w' := by
  obtain ⟨G, hG, hcw, hfw⟩ := hR.fam hn
  have hc := hS.cell; have hf := frozen_of hS 0
  have HS := hid hS
  clear hR hS hG
  go_enter Ybaz.func228, Ybaz.ntmps228
  go_wp2
  go_quiet (first | (go_at_call 171; refine Calls.quiet_of_same (less171 _ _ _)))
  go_wp2
  · go_ret2
    exact ⟨b, a, _, rfl, .inr ⟨rfl, rfl⟩, HS.out.set _, (Fr.refl _ w).setCell sb 0 _ (.inl rfl)⟩
  · go_ret2
    exact ⟨a, b, s, rfl, .inl ⟨rfl, rfl⟩, HS.out, Fr.refl _ _⟩

set_option maxHeartbeats 2000000 in
theorem median208 (g off cap n a b c sb : Nat) (s : Int) (d : Array Int) (w : World) (hn : d.size = n) (hR : R32 g off d w) (hS : One sb s w) (hgs : g ≠ sb) (ha : a < n) (hb : b < n) (hc : c < n) (hsz : n < 1000000) :
    Calls Ybaz.prog 208 #[.slice (some ⟨g, off, none⟩) n cap, .int .i64 a, .int .i64 b, .int .i64 c, .pointer (some ⟨sb, 0, none⟩)] w fun e w' => ∃ (x : Nat) (s' : Int), e = .returned (.int .i64 x) ∧ (x = a ∨ x = b ∨ x = c) ∧ One sb s' w' ∧ Fr (fun k => k = sb) w w' := by
  have H := hid (fun (a b : Nat) (s : Int) (w1 : World) (h1 : R32 g off d w1) (h2 : One sb s w1) (h3 : a < n) (h4 : b < n) => order228 g off cap n a b sb s d w1 hn h1 h2 h3 h4 hsz)
  have HR := hid hR; have HS := hid hS
  clear hR hS
  go_enter Ybaz.func208, Ybaz.ntmps208
  go_wp2_with fail
  refine (H.out a b s w HR.out HS.out ha hb).mono ?_
  rintro e w1 ⟨x1, y1, s1, rfl, hxy1, hS1, hF1⟩
  have HR1 := hid (HR.out.fr hF1 hgs); have HS1 := hid hS1; have HF1 := hid hF1; have Hxy1 := hid hxy1
  have hx1 : x1 < n := by omega
  have hy1 : y1 < n := by omega
  clear hS1 hF1 hxy1
  go_wp2_with fail
  refine (H.out y1 c s1 w1 HR1.out HS1.out hy1 hc).mono ?_
  rintro e w2 ⟨x2, y2, s2, rfl, hxy2, hS2, hF2⟩
  have HR2 := hid (HR1.out.fr hF2 hgs); have HS2 := hid hS2; have HF2 := hid (HF1.out.trans hF2); have Hxy2 := hid hxy2
  have hx2 : x2 < n := by omega
  have hy2 : y2 < n := by omega
  clear hS2 hF2 hxy2
  go_wp2_with fail
  refine (H.out x1 x2 s2 w2 HR2.out HS2.out hx1 hx2).mono ?_
  rintro e w3 ⟨x3, y3, s3, rfl, hxy3, hS3, hF3⟩
  have HS3 := hid hS3; have HF3 := hid (HF2.out.trans hF3); have Hxy3 := hid hxy3
  clear hS3 hF3 hxy3
  go_wp2
  go_ret
  refine ⟨y3, s3, rfl, ?_, HS3.out, HF3.out⟩
  have := Hxy1.out; have := Hxy2.out; have := Hxy3.out
  omega

set_option maxHeartbeats 2000000 in
theorem adjacent207 (g off cap n a sb : Nat) (s : Int) (d : Array Int) (w : World) (hn : d.size = n) (hR : R32 g off d w) (hS : One sb s w) (hgs : g ≠ sb) (ha : a + 1 < n) (ha0 : 0 < a) (hsz : n < 1000000) :
    Calls Ybaz.prog 207 #[.slice (some ⟨g, off, none⟩) n cap, .int .i64 a, .pointer (some ⟨sb, 0, none⟩)] w fun e w' => ∃ (x : Nat) (s' : Int), e = .returned (.int .i64 x) ∧ (x + 1 = a ∨ x = a ∨ x = a + 1) ∧ One sb s' w' ∧ Fr (fun k => k = sb) w w' := by
  obtain ⟨am, rfl⟩ : ∃ am, a = am + 1 := ⟨a - 1, by omega⟩
  have H := median208 g off cap n am (am + 1) (am + 2) sb s d w hn hR hS hgs (by omega) (by omega) (by omega) hsz
  have HH := hid H
  clear H hR hS
  go_enter Ybaz.func207, Ybaz.ntmps207
  go_wp2_with fail
  refine (HH.out).mono ?_
  rintro e w3 ⟨x, s3, rfl, hx, hS3, hF3⟩
  have HS3 := hid hS3; have HF3 := hid hF3; have Hx := hid hx
  clear hS3 hF3 hx
  go_wp2
  go_ret
  exact ⟨x, s3, rfl, by have := Hx.out; omega, HS3.out, HF3.out⟩

set_option maxHeartbeats 4000000 in
theorem pivot168 (g off cap n a b L : Nat) (d : Array Int) (w : World) (hn : d.size = n) (hR : R32 g off d w) (hL : 12 < L) (hbL : b = a + L) (hb : b ≤ n) (hsz : n < 1000000) :
    Calls Ybaz.prog 168 #[.slice (some ⟨g, off, none⟩) n cap, .int .i64 a, .int .i64 b] w fun e w' => ∃ (x : Nat) (h : Nat), e = .returned (.tuple #[.int .i64 x, .int .i64 h]) ∧ a ≤ x ∧ x < b ∧ h ≤ 2 ∧ Below w.heap.size w w' := by
  have hg := hR.lt
  have hgs : g ≠ w.heap.size := by omega
  have HM := hid (fun (a b c : Nat) (s : Int) (w1 : World) (h1 : R32 g off d w1) (h2 : One w.heap.size s w1) (h3 : a < n) (h4 : b < n) (h5 : c < n) => median208 g off cap n a b c w.heap.size s d w1 hn h1 h2 hgs h3 h4 h5 hsz)
  have HA := hid (fun (a : Nat) (s : Int) (w1 : World) (h1 : R32 g off d w1) (h2 : One w.heap.size s w1) (h3 : a + 1 < n) (h4 : 0 < a) => adjacent207 g off cap n a w.heap.size s d w1 hn h1 h2 hgs h3 h4 hsz)
  have hS0 : One w.heap.size 0 (w.alloc (.cells #[.int .i64 0] 3)) := heap_alloc_new _ _
  have hR0 : R32 g off d (w.alloc (.cells #[.int .i64 0] 3)) := hR.move (Below.heap_alloc _ _ _ hg)
  have hB0 : Below w.heap.size w (w.alloc (.cells #[.int .i64 0] 3)) := (Below.refl _ w).alloc (Nat.le_refl _) _
  have HS0 := hid hS0; have HR0 := hid hR0; have HB0 := hid hB0
  obtain ⟨Q, hQ⟩ : ∃ Q, L / 4 = Q := ⟨_, rfl⟩
  have hba : ((b : Int) - (a : Int)) = (L : Int) := by omega
  have hQ1 : ((L : Int) / 4) = (Q : Int) := by omega
  have hb2 : a + Q * 3 + 3 ≤ b := by omega
  have hQ3 : 3 ≤ Q := by omega
  have hL8 : (8 : Int) ≤ (L : Int) := by omega
  -- the end: the hint by the counter
  clear hS0 hR0 hB0 hR hQ hbL
  by_cases h50 : 50 ≤ L
  · have h50i : (50 : Int) ≤ (L : Int) := by omega
    go_enter Ybaz.func168, Ybaz.ntmps168
    go_wp2_with fail
    generalize w.alloc (.cells #[.int .i64 0] 3) = w0 at *
    have e1 : ((a : Int) + (Q : Int)) = ((a + Q : Nat) : Int) := by omega
    have e2 : ((a : Int) + (Q : Int) * 2) = ((a + Q * 2 : Nat) : Int) := by omega
    have e3 : ((a : Int) + (Q : Int) * 3) = ((a + Q * 3 : Nat) : Int) := by omega
    rw [e1, e2, e3]
    obtain ⟨I, hI⟩ : ∃ I, a + Q = I := ⟨_, rfl⟩
    obtain ⟨J, hJ⟩ : ∃ J, a + Q * 2 = J := ⟨_, rfl⟩
    obtain ⟨K, hK⟩ : ∃ K, a + Q * 3 = K := ⟨_, rfl⟩
    rw [hI, hJ, hK]
    have hIJK : a < I ∧ I + 1 < J ∧ J + 1 < K ∧ K + 1 < b := by omega
    clear e1 e2 e3 hI hJ hK hb2
    refine (HA.out I 0 w0 HR0.out HS0.out (by omega) (by omega)).mono ?_
    rintro e w1 ⟨x1, s1, rfl, hx1, hS1, hF1⟩
    have HR1 := hid (HR0.out.fr hF1 hgs); have HS1 := hid hS1; have HF1 := hid hF1
    have hxb1 : a ≤ x1 ∧ x1 < b := by omega
    clear hS1 hF1 hx1
    go_wp2_with fail
    refine (HA.out J s1 w1 HR1.out HS1.out (by omega) (by omega)).mono ?_
    rintro e w2 ⟨x2, s2, rfl, hx2, hS2, hF2⟩
    have HR2 := hid (HR1.out.fr hF2 hgs); have HS2 := hid hS2; have HF2 := hid (HF1.out.trans hF2)
    have hxb2 : a ≤ x2 ∧ x2 < b := by omega
    clear hS2 hF2 hx2
    go_wp2_with fail
    refine (HA.out K s2 w2 HR2.out HS2.out (by omega) (by omega)).mono ?_
    rintro e w3 ⟨x3, s3, rfl, hx3, hS3, hF3⟩
    have HR3 := hid (HR2.out.fr hF3 hgs); have HS3 := hid hS3; have HF3 := hid (HF2.out.trans hF3)
    have hxb3 : a ≤ x3 ∧ x3 < b := by omega
    clear hS3 hF3 hx3
    go_wp2_with fail
    refine (HM.out x1 x2 x3 s3 w3 HR3.out HS3.out (by omega) (by omega) (by omega)).mono ?_
    rintro e w4 ⟨x4, s4, rfl, hx4, hS4, hF4⟩
    have HF4 := hid (HF3.out.trans hF4)
    have hxb4 : a ≤ x4 ∧ x4 < b := by omega
    have c4 := hS4.cell
    have hB4 : Below w.heap.size w w4 := HB0.out.trans (HF4.out.below HB0.out.size (fun k hk => by omega))
    have HB4 := hid hB4
    clear hS4 hF4 hx4 hB4
    go_wp2
    · go_ret2
      exact ⟨x4, 1, rfl, hxb4.1, hxb4.2, by omega, HB4.out⟩
    · go_ret2
      exact ⟨x4, 2, rfl, hxb4.1, hxb4.2, by omega, HB4.out⟩
    · go_ret2
      exact ⟨x4, 0, rfl, hxb4.1, hxb4.2, by omega, HB4.out⟩
  · have h50i : ¬ (50 : Int) ≤ (L : Int) := by omega
    go_enter Ybaz.func168, Ybaz.ntmps168
    go_wp2_with fail
    generalize w.alloc (.cells #[.int .i64 0] 3) = w0 at *
    have e1 : ((a : Int) + (Q : Int)) = ((a + Q : Nat) : Int) := by omega
    have e2 : ((a : Int) + (Q : Int) * 2) = ((a + Q * 2 : Nat) : Int) := by omega
    have e3 : ((a : Int) + (Q : Int) * 3) = ((a + Q * 3 : Nat) : Int) := by omega
    rw [e1, e2, e3]
    refine (HM.out (a + Q) (a + Q * 2) (a + Q * 3) 0 w0 HR0.out HS0.out (by omega) (by omega) (by omega)).mono ?_
    rintro e w4 ⟨x4, s4, rfl, hx4, hS4, hF4⟩
    have hxb4 : a ≤ x4 ∧ x4 < b := by omega
    have c4 := hS4.cell
    have hB4 : Below w.heap.size w w4 := HB0.out.trans (hF4.below HB0.out.size (fun k hk => by omega))
    have HB4 := hid hB4
    clear hS4 hF4 hx4 hB4 e1 e2 e3
    go_wp2
    · go_ret2
      exact ⟨x4, 1, rfl, hxb4.1, hxb4.2, by omega, HB4.out⟩
    · go_ret2
      exact ⟨x4, 2, rfl, hxb4.1, hxb4.2, by omega, HB4.out⟩
    · go_ret2
      exact ⟨x4, 0, rfl, hxb4.1, hxb4.2, by omega, HB4.out⟩
end Go.Proofs.YbulkchuuGreatDoor
