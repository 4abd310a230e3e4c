import Derived.Test.YbulkchuuGreatDoorS3
import Derived.Test.YbulkchuuGreatDoorShelf
import Derived.Sort.Walk7a
namespace Go.Proofs.YbulkchuuGreatDoor
open Go.RowKit
open Go.Sort (swp ltInt size_swp PermIn bitsLen)
set_option linter.unusedVariables false
set_option linter.unusedSimpArgs false
set_option maxRecDepth 100000

theorem bits_bound (L : Nat) (h : 0 < L) : 2 ^ bitsLen L ≤ 2 * L := by
  unfold bitsLen
  rw [if_neg (by omega), Nat.pow_succ]
  have := Nat.log2_self_le (n := L) (by omega)
  omega
theorem bits_small (L : Nat) (h : L < 1000000) : bitsLen L ≤ 62 := by
  unfold bitsLen
  by_cases h0 : L = 0
  · rw [if_pos h0]; omega
  · rw [if_neg h0]
    have := (Nat.log2_lt h0 (k := 20)).2 (by omega)
    omega

set_option maxHeartbeats 1000000 in
theorem nextPow140 (L : Nat) (hL : L < 1000000) (w : World) : Calls Ybaz.prog 140 #[.int .i64 L] w fun e w' => e = .returned (.int .u64 ((2 ^ bitsLen L : Nat) : Int)) ∧ w' = w := by
  have hLen : ∀ w, Calls Ybaz.prog 42 #[.int .u64 (L : Int)] w fun e w' => e = .returned (.int .i64 (bitsLen L : Nat)) ∧ w' = w := fun w => by
    have h := Ybaz.bits_Len (L : Int) w (by omega) (by omega)
    rw [Int.toNat_natCast, bitLen_eq L (by omega)] at h
    exact h
  have hk := bits_small L hL
  have hw := Go.Proofs.wrap_two_pow (bitsLen L) hk
  rw [Nat.one_shiftLeft] at hw
  generalize bitsLen L = k at *
  have HL := hid hLen
  clear hLen
  go_enter Ybaz.func140, Ybaz.ntmps140
  go_wp2_with (go_at_call 42; refine (HL.out _).mono ?_; rintro e w' ⟨rfl, rfl⟩)
  go_ret
  exact ⟨by simp, rfl⟩

theorem xor_range (a b : Int) : ∃ y : Int, bits .xor .u64 a b = y ∧ 0 ≤ y ∧ y < 18446744073709551616 := by
  refine ⟨_, rfl, ?_⟩
  unfold bits
  simp only [IntKind.wrap_u64]
  omega
def OneU (rb : Nat) (w : World) : Prop := ∃ x : Int, 0 ≤ x ∧ x < 18446744073709551616 ∧ w.heap[rb]? = some (.cells #[.int .u64 x] 284 (0, 0))
theorem stepU {rb : Nat} {w : World} {x : Int} (hb : w.heap[rb]? = some (.cells #[.int .u64 x] 284 (0, 0))) (u : Int) : (w.setCell ⟨rb, 0, none⟩ (.int .u64 u)).drew.heap[rb]? = some (.cells #[.int .u64 u] 284 (0, 0)) := by
  show (w.setCell ⟨rb, 0, none⟩ (.int .u64 u)).heap[rb]? = _
  rw [heap_set hb]; rfl
set_option maxHeartbeats 1000000 in
theorem next141 (rb : Nat) (w : World) (h : OneU rb w) : Calls Ybaz.prog 141 #[.pointer (some ⟨rb, 0, none⟩)] w fun e w' => ∃ x : Int, 0 ≤ x ∧ x < 18446744073709551616 ∧ e = .returned (.int .u64 x) ∧ OneU rb w' ∧ Fr (fun k => k = rb) w w' := by
  obtain ⟨x, h0, h1, hb⟩ := h
  have hc : w.cell? ⟨rb, 0, none⟩ = some (.int .u64 x) := by rw [cell_of hb]; rfl
  have hf := frozen_of hb 0
  have Hb := hid hb
  clear hb
  have HX := hid xor_range
  go_enter Ybaz.func141, Ybaz.ntmps141
  go_wp2
  go_region
  obtain ⟨y1, e1, l1, u1⟩ := HX.out x (IntKind.u64.wrap (x * 8192))
  rw [e1]
  have hb1 := stepU Hb.out y1
  have hF1 : Fr (fun k => k = rb) w (w.setCell ⟨rb, 0, none⟩ (.int .u64 y1)).drew := (Fr.refl _ w).setCell rb 0 _ (.inl rfl)
  generalize (w.setCell ⟨rb, 0, none⟩ (.int .u64 y1)).drew = w1 at *
  have hc1 : w1.cell? ⟨rb, 0, none⟩ = some (.int .u64 y1) := by rw [cell_of hb1]; rfl
  have hf1 := frozen_of hb1 0
  have Hb1 := hid hb1; have HF1 := hid hF1
  clear hb1 hF1 e1 hc hf Hb
  go_wp2
  go_region
  obtain ⟨y2, e2, l2, u2⟩ := HX.out y1 (y1 / 128)
  rw [e2]
  have hb2 := stepU Hb1.out y2
  have hF2 : Fr (fun k => k = rb) w (w1.setCell ⟨rb, 0, none⟩ (.int .u64 y2)).drew := HF1.out.setCell rb 0 _ (.inl rfl)
  generalize (w1.setCell ⟨rb, 0, none⟩ (.int .u64 y2)).drew = w2 at *
  have hc2 : w2.cell? ⟨rb, 0, none⟩ = some (.int .u64 y2) := by rw [cell_of hb2]; rfl
  have hf2 := frozen_of hb2 0
  have Hb2 := hid hb2; have HF2 := hid hF2
  clear hb2 hF2 e2 hc1 hf1 Hb1 HF1
  go_wp2
  go_region
  obtain ⟨y3, e3, l3, u3⟩ := HX.out y2 (IntKind.u64.wrap (y2 * 131072))
  rw [e3]
  have hb3 := stepU Hb2.out y3
  have hF3 : Fr (fun k => k = rb) w (w2.setCell ⟨rb, 0, none⟩ (.int .u64 y3)).drew := HF2.out.setCell rb 0 _ (.inl rfl)
  generalize (w2.setCell ⟨rb, 0, none⟩ (.int .u64 y3)).drew = w3 at *
  have hc3 : w3.cell? ⟨rb, 0, none⟩ = some (.int .u64 y3) := by rw [cell_of hb3]; rfl
  have Hb3 := hid hb3; have HF3 := hid hF3
  clear hb3 hF3 e3 hc2 hf2 Hb2 HF2
  go_wp2
  go_ret
  exact ⟨y3, l3, u3, rfl, ⟨y3, l3, u3, Hb3.out⟩, HF3.out⟩

theorem and_range (x : Int) (M : Nat) (hx : 0 ≤ x ∧ x < 18446744073709551616) (hM : 0 < M) (hM2 : M < 9223372036854775808) : ∃ y : Nat, bits .and .u64 x ((M : Int) - 1) = (y : Int) ∧ y < M := by
  obtain ⟨X, rfl⟩ : ∃ X : Nat, x = (X : Int) := ⟨x.toNat, by omega⟩
  refine ⟨X &&& (M - 1), ?_, Nat.lt_of_le_of_lt Nat.and_le_right (by omega)⟩
  have h2 : X &&& (M - 1) ≤ M - 1 := Nat.and_le_right
  unfold bits
  simp only [IntKind.wrap_u64]
  have e0 : IntKind.u64.bits = 64 := rfl
  have e1 : ((X : Int) % 2 ^ 64).toNat = X := by omega
  have e2 : (((M : Int) - 1) % 2 ^ 64).toNat = M - 1 := by omega
  rw [e0, BitVec.toNat_and, BitVec.toNat_ofInt, BitVec.toNat_ofInt]
  have e3 : ((X : Int) % ((2 ^ 64 : Nat) : Int)).toNat = X := by omega
  have e4 : (((M : Int) - 1) % ((2 ^ 64 : Nat) : Int)).toNat = M - 1 := by omega
  rw [e3, e4]
  generalize X &&& (M - 1) = y at *
  omega
theorem OneU.fr {rb : Nat} {S : Nat → Prop} {w w' : World} (h : OneU rb w) (hf : Fr S w w') (hs : ¬ S rb) : OneU rb w' := by
  obtain ⟨x, h0, h1, hb⟩ := h
  exact ⟨x, h0, h1, hf.keep hb hs⟩

set_option maxHeartbeats 2000000 in
theorem break167 (g off cap n a b L : Nat) (d : Array Int) (w : World) (hn : d.size = n) (hR : R32 g off d w) (hL : 12 < L) (hbL : b = a + L) (hb : b ≤ n) (hsz : n < 1000000) :
    Calls Ybaz.prog 167 #[.slice (some ⟨g, off, none⟩) n cap, .int .i64 a, .int .i64 b] w fun e w' => e = .returned (.tuple #[]) ∧ ∃ d', R32 g off d' w' ∧ PermIn a b d d' ∧ FrG g w w' := by
  have hg := hR.lt
  have hgs : g ≠ w.heap.size := by omega
  have hba : ((b : Int) - (a : Int)) = (L : Int) := by omega
  have hL8 : (8 : Int) ≤ (L : Int) := by omega
  obtain ⟨Q, hQ⟩ : ∃ Q, L / 4 = Q := ⟨_, rfl⟩
  have hQ1 : ((L : Int) / 4) = (Q : Int) := by omega
  have hQ2 : Q * 4 ≤ L := by omega
  have hQ3 : 3 ≤ Q := by omega
  have hMb := bits_bound L (by omega)
  have hM0 : 0 < 2 ^ bitsLen L := Nat.pow_pos (by omega)
  have hNP := hid (fun w => nextPow140 L (by omega) w)
  generalize 2 ^ bitsLen L = M at *
  have HNx := hid (fun (w1 : World) (h : OneU w.heap.size w1) => next141 w.heap.size w1 h)
  have hO0 : OneU w.heap.size (w.alloc (.cells #[.int .u64 L] 284)) := ⟨L, by omega, by omega, heap_alloc_new _ _⟩
  have hR0 : R32 g off d (w.alloc (.cells #[.int .u64 L] 284)) := hR.move (Below.heap_alloc _ _ _ hg)
  have hF0 : FrG g w (w.alloc (.cells #[.int .u64 L] 284)) := (Fr.refl _ w).alloc _
  have HO0 := hid hO0; have HR0 := hid hR0; have HF0 := hid hF0
  have HbL := hid hbL
  have hab2 : a + Q * 4 ≤ b := by omega
  have hLn : L < 1000000 := by omega
  clear hO0 hR0 hF0 hR hQ hbL
  have HAnd := hid (fun (x : Int) (h0 : 0 ≤ x) (h1 : x < 18446744073709551616) => and_range x M ⟨h0, h1⟩ hM0 (by omega))
  go_enter Ybaz.func167, Ybaz.ntmps167
  go_wp2_with fail
  refine (hNP.out _).mono ?_
  rintro e w' ⟨rfl, rfl⟩
  generalize w.alloc (.cells #[.int .u64 L] 284) = w0 at *
  obtain ⟨s, hs⟩ : ∃ s, a + Q * 2 - 1 = s := ⟨_, rfl⟩
  have hs1 : ((a : Int) + (Q : Int) * 2 - 1) = (s : Int) := by omega
  have hs2 : ((a : Int) + (Q : Int) * 2 + 1) = (s : Int) + 2 := by omega
  have hs3 : a < s ∧ s + 2 < b := by omega
  clear hs
  go_wp2
  go_loopw [9] (fun vi wr => ∃ (t : Nat) (dk : Array Int), vi = .int .i64 ((s + t : Nat) : Int) ∧ t ≤ 3 ∧ R32 g off dk wr ∧ PermIn a b d dk ∧ OneU w.heap.size wr ∧ FrG g w wr) (fun vi _ => (s + 3 - (intOf vi).toNat))
  case atStart => exact ⟨0, d, by go_num, by omega, HR0.out, Go.Sort.permIn_refl d a b, HO0.out, HF0.out⟩
  case round =>
    generalize wr = wq at *
    obtain ⟨t, dk, rfl, ht, hRk, hPk, hOk, hFk⟩ := hrel
    have hsk : dk.size = n := by rw [hPk.1]; exact hn
    have HRk := hid hRk; have HFk := hid hFk; have HPk := hid hPk; have HOk := hid hOk
    clear hRk hFk hPk hOk
    obtain ⟨i, hi⟩ : ∃ i, s + t = i := ⟨_, rfl⟩
    have hi1 : i ≤ s + 3 := by omega
    have hi2 : s ≤ i := by omega
    rw [hi]
    by_cases ht3 : i < s + 3
    · have ht3i : (i : Int) ≤ (s : Int) + 2 := by omega
      have Hi := hid hi
      clear hi
      go_wp2_with fail
      refine (HNx.out wq HOk.out).mono ?_
      rintro e w2 ⟨x, hx0, hx1, rfl, hO2, hF2⟩
      have hR2 := HRk.out.fr hF2 hgs
      have hF2' := HFk.out.trans' hF2 (fun k hk e => by omega)
      obtain ⟨o, ho1, ho2⟩ := HAnd.out x hx0 hx1
      obtain ⟨G, hG, hcw, hfw⟩ := hR2.fam hsk
      have HR2 := hid hR2; have HF2 := hid hF2'; have HO2 := hid hO2; have HG := hid hG
      clear hR2 hF2' hO2 hG hF2
      by_cases hoL : L ≤ o
      · have hoLi : (L : Int) ≤ (o : Int) := by omega
        obtain ⟨o2, ho3⟩ : ∃ o2, o - L = o2 := ⟨_, rfl⟩
        have ho4 : ((o : Int) - (L : Int)) = (o2 : Int) := by omega
        have ho5 : a + o2 < b := by have := HbL.out; omega
        clear ho3
        go_wp2_with fail
        by_cases hsame : a + o2 = i
        · subst hsame
          go_region
          go_wp2
          go_roundw
          case rel =>
            simp only [HG.out]
            refine ⟨a + o2 + 1 - s, swp dk (a + o2) (a + o2), by congr 1; omega, by omega, ?_, ?_, ?_, ?_⟩
            · exact HR2.out.swap (a + o2) (a + o2) (by omega) (by omega)
            · exact Go.Sort.permIn_trans d dk _ a b HPk.out (Go.Sort.swp_permIn dk a b (a + o2) (a + o2) (by omega) (by omega) (by omega) (by omega) (by omega))
            · exact HO2.out.fr (FrG.swap (g := g) (Fr.refl (fun k => k = g) w2) (off + (a + o2)) (off + (a + o2)) _ _) (fun (e : w.heap.size = g) => hgs e.symm)
            · exact FrG.swap (g := g) HF2.out _ _ _ _
          case measure => simp [intOf] <;> omega
        · go_region
          go_wp2
          go_roundw
          case rel =>
            simp only [HG.out]
            refine ⟨i + 1 - s, swp dk (i) (a + o2), by congr 1; omega, by omega, ?_, ?_, ?_, ?_⟩
            · exact HR2.out.swap (i) (a + o2) (by omega) (by omega)
            · exact Go.Sort.permIn_trans d dk _ a b HPk.out (Go.Sort.swp_permIn dk a b (i) (a + o2) (by omega) (by omega) (by omega) (by omega) (by omega))
            · exact HO2.out.fr (FrG.swap (g := g) (Fr.refl (fun k => k = g) w2) (off + (i)) (off + (a + o2)) _ _) (fun (e : w.heap.size = g) => hgs e.symm)
            · exact FrG.swap (g := g) HF2.out _ _ _ _
          case measure => simp [intOf] <;> omega
      · have hoLi : ¬ (L : Int) ≤ (o : Int) := by omega
        have ho5 : a + o < b := by have := HbL.out; omega
        go_wp2_with fail
        by_cases hsame : a + o = i
        · subst hsame
          go_region
          go_wp2
          go_roundw
          case rel =>
            simp only [HG.out]
            refine ⟨a + o + 1 - s, swp dk (a + o) (a + o), by congr 1; omega, by omega, ?_, ?_, ?_, ?_⟩
            · exact HR2.out.swap (a + o) (a + o) (by omega) (by omega)
            · exact Go.Sort.permIn_trans d dk _ a b HPk.out (Go.Sort.swp_permIn dk a b (a + o) (a + o) (by omega) (by omega) (by omega) (by omega) (by omega))
            · exact HO2.out.fr (FrG.swap (g := g) (Fr.refl (fun k => k = g) w2) (off + (a + o)) (off + (a + o)) _ _) (fun (e : w.heap.size = g) => hgs e.symm)
            · exact FrG.swap (g := g) HF2.out _ _ _ _
          case measure => simp [intOf] <;> omega
        · go_region
          go_wp2
          go_roundw
          case rel =>
            simp only [HG.out]
            refine ⟨i + 1 - s, swp dk (i) (a + o), by congr 1; omega, by omega, ?_, ?_, ?_, ?_⟩
            · exact HR2.out.swap (i) (a + o) (by omega) (by omega)
            · exact Go.Sort.permIn_trans d dk _ a b HPk.out (Go.Sort.swp_permIn dk a b (i) (a + o) (by omega) (by omega) (by omega) (by omega) (by omega))
            · exact HO2.out.fr (FrG.swap (g := g) (Fr.refl (fun k => k = g) w2) (off + (i)) (off + (a + o)) _ _) (fun (e : w.heap.size = g) => hgs e.symm)
            · exact FrG.swap (g := g) HF2.out _ _ _ _
          case measure => simp [intOf] <;> omega
    · have ht3i : ¬ (i : Int) ≤ (s : Int) + 2 := by omega
      clear hi
      go_wp2
      go_end0
      exact ⟨rfl, dk, HRk.out, HPk.out, HFk.out⟩
end Go.Proofs.YbulkchuuGreatDoor
