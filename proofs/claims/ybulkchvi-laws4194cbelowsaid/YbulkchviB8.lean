import Derived.Test.YbulkchviB7
namespace Go.Proofs.Ybulkchvi
open Go.RowKit
set_option linter.unusedVariables false
set_option linter.unusedSimpArgs false
set_option maxRecDepth 100000

set_option maxHeartbeats 4000000 in
theorem law5_any (MG : MergeOK) (sa pa : Option Addr) (sn sc pn pc : Nat) (nn : Int) (R A Bb P : Nat → Int) (w : World) (hsn : sn ≤ 1024) (hpn : pn ≤ 1024) (hnn : 0 ≤ nn ∧ nn ≤ 255)
    (hr : ∀ j, 0 ≤ R j ∧ R j ≤ 255 ∧ 0 ≤ A j ∧ A j ≤ 255 ∧ 0 ≤ Bb j ∧ Bb j ≤ 255) (hp : ∀ j, 0 ≤ P j ∧ P j ≤ 255)
    (hS : SpecAt w.heap.size sa sn R A Bb w) (hP : RowAt w.heap.size pa pn (fun j => .int .u8 (P j)) w) :
    Calls Yba.prog 5 #[.slice sa sn sc, .int .u8 nn, .slice pa pn pc] w fun e w' => e = .returned (.bool true) ∧ Below w.heap.size w w' := by
  have hsn1 : ¬ (1024 : Int) < (sn : Int) := by omega
  have hpn1 : ¬ (1024 : Int) < (pn : Int) := by omega
  have HS := hid hS; have HP := hid hP; have Hr := hid hr; have Hp := hid hp
  have HMG := hid MG
  clear hS hP hr hp MG
  obtain ⟨m, hm⟩ : ∃ m : Nat, nn % 16 = (m : Int) := ⟨(nn % 16).toNat, by omega⟩
  have hm15 : m ≤ 15 := by omega
  obtain ⟨i1, hi1, hy0, hy1, hy2⟩ := info_parts info21
  obtain ⟨i0, hi, hz0, hz1, hz2⟩ := info_parts info57
  go_enter Yba.func5, Yba.ntmps5
  go_wp2_with (at_make; refine wpList_make_full _ rfl _ _ 53 rfl w.heap.size 21 i1 (.int .i32 0) 1 Yba.underlying53 hi1 hy0 hy1 _ _ _ _ (m + 2) rfl rfl ?b0 ?b0' ?b1 ?b2 ?b3 ?_)
  case b0 => omega
  case b0' => omega
  case b1 => first | omega | (rw [hy2]; omega)
  case b2 => unfold maxLen; omega
  all_goals try (case b3 => simp)
  intro w1 hown1 hg1
  obtain ⟨cur1, hcur1, hcs1⟩ := own_made hown1
  have bel1 : Below w.heap.size w w1 := (Below.refl _ w).grown hg1 (by simp) (fun k hk => by cases hk)
  have Hcur1 := hid hcur1; have Hbel1 := hid bel1
  clear hown1 hg1 hcur1 bel1
  go_wp2
  go_loopw [8, 10] (fun u k wr => ∃ (kk : Nat) (L : List (Int × Int)) (F : Nat → Nat), kk ≤ m + 1 ∧ k = .int .i64 kk ∧ Below w.heap.size w wr ∧ wr.ownsRow w.heap.size 57 2 u L.length (flat L) ∧ InR L ∧ L.length ≤ kk * 1024 ∧ FirstAt w.heap.size (m + 2) F kk L.length wr) (fun _ k _ => m + 1 - (intOf k).toNat)
  case atStart => exact ⟨0, [], fun _ => 0, by omega, rfl, Hbel1.out, World.ownsRow_nil _ _ _ _, fun x hx => by simp at hx, by simp, ⟨cur1, Hcur1.out, hcs1, fun j hj => by omega⟩, fun j hj => by omega, fun j hj => by omega⟩
  case round =>
    generalize wr = wq at *
    obtain ⟨kk, L, F, hkk, rfl, hB, hO, hIn, hLl, hFi⟩ := hrel
    have HB := hid hB; have HO := hid hO; have HIn := hid hIn; have HFi := hid hFi
    obtain ⟨ao, cp, rfl⟩ := own_slice' hO
    by_cases hkn : kk < m + 1
    · have hki : (kk : Int) < (m : Int) + 1 := by omega
      obtain ⟨⟨cur, hc0, hc1, hc2⟩, hf1, hf2⟩ := hFi
      have hfz := frozen_of hc0 kk
      have hcc : ∃ v0, wq.cell? ⟨w.heap.size, kk, none⟩ = some v0 := ⟨_, by rw [cell_of hc0]; exact Array.getElem?_eq_getElem (by omega)⟩
      obtain ⟨v0, hcc⟩ := hcc
      have hl20 : L.length ≤ 20000 := by omega
      clear hB hO hIn
      have hFi2 := HFi.out.step (show kk < m + 2 by omega)
      have HFi2 := hid hFi2
      have hO2 : (wq.setCell ⟨w.heap.size, kk, none⟩ (.int .i32 L.length)).ownsRow w.heap.size 57 2 (.slice ao L.length cp) L.length (flat L) := own_move' HO.out (fun g hg _ => Below.heap_setCell _ _ _ _ (fun e => own_ne2 HO.out hc0 (by decide) (by rw [hg]; simp at e; rw [e])))
      have hB2 : Below w.heap.size w (wq.setCell ⟨w.heap.size, kk, none⟩ (.int .i32 L.length)) := HB.out.setCell (Nat.le_refl _) _
      have HO2 := hid hO2; have HB2 := hid hB2
      clear hFi2 hO2 hB2 hc0 hc1 hc2 hf1 hf2 HFi HO HB
      go_wp2
      generalize setF F kk L.length = F2 at *
      go_loopw [8, 55] (fun u i wr => ∃ (ii : Nat) (L2 : List (Int × Int)), ii ≤ sn ∧ i = .int .i64 ii ∧ Below w.heap.size w wr ∧ wr.ownsRow w.heap.size 57 2 u L2.length (flat L2) ∧ InR L2 ∧ L2.length ≤ kk * 1024 + ii ∧ FirstAt w.heap.size (m + 2) F2 (kk + 1) L2.length wr) (fun _ i _ => sn - (intOf i).toNat)
      case atStart => exact ⟨0, L, by omega, rfl, HB2.out, HO2.out, HIn.out, by omega, HFi2.out⟩
      case round =>
        obtain ⟨ii, L2, hii, rfl, hB, hO, hIn, hLl2, hFi⟩ := hrel
        have HB3 := hid hB; have HO3 := hid hO; have HIn3 := hid hIn; have HFi3 := hid hFi
        obtain ⟨ao2, cp2, rfl⟩ := own_slice' hO
        have hszw := hB.size
        have hfblt : w.heap.size < wr.heap.size := by obtain ⟨⟨cur, h0, _⟩, _⟩ := hFi; exact heap_lt h0
        by_cases hin : ii < sn
        · have hini : (ii : Int) < (sn : Int) := by omega
          obtain ⟨bb, off, rfl, hbb, s0, s1, s2⟩ := HS.out ii hin
          have c0 := (hB.cell (p := ⟨bb, off + ii * 3, none⟩) hbb).trans s0
          have c1 := (hB.cell (p := ⟨bb, off + ii * 3 + 1, none⟩) hbb).trans s1
          have c2 := (hB.cell (p := ⟨bb, off + ii * 3 + 2, none⟩) hbb).trans s2
          have hri := Hr.out ii
          clear hB hO hIn hFi s0 s1 s2
          generalize R ii = r0 at *
          generalize A ii = a0 at *
          generalize Bb ii = b0 at *
          cases hq : (r0 % ((m : Int) + 1) == (kk : Int)) with
          | true =>
            have hl2 : L2.length ≤ 20000 := by omega
            go_wp2_with (at_builtin; refine wpList_append_own _ rfl _ _ 52 rfl w.heap.size 57 i0 _ 2 8 Yba.underlying52 hi hz0 hz1 hz2 rfl (by decide) _ _ _ rfl ((HO3.out.alloc _).alloc _) ⟨wr.heap.size + 1, 0, none⟩ 1 1 (flat [(a0 % 64, a0 % 64 + b0 % 8)]) rfl rfl ?c1 (flat_one _) ?c3 ?c4 ?c5 ?_)
            case c1 =>
              intro t u ht
              have hnew := heap_alloc_new (wr.alloc (.cells #[.int .u8 r0, .int .u8 a0, .int .u8 b0] 55)) (.cells #[.int .i32 (a0 % 64), .int .i32 (a0 % 64 + b0 % 8)] 57)
              have hsz : (wr.alloc (.cells #[.int .u8 r0, .int .u8 a0, .int .u8 b0] 55)).heap.size = wr.heap.size + 1 := by simp
              rw [hsz] at hnew
              rw [Go.WideShapes.add_plain, Nat.zero_add, cell_of hnew]
              simpa [flat, enc2] using ht
            case c3 => unfold maxLen; omega
            case c4 => omega
            case c5 => first | omega | (simp; omega)
            intro v3 w3 ho3 hg3 _
            have hb3 : Below w.heap.size w w3 := HB3.out.trans ⟨hg3.os, hg3.tape, hg3.output, by have := hg3.size; first | omega | (simp at this; omega), fun k hk => (hg3.block k (by first | omega | (simp; omega)) (fun e => by have := (World.ownsRow.lt HO3.out k e.symm).1; omega)).trans ((Below.heap_alloc _ _ _ (by first | omega | (simp; omega))).trans (Below.heap_alloc _ _ _ (by omega)))⟩
            have hfi3 : w3.heap[w.heap.size]? = wr.heap[w.heap.size]? := by
              obtain ⟨⟨cur, h0, _⟩, _⟩ := HFi3.out
              exact (hg3.block _ (by first | omega | (simp; omega)) (fun e => own_ne2 HO3.out h0 (by decide) e.symm)).trans ((Below.heap_alloc _ _ _ (by first | omega | (simp; omega))).trans (Below.heap_alloc _ _ _ hfblt))
            have Hb3 := hid hb3; have Ho3 := hid ho3; have Hfi3 := hid hfi3
            clear hb3 ho3 hfi3 hg3
            go_wp2
            go_roundw
            case rel =>
              refine ⟨ii + 1, L2 ++ [(a0 % 64, a0 % 64 + b0 % 8)], by omega, by go_num, Hb3.out, ?_, ?_, by simp; omega, ?_⟩
              · rw [flat_append, List.length_append]; exact Ho3.out
              · intro x hx
                rw [List.mem_append] at hx
                rcases hx with hx | hx
                · exact HIn3.out x hx
                · simp at hx; subst hx; simp only; omega
              · exact HFi3.out.grow (by simp) Hfi3.out
            case measure => simp [intOf]; omega
          | false =>
            go_wp2
            go_roundw
            case rel => exact ⟨ii + 1, L2, by omega, by go_num, HB3.out.alloc hszw _, HO3.out.alloc _, HIn3.out, by omega, HFi3.out.grow (Nat.le_refl _) (Below.heap_alloc _ _ _ hfblt)⟩
            case measure => simp [intOf]; omega
        · have hini : (sn : Int) ≤ (ii : Int) := by omega
          go_wp2
          go_roundw
          case rel => exact ⟨kk + 1, L2, F2, by omega, by go_num, HB3.out, HO3.out, HIn3.out, by omega, HFi3.out⟩
          case measure => simp [intOf]; omega
    · have hki : (m : Int) + 1 ≤ (kk : Int) := by omega
      obtain rfl : kk = m + 1 := by omega
      obtain ⟨⟨cur, hc0, hc1, hc2⟩, hf1, hf2⟩ := hFi
      have hfz := frozen_of hc0 (m + 1)
      have hcc : ∃ v0, wq.cell? ⟨w.heap.size, m + 1, none⟩ = some v0 := ⟨_, by rw [cell_of hc0]; exact Array.getElem?_eq_getElem (by omega)⟩
      obtain ⟨v0, hcc⟩ := hcc
      have hl20 : L.length ≤ 20000 := by omega
      clear hB hO hIn
      have hFi2 := HFi.out.step (show m + 1 < m + 2 by omega)
      have hO2 : (wq.setCell ⟨w.heap.size, m + 1, none⟩ (.int .i32 L.length)).ownsRow w.heap.size 57 2 (.slice ao L.length cp) L.length (flat L) := own_move' HO.out (fun g hg _ => Below.heap_setCell _ _ _ _ (fun e => own_ne2 HO.out hc0 (by decide) (by rw [hg]; simp at e; rw [e])))
      have hB2 : Below w.heap.size w (wq.setCell ⟨w.heap.size, m + 1, none⟩ (.int .i32 L.length)) := HB.out.setCell (Nat.le_refl _) _
      have HFi2 := hid hFi2; have HO2 := hid hO2; have HB2 := hid hB2
      clear hFi2 hO2 hB2 hc0 hc1 hc2 hf1 hf2 HFi HO HB
      generalize setF F (m + 1) L.length = F2 at *
      go_wp2_with fail
      generalize wq.setCell ⟨w.heap.size, m + 1, none⟩ (.int .i32 L.length) = W1 at *
      refine (clone_own (n := 0) W1 HO2.out hl20).mono ?_
      rintro e W2 ⟨sv, rfl, hsv, hb12⟩
      obtain ⟨i2, hi2, hp0, hp1, hp2⟩ := info_parts info42
      have hW1 : w.heap.size < W1.heap.size := by obtain ⟨⟨cur, h0, _⟩, _⟩ := HFi2.out; exact heap_lt h0
      have hW12 := hb12.size
      have hu2 := own_move' HO2.out (fun g _ hg => hb12.block g hg)
      have hf2' := HFi2.out.grow (Nat.le_refl _) (hb12.block _ hW1)
      have hB12 : Below w.heap.size w W2 := HB2.out.trans (hb12.mono (by omega))
      have Hu2 := hid hu2; have Hf2 := hid hf2'; have HB12 := hid hB12; have Hsv := hid hsv
      obtain ⟨so, scp, rfl⟩ := own_slice' hsv
      clear hsv hb12 hu2 hf2' hB12 HFi2 HO2 HB2 hcc hfz
      go_wp2_with (at_make; refine wpList_make_full _ rfl _ _ 63 rfl W2.heap.size 42 i2 (.pointer none) 1 Yba.underlying63 hi2 hp0 hp1 _ _ _ _ pn rfl rfl rfl rfl ?d1 ?d2 ?d3 ?_)
      case d1 => first | omega | (rw [hp2]; omega)
      case d2 => unfold maxLen; omega
      case d3 => simp
      intro W3 hown3 hg3
      obtain ⟨cur3, hcur3, hcs3⟩ := own_made hown3
      have hg3s := hg3.size
      have hbh2 := heap_alloc_new W2 (.cells #[.slice ao L.length cp, .slice (some ⟨w.heap.size, 0, none⟩) (m + 2) (m + 2), .map none] 62)
      have hbh3 := (hg3.block W2.heap.size (by simp) (by simp)).trans hbh2
      have bel23 : Below W2.heap.size W2 W3 := ((Below.refl _ W2).alloc (Nat.le_refl _) _).grown hg3 (by simp) (fun k hk => by cases hk)
      have hW23 := bel23.size
      have hbl3 := heap_lt hbh3
      have hrl3 := heap_lt hcur3
      have Hcur3 := hid hcur3; have Hbh3 := hid hbh3
      have Hu3 := hid (own_move' Hu2.out (fun g _ hg => bel23.block g hg))
      have Hsv3 := hid (own_move' Hsv.out (fun g _ hg => bel23.block g hg))
      have Hf3 := hid (Hf2.out.grow (Nat.le_refl _) (bel23.block _ (by omega)))
      have HB3 := hid (HB12.out.trans (bel23.mono (by omega)))
      clear hown3 hg3 hcur3 hbh2 hbh3 bel23 Hu2 Hsv Hf2 HB12
      have hz64 := zero64
      have Hmk0 : Hid (MarkAt W3.heap.size (fun _ => false) (W3.alloc (.cells (Array.replicate 72 (Value.bool false)) 64))) := hid ⟨_, heap_alloc_new _ _, by simp, fun v hv => by simp [hv]⟩
      have hFx : Fixed w m F2 L ao so cp scp W2.heap.size W3 := ⟨HB3.out, Hf3.out, Hu3.out, own_base Hsv3.out (by omega), Hbh3.out⟩
      have HFx := hid (hFx.alloc (.cells (Array.replicate 72 (Value.bool false)) 64))
      have hRl : ∀ K Bk, RolesAt (W2.heap.size + 1) pn K Bk 0 W3 := fun K Bk => ⟨⟨cur3, Hcur3.out, hcs3, fun t ht => by omega⟩, fun t ht => by omega⟩
      have HRl := hid (fun K Bk => (hRl K Bk).alloc (.cells (Array.replicate 72 (Value.bool false)) 64))
      have hK : ∃ K : Nat → Nat, ∀ t, P t % ((m : Int) + 1) = (K t : Int) ∧ K t ≤ m := ⟨fun t => (P t % ((m : Int) + 1)).toNat, fun t => by
        have h0 := Int.emod_nonneg (P t) (show ((m : Int) + 1) ≠ 0 by omega)
        have h1 := Int.emod_lt_of_pos (P t) (show (0 : Int) < (m : Int) + 1 by omega)
        simp only
        omega⟩
      obtain ⟨K, hK⟩ := hK
      have HK := hid hK
      clear hFx hRl hK Hbh3 Hu3 Hsv3 Hf3 HB3 Hcur3
      generalize Array.replicate 72 (Value.bool false) = z64 at *
      go_wp2
      generalize W3.alloc (.cells z64 64) = W4 at *
      go_loopw [18, 99] (fun sv i wr => ∃ (j : Nat) (s : Bool) (Mf : Nat → Bool) (Bk : Nat → Nat), j ≤ pn ∧ i = .int .i64 j ∧ sv = .bool s ∧ St (coll L F2 K j) s Mf ∧ MarkAt W3.heap.size Mf wr ∧ RolesAt (W2.heap.size + 1) pn K Bk j wr ∧ Fixed w m F2 L ao so cp scp W2.heap.size wr) (fun _ i _ => pn - (intOf i).toNat)
      case atStart => exact ⟨0, false, fun _ => false, fun _ => 0, by omega, rfl, rfl, ⟨by simp [coll], fun v hv => ⟨fun h => by simp at h, fun ⟨y, hy, _⟩ => by simp [coll] at hy⟩⟩, Hmk0.out, HRl.out _ _, HFx.out⟩
      case round =>
        generalize wr = wq3 at *
        obtain ⟨j, s, Mf, Bk, hj, rfl, rfl, hSt, hMk, hRo, hFi⟩ := hrel
        have HSt := hid hSt; have HMk := hid hMk; have HRo := hid hRo; have HFi3 := hid hFi
        by_cases hjn : j < pn
        · have hji : (j : Int) < (pn : Int) := by omega
          obtain ⟨bb, off, rfl, hbb, s0⟩ := HP.out j hjn
          have c0 := (hFi.bel.cell (p := ⟨bb, off + j, none⟩) hbb).trans s0
          obtain ⟨hkj, hkm⟩ := HK.out j
          have hpj := Hp.out j
          have cf0 := hFi.first.cell (K j) (by omega)
          have hfm0 := hFi.first.2.1 (K j) (by omega)
          have hfm1 := hFi.first.2.2 (K j + 1) (by omega)
          have hwlt := heap_lt hFi.first.1.choose_spec.1
          obtain ⟨⟨rcur, hr0, hr1, _⟩, _⟩ := hRo
          have hrfz := frozen_of hr0 j
          obtain ⟨rv, hrc⟩ : ∃ v0, wq3.cell? ⟨W2.heap.size + 1, j, none⟩ = some v0 := ⟨_, by rw [cell_of hr0]; exact Array.getElem?_eq_getElem (by omega)⟩
          have hrlt := heap_lt hr0
          have hRo5 := fun cs h9 => HRo.out.step hjn cs h9
          have hMk5 := fun x o => hMk.role hr0 j x o
          have hFi5 := fun x o => (hFi.set hr0 (by decide) (show w.heap.size ≤ W2.heap.size + 1 by omega) j x).alloc o
          have HRo5 := hid hRo5; have HMk5 := hid hMk5; have HFi5 := hid hFi5
          have hwne : w.heap.size ≠ W2.heap.size + 1 := by omega
          clear hSt hMk hFi s0 hr0 hr1 hRo5 hMk5 hFi5
          generalize hpv : P j = p0 at *
          go_wp2
          have HRo5' := hid (HRo5.out #[Value.string { data := #[] }, Value.int IntKind.u8 0, Value.int IntKind.i32 0, Value.string { data := #[] }, Value.int IntKind.i32 0, Value.int IntKind.i32 0, Value.int IntKind.i64 0, Value.pointer none, Value.slice none 0 0, Value.int IntKind.i64 (K j : Int), Value.int IntKind.i64 0, Value.slice none 0 0] rfl)
          have HMk5' := hid (HMk5.out (.pointer (some ⟨wq3.heap.size, 0, none⟩)) (.cells #[Value.string { data := #[] }, Value.int IntKind.u8 0, Value.int IntKind.i32 0, Value.string { data := #[] }, Value.int IntKind.i32 0, Value.int IntKind.i32 0, Value.int IntKind.i64 0, Value.pointer none, Value.slice none 0 0, Value.int IntKind.i64 (K j : Int), Value.int IntKind.i64 0, Value.slice none 0 0] 73))
          have HFi5' := hid (HFi5.out (.pointer (some ⟨wq3.heap.size, 0, none⟩)) (.cells #[Value.string { data := #[] }, Value.int IntKind.u8 0, Value.int IntKind.i32 0, Value.string { data := #[] }, Value.int IntKind.i32 0, Value.int IntKind.i32 0, Value.int IntKind.i64 0, Value.pointer none, Value.slice none 0 0, Value.int IntKind.i64 (K j : Int), Value.int IntKind.i64 0, Value.slice none 0 0] 73))
          generalize (wq3.setCell ⟨W2.heap.size + 1, j, none⟩ (.pointer (some ⟨wq3.heap.size, 0, none⟩))).alloc (.cells #[Value.string { data := #[] }, Value.int IntKind.u8 0, Value.int IntKind.i32 0, Value.string { data := #[] }, Value.int IntKind.i32 0, Value.int IntKind.i32 0, Value.int IntKind.i64 0, Value.pointer none, Value.slice none 0 0, Value.int IntKind.i64 (K j : Int), Value.int IntKind.i64 0, Value.slice none 0 0] 73) = W5 at *
          clear HRo5 HMk5 HFi5 HRo HMk HFi3 hrfz hrc c0 cf0
          generalize setF Bk j wq3.heap.size = Bk5 at *
          go_loopw [18, 22] (fun sv i wr => ∃ (t : Nat) (s : Bool) (Mf : Nat → Bool), F2 (K j) ≤ t ∧ t ≤ F2 (K j + 1) ∧ i = .int .i32 t ∧ sv = .bool s ∧ St (collT L F2 K j t) s Mf ∧ MarkAt W3.heap.size Mf wr ∧ RolesAt (W2.heap.size + 1) pn K Bk5 (j + 1) wr ∧ Fixed w m F2 L ao so cp scp W2.heap.size wr) (fun _ i _ => F2 (K j + 1) - (intOf i).toNat)
          case atStart => exact ⟨F2 (K j), s, Mf, by omega, hfm0, rfl, rfl, by rw [collT_start]; exact HSt.out, HMk5'.out, HRo5'.out, HFi5'.out⟩
          case round =>
            generalize wr = wq4 at *
            obtain ⟨t, s4, M4, ht0, ht1, rfl, rfl, hSt, hMk, hRo, hFi⟩ := hrel
            have HSt4 := hid hSt; have HMk4 := hid hMk; have HRo4 := hid hRo; have HFi4 := hid hFi
            have cf1 := hFi.first.cell (K j + 1) (by omega)
            by_cases htn : t < F2 (K j + 1)
            · have hti : (t : Int) < (F2 (K j + 1) : Int) := by omega
              have htL : t < L.length := by omega
              obtain ⟨x, hx⟩ : ∃ x, L[t]? = some x := ⟨_, List.getElem?_eq_getElem htL⟩
              have hxr := HIn.out x (List.mem_of_getElem? hx)
              obtain ⟨g, rfl, d0, d1⟩ := runs_cells hFi.runs t x hx
              have HEnd := hid (fun (v : Int) (Mf : Nat → Bool) (h : StR (collT L F2 K j t) x.1 v Mf) (hv : v = x.2 + 1) => by
                have := h.done hv
                rw [← collT_step L F2 K j t x hx ht0] at this
                exact this)
              have HR0 := hid (StR.start hSt x.1)
              obtain ⟨X0, hX0⟩ : ∃ y, x.1 = y := ⟨_, rfl⟩
              obtain ⟨X1, hX1⟩ : ∃ y, x.2 = y := ⟨_, rfl⟩
              rw [hX0] at d0 HEnd HR0 hxr
              rw [hX1] at d1 HEnd hxr
              clear hSt hMk hRo hFi hx
              obtain ⟨x0, rfl⟩ : ∃ n : Nat, X0 = (n : Int) := ⟨X0.toNat, by omega⟩
              go_wp2
              go_loopw [23] (fun i wr => ∃ (v : Nat) (Mf : Nat → Bool), x0 ≤ v ∧ (v : Int) ≤ X1 + 1 ∧ i = .int .i32 v ∧ StR (collT L F2 K j t) x0 v Mf ∧ MarkAt W3.heap.size Mf wr ∧ RolesAt (W2.heap.size + 1) pn K Bk5 (j + 1) wr ∧ Fixed w m F2 L (some ⟨g, 0, none⟩) so cp scp W2.heap.size wr ∧ wr.cell? ⟨g, t * 2 + 1, none⟩ = some (.int .i32 X1)) (fun i _ => (X1 + 1 - intOf i).toNat)
              case atStart => exact ⟨x0, M4, Nat.le_refl _, by omega, rfl, HR0.out, HMk4.out, HRo4.out, HFi4.out, d1⟩
              case round =>
                generalize wr = wq5 at *
                obtain ⟨v, M5, hv0, hv1, rfl, hSt, hMk, hRo, hFi, dd1⟩ := hrel
                have HSt5 := hid hSt; have HMk5 := hid hMk; have HRo5 := hid hRo; have HFi5 := hid hFi
                by_cases hvn : (v : Int) ≤ X1
                · have hmc := hMk.cell v (by omega)
                  have hmf := hMk.frozen v
                  have hmlt := hMk.lt
                  have hMk6 := hMk.set v (by omega)
                  obtain ⟨cm, hcm, _⟩ := hMk
                  have hRo6 := hRo.mark hcm v (.bool true)
                  have hFi6 := hFi.set hcm (by decide) (show w.heap.size ≤ W3.heap.size by omega) v (.bool true)
                  have hne : g ≠ W3.heap.size := fun e => own_ne2 hFi.runs hcm (by decide) (by rw [← e]; rfl)
                  have hdd : (wq5.setCell ⟨W3.heap.size, v, none⟩ (.bool true)).cell? ⟨g, t * 2 + 1, none⟩ = some (.int .i32 X1) := by
                    have hb := Below.heap_setCell wq5 ⟨W3.heap.size, v, none⟩ (.bool true) g (by simpa using hne)
                    simp only [World.cell?] at dd1 ⊢
                    rw [hb]; exact dd1
                  have hSt6 := hSt.step (by omega)
                  have HSt6 := hid hSt6; have HMk6 := hid hMk6; have HRo6 := hid hRo6; have HFi6 := hid hFi6; have Hdd := hid hdd
                  clear hSt hRo hFi hMk6 hRo6 hFi6 hcm hSt6 hdd
                  go_wp2
                  go_roundw
                  case rel => exact ⟨v + 1, _, by omega, by omega, by go_num, HSt6.out, HMk6.out, HRo6.out, HFi6.out, Hdd.out⟩
                  case measure => simp [intOf]; omega
                · have hve : (v : Int) = X1 + 1 := by omega
                  clear hSt hMk hRo hFi
                  go_wp2
                  go_roundw
                  case rel => exact ⟨t + 1, true, M5, by omega, by omega, by go_num, rfl, HEnd.out _ _ HSt5.out hve, HMk5.out, HRo5.out, HFi5.out⟩
                  case measure => simp [intOf]; omega
            · have hti : (F2 (K j + 1) : Int) ≤ (t : Int) := by omega
              obtain rfl : t = F2 (K j + 1) := by omega
              clear hSt hMk hRo hFi
              go_wp2
              go_roundw
              case rel => exact ⟨j + 1, s4, M4, Bk5, by omega, by go_num, rfl, HSt4.out, HMk4.out, HRo4.out, HFi4.out⟩
              case measure => simp [intOf]; omega
        · have hji : (pn : Int) ≤ (j : Int) := by omega
          obtain rfl : j = pn := by omega
          have hlen := coll_len L F2 K (by omega) j
          have HCin : Hid (InR (coll L F2 K j)) := hid (fun x hx => HIn.out x (coll_mem L F2 K j x hx))
          obtain ⟨_, hr2, hr3, hr4⟩ := runs_own hFi.runs
          have hb13 := below13 HMG.out W2.heap.size w.heap.size (m + 2) (m + 2) (W2.heap.size + 1) j j ao L.length cp L F2 K Bk wq3 rfl hl20 hr2 hr3 (by omega) hpn hr4 HIn.out (by rw [cell_of hFi.hblk]; rfl) (by rw [cell_of hFi.hblk]; rfl) (fun k hk => hFi.first.cell k hk) (fun k hk => ⟨hFi.first.2.1 k hk, hFi.first.2.2 _ hk⟩) (fun t ht => ⟨by have := (HK.out t).2; omega, hRo.cells t ht⟩)
          generalize coll L F2 K j = C at *
          have Hb13 := hid hb13
          clear hSt hMk hRo hFi hb13 hr2 hr3 hr4 HRo
          have hnil : ∀ W, (binOp .eql 53 (.slice none 0 0) (.slice none 0 0)).run Yba.prog W = .ok (.bool true) W := fun W => Lib.run_eql_slice_nil W 53 21 none 0 0 0 0 Yba.underlying53
          go_wp2_with fail
          refine Hb13.out.mono ?_
          rintro e W5 ⟨hB5, h5⟩
          have hFi5 := HFi3.out.call hB5
          have hMk5 := HMk.out.move (hB5.block _ HMk.out.lt)
          have hsz5 := hB5.size
          have heq := eq14_own hFi5.runs hFi5.saved (by omega)
          have HFi5 := hid hFi5; have HMk5 := hid hMk5; have Heq := hid heq
          clear Hb13 hB5 hFi5 hMk5 heq HFi3 HMk
          rcases h5 with ⟨hC, rfl⟩ | ⟨hC, gv, gl, rfl, hgo, hg1, hg2, hg3⟩
          · obtain rfl : s = false := by
              cases s with
              | false => rfl
              | true => exact absurd hC (HSt.out.1.1 rfl)
            clear hC
            go_wp2_with fail
            refine Heq.out.mono ?_
            rintro e W6 ⟨rfl, hB6⟩
            have HB6 := hid (HFi5.out.call hB6).bel
            clear hB6
            go_wp2
            go_ret
            exact ⟨rfl, HB6.out⟩
          · obtain rfl : s = true := HSt.out.1.2 hC
            obtain ⟨go, gc, rfl⟩ := own_slice' hgo
            have Hgo := hid hgo; have Hg1 := hid hg1; have Hg2 := hid hg2; have HCne := hid hC
            clear hgo hg1 hg2 hC
            go_wp2_with fail
            refine Heq.out.mono ?_
            rintro e W6 ⟨rfl, hB6⟩
            have HB6 := hid (HFi5.out.call hB6).bel
            have HMk6 := hid (HMk5.out.move (hB6.block _ HMk5.out.lt))
            have Hgo6 := hid (own_move' Hgo.out (fun g _ hg => hB6.block g hg))
            have hsz6 := HB6.out.size
            clear hB6 HFi5 HMk5 Hgo Heq
            go_wp2
            go_loopw [25, 26] (fun u i wr => ∃ (v : Nat) (wl : List Int), v ≤ 72 ∧ i = .int .i64 v ∧ Below W6.heap.size W6 wr ∧ wr.ownsRow W6.heap.size 21 1 u wl.length (wl.map (Value.int .i32)) ∧ Want Mf v wl) (fun _ i _ => 72 - (intOf i).toNat)
            case atStart => exact ⟨0, [], by omega, rfl, Below.refl _ _, World.ownsRow_nil _ _ _ _, Want.start Mf⟩
            case round =>
              generalize wr = wq6 at *
              obtain ⟨v, wl, hv, rfl, hB, hO, hW⟩ := hrel
              have HB := hid hB; have HO := hid hO; have HW := hid hW
              have hwl := hW.2.2
              obtain ⟨wo, wc, rfl⟩ := own_slice' hO
              have hszq := hB.size
              by_cases hvn : v < 72
              · have hvi : (v : Int) < 72 := by omega
                have hmc := (hB.cell (p := ⟨W3.heap.size, v, none⟩) HMk6.out.lt).trans (HMk6.out.cell v hvn)
                cases hq : Mf v with
                | true =>
                  rw [hq] at hmc
                  clear hB hO hW
                  go_wp2_with (at_builtin; refine wpList_append_own _ rfl _ _ 53 rfl W6.heap.size 21 i1 _ 1 4 Yba.underlying53 hi1 hy0 hy1 hy2 rfl (by decide) _ _ _ rfl (HO.out.alloc _) ⟨wq6.heap.size, 0, none⟩ 1 1 [.int .i32 v] rfl rfl ?e1 ?e2 ?e3 ?e4 ?e5 ?_)
                  case e1 =>
                    intro t u ht
                    rw [Go.WideShapes.add_plain, Nat.zero_add, cell_of (heap_alloc_new wq6 (.cells #[.int .i32 v] 21))]
                    simpa using ht
                  case e2 => simp [Value.oneCell']
                  case e3 => unfold maxLen; omega
                  case e4 => omega
                  case e5 => simp; omega
                  intro v3 w3 ho3 hg3 _
                  have hb3 : Below W6.heap.size W6 w3 := HB.out.trans ⟨hg3.os, hg3.tape, hg3.output, by have := hg3.size; simp at this; omega, fun k hk => (hg3.block k (by simp; omega) (fun e => by have := (World.ownsRow.lt HO.out k e.symm).1; omega)).trans (Below.heap_alloc _ _ _ (by omega))⟩
                  have Hb3 := hid hb3; have Ho3 := hid ho3
                  clear hb3 ho3 hg3
                  go_wp2
                  go_roundw
                  case rel =>
                    refine ⟨v + 1, wl ++ [(v : Int)], by omega, by go_num, Hb3.out, ?_, HW.out.yes hq⟩
                    have h := Ho3.out
                    rw [List.length_append, List.map_append]
                    exact h
                  case measure => simp [intOf]; omega
                | false =>
                  rw [hq] at hmc
                  clear hB hO hW
                  go_wp2
                  go_roundw
                  case rel => exact ⟨v + 1, wl, by omega, by go_num, HB.out, HO.out, HW.out.no hq⟩
                  case measure => simp [intOf]; omega
              · have hvi : (72 : Int) ≤ (v : Int) := by omega
                obtain rfl : v = 72 := by omega
                obtain rfl := got_want HCin.out HSt.out Hg1.out Hg2.out hW
                have hgo7 := own_move' Hgo6.out (fun g _ hg => hB.block g hg)
                have heq := eq15_own hgo7 hO (by omega)
                have Heq := hid heq
                clear hB hO hW hgo7 heq
                go_wp2_with fail
                refine Heq.out.mono ?_
                rintro e W7 ⟨rfl, hB7⟩
                have HB7 := hid ((HB6.out.trans (HB.out.mono hsz6)).trans (hB7.mono (by omega)))
                clear hB7
                go_wp2
                go_ret
                exact ⟨rfl, HB7.out⟩
end Go.Proofs.Ybulkchvi
