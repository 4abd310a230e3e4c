import Derived.Test.YbulkchuuGreatDoorQ1
namespace Go.Proofs.YbulkchuuGreatDoor
open Go.RowKit
open Go.Sort (PermIn)
set_option linter.unusedVariables false
set_option linter.unusedSimpArgs false
set_option maxRecDepth 100000

def WalkPost2 (S : Nat → Prop) (Bd pb : Nat) (nm ls mm : Value) (lst : List Int) (W : Nat → List Int) (w : World) (e : Ending) (w' : World) : Prop :=
  e = .returned (.tuple #[]) ∧ ∃ gr se gl, PrB pb nm ls mm gr (.bool true) se w' ∧ w'.ownsRow Bd 21 1 gr gl.length (I32s gl) ∧ Clear Bd se w' ∧ gl.Pairwise (· < ·) ∧ (∀ x, x ∈ gl ↔ Rch lst W x) ∧ Below Bd w w' ∧ Kp S w w' ∧ Off S gr ∧ Off S se
set_option maxHeartbeats 8000000 in
theorem walkUp33s (S : Nat → Prop) (Bd pb fb n : Nat) (nm ls gr0 wk se : Value) (k0 : Nat) (xs0 : List Value) (lsa : Option Addr) (lsc : Nat) (lst : List Int) (W : Nat → List Int) (w : World) (hpb : Bd ≤ pb) (hn : n ≤ 255) (hBw : Bd ≤ w.heap.size) (hls : ls = .slice lsa lst.length lsc)
    (hP : PrB pb nm ls (.pointer (some ⟨fb, 5, none⟩)) gr0 wk se w) (hO : w.ownsRow Bd 21 1 gr0 k0 xs0) (hC : Clear Bd se w)
    (hx : ReadI Bd lsa lst w) (hxr : InG n lst) (hxl : lst.length ≤ 1000) (hW : WithinAt Bd fb n W w) (hSl : ∀ k, S k → k < w.heap.size) (hSp : ¬ S pb) (hSg : Off S gr0) (hSe : Off S se) :
    Calls Ybaz.prog 33 #[.pointer (some ⟨pb, 0, none⟩)] w (WalkPost2 S Bd pb nm ls (.pointer (some ⟨fb, 5, none⟩)) lst W w) := by
  subst hls
  obtain ⟨ao, cp, rfl⟩ := own_slice' hO
  have hO1 := own_cut0 hO
  have hown1 : ∀ (j : Nat) (v : Value), (w.setCell ⟨pb, j, none⟩ v).ownsRow Bd 21 1 (.slice ao 0 cp) 0 [] := fun j v => own_move hO1 (fun g' hg' _ => Below.heap_setCell _ _ _ _ (fun e => own_tag hO1 hP (by decide) (by rw [hg']; simp at e; rw [e])))
  have c0 : w.cell? ⟨pb, 1, none⟩ = some (.slice lsa lst.length lsc) := by rw [cell_of hP]; rfl
  have c2 : w.cell? ⟨pb, 2, none⟩ = some (.pointer (some ⟨fb, 5, none⟩)) := by rw [cell_of hP]; rfl
  have c3 : w.cell? ⟨pb, 3, none⟩ = some (.slice ao k0 cp) := by rw [cell_of hP]; rfl
  have c4 : w.cell? ⟨pb, 4, none⟩ = some wk := by rw [cell_of hP]; rfl
  have c5 : w.cell? ⟨pb, 5, none⟩ = some se := by rw [cell_of hP]; rfl
  have f3 := frozen_of hP 3; have f4 := frozen_of hP 4; have f5 := frozen_of hP 5
  have hP1 : PrB pb nm (.slice lsa lst.length lsc) (.pointer (some ⟨fb, 5, none⟩)) (.slice ao 0 cp) (.bool true) se ((w.setCell ⟨pb, 3, none⟩ (.slice ao 0 cp)).setCell ⟨pb, 4, none⟩ (.bool true)) := by
    unfold PrB
    rw [heap_set (heap_set hP 3 _) 4 _]; rfl
  have hB1 : Below Bd w ((w.setCell ⟨pb, 3, none⟩ (.slice ao 0 cp)).setCell ⟨pb, 4, none⟩ (.bool true)) := ((Below.refl _ w).setCell hpb _).setCell hpb _
  have hO2 : ((w.setCell ⟨pb, 3, none⟩ (.slice ao 0 cp)).setCell ⟨pb, 4, none⟩ (.bool true)).ownsRow Bd 21 1 (.slice ao 0 cp) 0 [] := own_move (own_move hO1 (fun g' hg' _ => Below.heap_setCell _ _ _ _ (fun e => own_tag hO1 hP (by decide) (by rw [hg']; simp at e; rw [e])))) (fun g' hg' _ => Below.heap_setCell _ _ _ _ (fun e => own_tag hO1 hP (by decide) (by rw [hg']; simp at e; rw [e])))
  have hC1 : Clear Bd se ((w.setCell ⟨pb, 3, none⟩ (.slice ao 0 cp)).setCell ⟨pb, 4, none⟩ (.bool true)) := by
    rcases hC with h | ⟨sb, sl, sc, e, h1, h2⟩
    · exact .inl h
    · refine .inr ⟨sb, sl, sc, e, h1, h2.move ?_⟩
      have hne : sb ≠ pb := fun e => by
        obtain ⟨cur, k1, _⟩ := h2
        rw [e] at k1
        unfold PrB at hP
        rw [k1] at hP
        simp at hP
      rw [Below.heap_setCell _ _ _ _ (by simpa using hne), Below.heap_setCell _ _ _ _ (by simpa using hne)]
  have hK1 : Kp S w ((w.setCell ⟨pb, 3, none⟩ (.slice ao 0 cp)).setCell ⟨pb, 4, none⟩ (.bool true)) := fun b hb => (Below.heap_setCell _ _ _ _ (by intro e; simp at e; exact hSp (e ▸ hb))).trans (Below.heap_setCell _ _ _ _ (by intro e; simp at e; exact hSp (e ▸ hb)))
  have hSg1 : Off S (.slice ao 0 cp) := fun b hb => hSg b (by cases ao with
    | none => exact hb
    | some a => exact hb)
  have HK1 := hid hK1; have HSl := hid hSl; have HSp := hid hSp; have HSg1 := hid hSg1; have HSe := hid hSe
  clear hK1 hSl hSp hSg hSg1 hSe
  have HP1 := hid hP1; have HB1 := hid hB1; have HO2 := hid hO2; have HC1 := hid hC1; have HX := hid hx; have HXr := hid hxr; have HW := hid hW
  obtain ⟨N, hN⟩ : ∃ N, lst.length = N := ⟨_, rfl⟩
  have HN := hid hN
  rw [hN] at c0 HP1 hxl ⊢
  clear hP hO hC hx hxr hW hP1 hB1 hO2 hC1 hO1 hown1 hN
  obtain ⟨i32, hi32, hz0, hz1, hz2⟩ := info_parts info32
  go_enter Ybaz.func33, Ybaz.ntmps33
  by_cases h0 : N = 0
  · subst h0
    go_wp2
    (try simp only [Exit.inBlock, Exit.then]); refine bodyPost_ret (results_none rfl _ _ _) rfl ?_
    have hl : lst = [] := List.length_eq_zero_iff.1 HN.out
    subst hl
    refine ⟨rfl, _, se, [], HP1.out, HO2.out, HC1.out, List.Pairwise.nil, fun x => ⟨fun h => by simp at h, fun h => ?_⟩, HB1.out, HK1.out, HSg1.out, HSe.out⟩
    refine h (fun y => y ∈ ([] : List Int)) (fun y hy => hy) (fun g y ih hy => ?_)
    simp at ih
  · have h0i : ((N : Int) == 0) = false := by simp; omega
    have hn1 : 0 < n := by
      obtain ⟨x, hx⟩ := List.exists_mem_of_length_pos (l := lst) (by rw [HN.out]; omega)
      have := HXr.out x hx
      omega
    obtain ⟨wd, hwd⟩ : ∃ wd, (n + 63) / 64 = wd := ⟨_, rfl⟩
    have hwdi : (((n : Int) + 63) / 64) = (wd : Int) := by omega
    have hwd1 : n ≤ 64 * wd ∧ wd ≤ 4 ∧ 0 < wd := by omega
    clear hwd
    go_upto_region 2 with fail
    generalize (w.setCell ⟨pb, 3, none⟩ (.slice ao 0 cp)).setCell ⟨pb, 4, none⟩ (.bool true) = W1 at *
    clear c0 c2 c3 c4 c5 f3 f4 f5
    have hW1 := HW.out.below HB1.out
    obtain ⟨hfb, wa, wcap, hwcap, _⟩ := hW1
    have d1 : W1.cell? ⟨pb, 1, none⟩ = some (.slice lsa N lsc) := by rw [cell_of HP1.out]; rfl
    have d2 : W1.cell? ⟨pb, 2, none⟩ = some (.pointer (some ⟨fb, 5, none⟩)) := by rw [cell_of HP1.out]; rfl
    have d3 : W1.cell? ⟨pb, 3, none⟩ = some (.slice ao 0 cp) := by rw [cell_of HP1.out]; rfl
    have d5 : W1.cell? ⟨pb, 5, none⟩ = some se := by rw [cell_of HP1.out]; rfl
    have f5 := frozen_of HP1.out 5
    have hszw := HB1.out.size
    -- seen is made where it is too short
    have hcut0 : ∃ so sl0 sc0, se = .slice so sl0 sc0 ∧ (so = none ∧ sl0 = 0 ∨ ∃ sb, so = some ⟨sb, 0, none⟩ ∧ Bd ≤ sb ∧ SeenAt sb sl0 (fun _ => 0) W1) := by
      rcases HC1.out with h | ⟨sb, sl, sc, e, h1, h2⟩
      · exact ⟨none, 0, 0, h, .inl ⟨rfl, rfl⟩⟩
      · exact ⟨_, sl, sc, e, .inr ⟨sb, rfl, h1, h2⟩⟩
    obtain ⟨so, sl0, sc0, rfl, hso⟩ := hcut0
    have HSo := hid hso
    clear hso
    go_upto_if 39 with fail
    simp only [hwdi]
    go_cut [] from 38 to 44 (fun wx => ∃ (sb sl sc : Nat), Bd ≤ sb ∧ n ≤ 64 * sl ∧ Pr Bd pb sb sl n nm (.slice lsa N lsc) (.pointer (some ⟨fb, 5, none⟩)) (.bool true) (.slice ao 0 cp) sc (fun _ => 0) [] wx ∧ Below Bd w wx ∧ Kp S w wx ∧ ¬ S sb)
    case first =>
      by_cases hsl : sl0 < wd
      · have hsli : (sl0 : Int) < (wd : Int) := by omega
        go_wp2_with (at_make; refine wpList_make_full _ rfl _ _ 27 rfl W1.heap.size 32 i32 (.int .u64 0) 1 Ybaz.underlying27 hi32 hz0 hz1 _ _ _ _ wd rfl rfl rfl rfl ?b1 ?b2 ?b3 ?_)
        case b1 => first | omega | (rw [hz2]; omega)
        case b2 => unfold maxLen; omega
        case b3 => first | omega | simp
        intro w2 hown2 hg2
        have hlt := heap_lt HP1.out
        have hP2 : PrB pb nm (.slice lsa N lsc) (.pointer (some ⟨fb, 5, none⟩)) (.slice ao 0 cp) (.bool true) (.slice so sl0 sc0) w2 := (hg2.block pb hlt (by simp)).trans HP1.out
        have e5 : w2.cell? ⟨pb, 5, none⟩ = some (.slice so sl0 sc0) := by rw [cell_of hP2]; rfl
        have e5f := frozen_of hP2 5
        have hS2 : SeenAt W1.heap.size wd (fun _ => 0) w2 := own_zero hown2
        have hO3 := own_move HO2.out (fun g' _ hg' => hg2.block g' hg' (by simp))
        have hB2 : Below Bd w w2 := HB1.out.trans ⟨hg2.os, hg2.tape, hg2.output, hg2.size, fun k hk => hg2.block k (by omega) (by simp)⟩
        have hK2 : Kp S w w2 := fun b hb => (hg2.block b (by have := HSl.out b hb; omega) (by simp)).trans (HK1.out b hb)
        have HK2 := hid hK2
        clear hK2
        have HP2 := hid hP2; have HS2 := hid hS2; have HO3 := hid hO3; have HB2 := hid hB2
        clear hown2 hg2 hP2 hS2 hO3 hB2
        go_wp2_with fail
        go_meet
        case rel =>
          have hne : W1.heap.size ≠ pb := by omega
          refine ⟨W1.heap.size, wd, wd, by omega, by omega, ⟨?_, HS2.out.move (Below.heap_setCell _ _ _ _ (by simpa using hne)), ?_, fun g hg => by simp, List.Pairwise.nil, fun x hx => by simp at hx⟩, HB2.out.setCell hpb _, fun b hb => (Below.heap_setCell _ _ _ _ (by intro e; simp at e; exact HSp.out (e ▸ hb))).trans (HK2.out b hb), fun h => by have := HSl.out _ h; omega⟩
          · rw [heap_set HP2.out 5 _]; rfl
          · exact own_move HO3.out (fun g' hg' _ => Below.heap_setCell _ _ _ _ (fun e => own_tag HO3.out HP2.out (by decide) (by rw [hg']; simp at e; rw [e])))
      · have hsli : ¬ (sl0 : Int) < (wd : Int) := by omega
        go_wp2_with fail
        go_meet
        case rel =>
          rcases HSo.out with ⟨rfl, rfl⟩ | ⟨sb, rfl, h1, h2⟩
          · omega
          · refine ⟨sb, sl0, sc0, h1, by omega, ⟨HP1.out, h2, HO2.out, fun g hg => by simp, List.Pairwise.nil, fun x hx => by simp at hx⟩, HB1.out, HK1.out, HSe.out _ rfl⟩
    case rest =>
      obtain ⟨sb, sl, sc, hsb, hsl, hPr, hBx, hKx, hSsb⟩ := hcut
      have HKx := hid hKx; have HSsb := hid hSsb
      clear hKx hSsb
      generalize hwx : wc = wx at *
      clear hwx
      have c0 : wx.cell? ⟨pb, 1, none⟩ = some (.slice lsa N lsc) := by rw [cell_of hPr.blk]; rfl
      have hadd := add77s S Bd pb sb sl sc n nm (.slice lsa N lsc) (.pointer (some ⟨fb, 5, none⟩)) (.bool true) (.slice ao 0 cp) (fun _ => 0) [] lsa lsc lst wx hpb hsb hsl hn (Nat.le_trans hBw hBx.size) hPr (HX.out.below hBx) HXr.out (by rw [HN.out]; exact hxl) (fun b hb => Nat.lt_of_lt_of_le (HSl.out b hb) hBx.size) HSp.out HSsb.out HSg1.out
      rw [HN.out] at hadd
      have HAdd := hid hadd; have HBx := hid hBx
      clear hadd hPr hBx d1 d2 d3 d5 f5 hwcap HP1 HB1 HO2 HC1 HSo
      go_wp2_with fail
      refine HAdd.out.mono ?_
      rintro e w2 ⟨rfl, gr2, X2, hP2, hB2, hK2, hO2⟩
      have HK2 := hid (show Kp S w w2 from fun b hb => (hK2 b hb).trans (HKx.out b hb)); have HOf2 := hid hO2
      clear hK2 hO2
      have HP2 := hid hP2; have HB2 := hid (HBx.out.trans hB2)
      clear hP2 hB2 HAdd HBx
      go_wp2
      go_loopw [3] (fun vi wr => ∃ (i : Nat) (gr : Value) (X : Nat → Nat) (gk : List Int), vi = .int .i64 i ∧ i ≤ gk.length ∧ Pr Bd pb sb sl n nm (.slice lsa N lsc) (.pointer (some ⟨fb, 5, none⟩)) (.bool true) gr sc X gk wr ∧ Below Bd w wr ∧ BF lst W i gk ∧ Kp S w wr ∧ Off S gr) (fun vi _ => n - (intOf vi).toNat)
      case atStart =>
        refine ⟨0, gr2, X2, addL [] lst, rfl, by omega, HP2.out, HB2.out, ⟨fun x hx => (addL_mem _ _ _).2 (.inr hx), fun x hx => ?_, fun t g ht => by omega⟩, HK2.out, HOf2.out⟩
        rcases (addL_mem _ _ _).1 hx with h | h
        · simp at h
        · exact .base x h
      case round =>
        generalize wr = wq at *
        obtain ⟨i, gr, X, gk, rfl, hi, hP, hB, hF, hKq, hOq⟩ := hrel
        have HKq := hid hKq; have HOq := hid hOq
        clear hKq hOq
        have hlen := pigeon n gk hP.nodup hP.rng
        obtain ⟨ga, gc, rfl⟩ := own_slice' hP.own
        have e2 : wq.cell? ⟨pb, 2, none⟩ = some (.pointer (some ⟨fb, 5, none⟩)) := by rw [cell_of hP.blk]; rfl
        have e3 : wq.cell? ⟨pb, 3, none⟩ = some (.slice ga gk.length gc) := by rw [cell_of hP.blk]; rfl
        have e5 : wq.cell? ⟨pb, 5, none⟩ = some (.slice (some ⟨sb, 0, none⟩) sl sc) := by rw [cell_of hP.blk]; rfl
        have HP := hid hP; have HB := hid hB; have HF := hid hF
        by_cases hin : i < gk.length
        · have hini : (i : Int) < (gk.length : Int) := by omega
          obtain ⟨x, hx⟩ : ∃ x, gk[i]? = some x := ⟨_, List.getElem?_eq_getElem hin⟩
          have hxr := hP.rng x (List.mem_of_getElem? hx)
          obtain ⟨g, rfl⟩ : ∃ g : Nat, x = (g : Int) := ⟨x.toNat, by omega⟩
          have hgn : g < n := by omega
          obtain ⟨gg, hga, hgc⟩ : ∃ gg, ga = some ⟨gg, 0, none⟩ ∧ wq.cell? ⟨gg, i, none⟩ = some (.int .i32 g) := by
            rcases hP.own.2 with ⟨e, h0⟩ | ⟨gg, cap, cur, e, _⟩
            · omega
            · injection e with e1 _ _
              have := hP.own.cells (g := gg) (by rw [e1]; rfl) i (.int .i32 g) (by simp [I32s, hx])
              rw [Go.WideShapes.add_plain, Nat.zero_add] at this
              exact ⟨gg, e1, this⟩
          subst hga
          obtain ⟨_, wa2, wcap2, hw6, hwr⟩ := HW.out.below hB
          obtain ⟨wb, woff, A, C, rfl, hwb, hwcell, hwread, hwin, hwlen⟩ := hwr g hgn
          have hadd := add77s S Bd pb sb sl sc n nm (.slice lsa N lsc) (.pointer (some ⟨fb, 5, none⟩)) (.bool true) (.slice (some ⟨gg, 0, none⟩) gk.length gc) X gk A C (W g) wq.drew hpb hsb hsl hn (Nat.le_trans hBw hB.size) ⟨hP.blk, hP.seen, hP.own, hP.bits, hP.nodup, hP.rng⟩ hwread hwin hwlen (fun b hb => Nat.lt_of_lt_of_le (HSl.out b hb) hB.size) HSp.out HSsb.out HOq.out
          have hstep := hF.step hx
          rw [Int.toNat_natCast] at hstep
          have HAdd := hid hadd; have HSt := hid hstep
          generalize (W g).length = Lg at *
          clear hadd hstep hP hB hF hwread hwin hwr hx
          go_wp2_with fail
          go_still_tail 17, (by kernel_rfl)
          go_wp2_with fail
          refine HAdd.out.mono ?_
          rintro e w3 ⟨rfl, gr3, X3, hP3, hB3, hK3, hO3⟩
          have HK3 := hid (show Kp S w w3 from fun b hb => (hK3 b hb).trans (HKq.out b hb)); have HOf3 := hid hO3
          clear hK3 hO3
          have HP3 := hid hP3
          have HB3 := hid (HB.out.trans (show Below Bd wq w3 from ⟨hB3.os, hB3.tape, hB3.output, hB3.size, hB3.block⟩))
          have hlen3 : i + 1 ≤ (addL gk (W g)).length := by
            obtain ⟨t, ht⟩ := addL_prefix (W g) gk
            rw [ht, List.length_append]; omega
          clear hP3 hB3
          go_wp2
          go_roundw
          case rel => exact ⟨i + 1, gr3, X3, addL gk (W g), by go_num, hlen3, HP3.out, HB3.out, HSt.out, HK3.out, HOf3.out⟩
          case measure => simp [intOf] <;> omega
        · have hini : ¬ (i : Int) < (gk.length : Int) := by omega
          obtain rfl : i = gk.length := by omega
          have HDone := hid (fun x => hF.done x)
          have hne : 0 < gk.length := by
            obtain ⟨x, hx⟩ := List.exists_mem_of_length_pos (l := lst) (by rw [HN.out]; omega)
            exact List.length_pos_of_mem (hF.1 x hx)
          obtain ⟨gg, gcap, hge, hgB, hR, hBack⟩ := own_R32 hP.own hne
          injection hge with hg1 hg2 hg3
          subst hg1 hg3
          have HBack := hid hBack; have HR0 := hid hR
          have hcells : ∀ t x, gk[t]? = some x → wq.cell? ⟨gg, t, none⟩ = some (.int .i32 x) := fun t x ht => by
            have := hP.own.cells (g := gg) rfl t (.int .i32 x) (by simp [I32s, ht])
            rwa [Go.WideShapes.add_plain, Nat.zero_add] at this
          have Hcells := hid hcells
          have hgsb : gg ≠ sb := fun e => by
            obtain ⟨c, h1, _⟩ := hP.seen
            exact own_tag hP.own h1 (by decide) (by rw [e]; rfl)
          have hgpb : gg ≠ pb := fun e => own_tag hP.own hP.blk (by decide) (by rw [e]; rfl)
          obtain ⟨L, hL⟩ : ∃ L, gk.length = L := ⟨_, rfl⟩
          have HL := hid hL
          rw [hL] at e3 hlen hne ⊢
          clear hP hB hF hBack hcells hR hL hini
          go_wp2
          go_loopw [83] (fun vk wr => ∃ (k : Nat) (Y : Nat → Nat), k ≤ L ∧ vk = .int .i64 k ∧ SeenAt sb sl Y wr ∧ Fr (fun b => b = sb) wq wr ∧ (∀ u, u < sl → Y u = X u ∨ Y u = 0) ∧ ∀ t x, t < k → gk[t]? = some x → Y (x.toNat / 64) = 0) (fun vk _ => L - (intOf vk).toNat)
          case atStart => exact ⟨0, X, by omega, rfl, HP.out.seen, Fr.refl _ _, fun u _ => .inl rfl, fun t x ht => by omega⟩
          case round =>
            generalize wr = wz at *
            obtain ⟨k, Y, hk, rfl, hS, hFr, hY1, hY2⟩ := hrel
            have hpsb : pb ≠ sb := fun e => by
              obtain ⟨c, h1, _⟩ := HP.out.seen
              have h2 := HP.out.blk
              rw [e, h1] at h2
              simp at h2
            have hblk := hFr.keep HP.out.blk hpsb
            have z3 : wz.cell? ⟨pb, 3, none⟩ = some (.slice (some ⟨gg, 0, none⟩) L gc) := by rw [cell_of hblk, HL.out]; rfl
            have z5 : wz.cell? ⟨pb, 5, none⟩ = some (.slice (some ⟨sb, 0, none⟩) sl sc) := by rw [cell_of hblk]; rfl
            have hRz : R32 gg 0 gk.toArray wz := HR0.out.fr hFr hgsb
            by_cases hkl : k < L
            · have hkli : (k : Int) < (L : Int) := by omega
              obtain ⟨x, hx⟩ : ∃ x, gk[k]? = some x := ⟨_, List.getElem?_eq_getElem (by rw [HL.out]; exact hkl)⟩
              have hxr := HP.out.rng x (List.mem_of_getElem? hx)
              obtain ⟨g, rfl⟩ : ∃ g : Nat, x = (g : Int) := ⟨x.toNat, by omega⟩
              have hgc : wz.cell? ⟨gg, k, none⟩ = some (.int .i32 g) := (cell_eq (hFr.block gg HR0.out.lt hgsb) k).trans (Hcells.out k _ hx)
              obtain ⟨q, hq⟩ : ∃ q, g / 64 = q := ⟨_, rfl⟩
              have hqi : ((g : Int) / 64) = (q : Int) := by omega
              have hql : q < sl := by omega
              obtain ⟨cur, hs1, hs2, hs3⟩ := hS
              have hcs : wz.cell? ⟨sb, q, none⟩ = some (.int .u64 (Y q : Int)) := by rw [cell_of hs1]; exact (hs3 q hql).1
              have hfs := frozen_of hs1 q
              have hS2 := SeenAt.set (show SeenAt sb sl Y wz from ⟨cur, hs1, hs2, hs3⟩) q 0 (by omega)
              have hF2 := hFr.setCell sb q (.int .u64 ((0 : Nat) : Int)) (.inl rfl)
              have HS2 := hid hS2; have HF2 := hid hF2; have HY1 := hid hY1; have HY2 := hid hY2; have Hq := hid hq; have Hx := hid hx
              clear hS2 hF2 hY1 hY2 hs1 hs2 hs3 hFr hblk hq hx hRz
              go_wp2
              go_roundw
              case rel =>
                refine ⟨k + 1, _, by omega, by go_num, HS2.out, HF2.out, fun u hu => ?_, fun t x ht hx => ?_⟩
                · by_cases e : u = q
                  · exact .inr (by simp [e])
                  · simp only [if_neg e]; exact HY1.out u hu
                · by_cases e : t = k
                  · subst e
                    rw [Hx.out] at hx
                    simp at hx
                    subst hx
                    rw [Int.toNat_natCast, Hq.out]
                    simp
                  · by_cases e2 : x.toNat / 64 = q
                    · simp [e2]
                    · simp only [if_neg e2]; exact HY2.out t x (by omega) hx
              case measure => simp [intOf] <;> omega
            · have hkli : ¬ (k : Int) < (L : Int) := by omega
              obtain rfl : k = L := by omega
              have hsort := sort78 gg 0 gc k gk.toArray wz (by simp [HL.out]) hRz (by omega)
              have hS0 : SeenAt sb sl (fun _ => 0) wz := by
                obtain ⟨cur, hs1, hs2, hs3⟩ := hS
                refine ⟨cur, hs1, hs2, fun u hu => ⟨?_, by simp⟩⟩
                have hY0 : Y u = 0 := by
                  rcases hY1 u hu with e | e
                  · by_cases h00 : Y u = 0
                    · exact h00
                    · exfalso
                      rw [e] at h00
                      obtain ⟨b, hb⟩ := Nat.exists_testBit_of_ne_zero h00
                      obtain ⟨_, _, _, hsx⟩ := HP.out.seen
                      have hXu := (hsx u hu).2
                      have hb64 : b < 64 := by
                        rcases Nat.lt_or_ge b 64 with h | h
                        · exact h
                        · exfalso
                          have : (X u).testBit b = false := Nat.testBit_lt_two_pow (Nat.lt_of_lt_of_le (show X u < 2 ^ 64 by omega) (Nat.pow_le_pow_right (show 0 < 2 by omega) h))
                          rw [this] at hb; cases hb
                      have hbit := HP.out.bits (64 * u + b) (by omega)
                      rw [show (64 * u + b) / 64 = u by omega, show (64 * u + b) % 64 = b by omega, hb] at hbit
                      have hm : ((64 * u + b : Nat) : Int) ∈ gk := by simpa using hbit.symm
                      obtain ⟨t, ht, et⟩ := List.getElem_of_mem hm
                      have := hY2 t _ (by rw [← HL.out]; exact ht) (by rw [List.getElem?_eq_getElem ht, et])
                      rw [Int.toNat_natCast, show (64 * u + b) / 64 = u by omega] at this
                      rw [← e, this] at h00
                      exact h00 rfl
                  · exact e
                have := (hs3 u hu).1
                rw [hY0] at this
                exact this
              have HSort := hid hsort; have HS0 := hid hS0; have HFr := hid hFr; have Hblk := hid hblk
              clear hsort hS0 hFr hblk hS hY1 hY2 hRz
              go_wp2_with fail
              refine HSort.out.mono ?_
              rintro e w5 ⟨rfl, d', hR5, hPm, hSr, hF5⟩
              have hd : d'.size = gk.length := by rw [hPm.1]; simp
              have hfr : Fr (fun b => b = sb ∨ b = gg) wq w5 := (HFr.out.mono (fun k _ h => .inl h)).trans' hF5 (fun k _ h => .inr h)
              have hown := HBack.out d' w5 hd hR5 _ hfr
              have hperm : d'.toList.Perm gk := by
                have h := hPm.2.2
                rw [show k = d'.size by rw [hd, HL.out], Array.extract_size] at h
                rw [show gk.toArray.extract 0 d'.size = gk.toArray by rw [hd]; simp] at h
                simpa using h
              have hnd : d'.toList.Pairwise (· ≠ ·) := (hperm.pairwise_iff (fun {a b} h => Ne.symm h)).2 HP.out.nodup
              have hpw : d'.toList.Pairwise (· < ·) := by
                rw [List.pairwise_iff_getElem] at hnd ⊢
                intro i j hi hj hij
                have h1 := hnd i j hi hj hij
                have h2 := hSr i j (by omega) hij (by have e1 := HL.out; simp at hj; omega)
                rw [getElem!_pos d' i (by simpa using hi), getElem!_pos d' j (by simpa using hj)] at h2
                simp only [Array.getElem_toList] at h1 ⊢
                omega
              have hblk5 := hF5.keep Hblk.out hgpb.symm
              have hseen5 : SeenAt sb sl (fun _ => 0) w5 := by
                have hlt : sb < wz.heap.size := by obtain ⟨c, h1, _⟩ := HS0.out; exact heap_lt h1
                exact HS0.out.move (hF5.block sb hlt hgsb.symm)
              have hB5 : Below Bd w w5 := HB.out.trans (hfr.below (Nat.le_trans hBw HB.out.size) (fun k hk h => by omega))
              have hK5 : Kp S w w5 := fun b hb => (hfr.block b (Nat.lt_of_lt_of_le (HSl.out b hb) HB.out.size) (by rintro (e | e); exact HSsb.out (e ▸ hb); exact HOq.out b (by rw [e]; rfl) hb)).trans (HKq.out b hb)
              have HK5 := hid hK5
              clear hK5
              have HFin := hid (And.intro hown (And.intro hperm (And.intro hpw (And.intro hblk5 (And.intro hseen5 hB5)))))
              clear hown hperm hnd hpw hblk5 hseen5 hB5 hfr hF5 hR5 hPm hSr
              go_wp2
              go_end0
              obtain ⟨hown, hperm, hpw, hblk5, hseen5, hB5⟩ := HFin.out
              refine ⟨rfl, _, _, d'.toList, hblk5, hown, .inr ⟨sb, sl, sc, rfl, hsb, hseen5⟩, hpw, fun x => ?_, hB5, HK5.out, HOq.out, fun b hb hS => by injection hb with hb; subst hb; exact HSsb.out hS⟩
              rw [hperm.mem_iff]
              exact HDone.out x
end Go.Proofs.YbulkchuuGreatDoor
