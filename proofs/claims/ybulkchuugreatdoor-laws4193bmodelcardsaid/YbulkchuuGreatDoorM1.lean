import Derived.Test.YbulkchuuGreatDoorN12
namespace Go.Proofs.YbulkchuuGreatDoor
open Go.RowKit Go.Maps Classical
set_option linter.unusedVariables false
set_option linter.unusedSimpArgs false
set_option maxRecDepth 100000

set_option maxHeartbeats 32000000 in
theorem comp14 (Bd : Nat) (fb : Nat → Nat) (DD : Nat → DIn) (w : World) (hC : CompIn Bd fb DD w) :
    Calls Ybaz.prog 14 #[.pointer (some ⟨fb 0, 0, none⟩), .pointer (some ⟨fb 1, 0, none⟩)] w (CPost Bd fb DD w) := by
  have hmm := @run_makeMap Ybaz.prog
  have HC := hid hC
  have hBw := hC.lo
  obtain ⟨sT, sf, hsg⟩ := hC.seg
  have hseg0 := heap_lt hsg
  have Hsg := hid hsg
  clear hsg
  obtain ⟨wM, hr0, o0, g0⟩ := (World.ownsMap_made w Ybaz.prog 9 Rh).update law9' Ybaz.underlying137 (by decide) (key9' ⟨#[]⟩ (by decide)) (val := .agg #[]) (d := .held (.agg #[])) (ps := []) rfl
  have hgM : w.grownBy wM (some w.heap.size) := grown_trans (World.grownBy_alloc w _ _) g0
  have HOM := hid o0; have HgM := hid hgM
  clear hC o0 g0 hgM
  go_enter Ybaz.func14, Ybaz.ntmps14
  go_wp2
  generalize hW1 : wM.alloc (Obj.cells #[.pointer (some ⟨fb 0, 0, none⟩), .pointer (some ⟨fb 1, 0, none⟩)] 62) = W1
  have hszM := HgM.out.size
  have hltM := HOM.out.lt
  have hW1s : W1.heap.size = wM.heap.size + 1 := by rw [← hW1]; simp
  have hW1B : Below w.heap.size w W1 := by
    rw [← hW1]
    exact (below_grown (Below.refl _ w) HgM.out (Nat.le_refl _) (fun r e => by injection e with e; omega)).alloc hszM _
  have hW1o : W1.ownsMap Ybaz.prog 9 Rh w.heap.size 1 ((DataW.map []).put (.string (⟨#[]⟩ : ByteArray).data.toList) (.held (.agg #[]))) := by rw [← hW1]; exact HOM.out.alloc _
  have hW1a : W1.heap[wM.heap.size]? = some (.cells #[.pointer (some ⟨fb 0, 0, none⟩), .pointer (some ⟨fb 1, 0, none⟩)] 62 (0, 0)) := by rw [← hW1]; exact heap_alloc_new _ _
  obtain ⟨ab, hab⟩ : ∃ x, wM.heap.size = x := ⟨_, rfl⟩
  rw [hab] at hW1a ⊢
  have hlab : w.heap.size < ab := by omega
  have HB1 := hid hW1B; have HO1 := hid hW1o; have Ha1 := hid hW1a
  have hset0 : ∀ x, inS ((DataW.map []).put (.string (⟨#[]⟩ : ByteArray).data.toList) (.held (.agg #[]))) x ↔ RepoTo DD 0 x := fun x => by
    rw [inS_put (World.ownsMap_made w Ybaz.prog 9 Rh) ⟨#[]⟩ (by decide)]
    constructor
    · rintro (h | h)
      · simp [inS, Maps.has] at h
      · exact .inl h
    · rintro (h | ⟨i, hi, _⟩)
      · exact .inr h
      · omega
  have Hset0 := hid hset0
  clear hW1 hW1B hW1o hW1a hset0 hr0 hab hszM hltM hW1s
  go_loopw [35] (fun vk wr => ∃ (i : Nat) (Ds : DataW Value) (n : Nat), i ≤ 2 ∧ vk = .int .i64 i ∧ Below w.heap.size w wr ∧ wr.heap[ab]? = some (.cells #[.pointer (some ⟨fb 0, 0, none⟩), .pointer (some ⟨fb 1, 0, none⟩)] 62 (0, 0)) ∧ wr.ownsMap Ybaz.prog 9 Rh w.heap.size n Ds ∧ n ≤ 1 + 400 * i ∧ ∀ x, inS Ds x ↔ RepoTo DD i x) (fun vk _ => 2 - (intOf vk).toNat)
  case atStart => exact ⟨0, _, 1, by omega, rfl, HB1.out, Ha1.out, HO1.out, by omega, Hset0.out⟩
  case round =>
    generalize wr = wq at *
    obtain ⟨i, Ds, n, hi, rfl, hB, hA, hO, hn, hset⟩ := hrel
    have HB := hid hB; have HA := hid hA; have HO := hid hO; have HSet := hid hset
    have hszq := hB.size
    have hltq := hO.lt
    have hlaq := heap_lt hA
    clear hB hA hO hset
    by_cases hi2 : i < 2
    · have hii : (i : Int) < 2 := by omega
      have hfile := (HC.out.files.below (HB.out.mono hBw)).file i hi2
      have hcab : wq.cell? ⟨ab, i, none⟩ = some (.pointer (some ⟨fb i, 0, none⟩)) := by
        rw [cell_of HA.out]
        have : i = 0 ∨ i = 1 := by omega
        rcases this with rfl | rfl <;> rfl
      obtain ⟨rb, Dm, k, hrb, hrbB, hOr, hRi, hk4⟩ := hfile.rules
      have HOr := hid hOr; have HRi := hid hRi
      have hfbl := hfile.lt
      clear hOr hRi hfile
      go_wp2_with (first | (at_range; refine wpList_range_own _ rfl _ 89 rfl 125 126 law125 Ybaz.underlying89 Rh rb k Dm rfl HOr.out ?_; intro w0 hrg0 hg0 hs0) | go_in)
      obtain ⟨r, hr⟩ : ∃ x, wq.heap.size = x := ⟨_, rfl⟩
      rw [hr] at hrg0 ⊢
      have hB0 : Below w.heap.size w w0 := below_grown HB.out hg0 (Nat.le_refl _) (fun r e => by cases e)
      have hO0 : w0.ownsMap Ybaz.prog 9 Rh w.heap.size n Ds := HO.out.kept hg0 (by simp)
      have hA0 : w0.heap[ab]? = some (.cells #[.pointer (some ⟨fb 0, 0, none⟩), .pointer (some ⟨fb 1, 0, none⟩)] 62 (0, 0)) := (hg0.block ab hlaq (by simp)).trans HA.out
      have hrS : w.heap.size < r := by omega
      have habr : ab < r := by omega
      have hsize := HOr.out.size_le
      obtain ⟨ea, ec, _, hAll, hRep, _⟩ := HRi.out
      have HAll := hid hAll; have HRep := hid hRep
      have Hrg0 := hid hrg0; have HB0 := hid hB0; have HO0 := hid hO0; have HA0 := hid hA0
      clear hrg0 hg0 hs0 hB0 hO0 hA0 hAll hRep HOr hr
      try go_frame
      go_loopw [44] (fun _ wr => ∃ (left : Lit → Bool) (cnt n' : Nat) (Ds : DataW Value), wr.ranges Ybaz.prog 125 Rh rb r k Dm left cnt ∧ Below w.heap.size w wr ∧ wr.heap[ab]? = some (.cells #[.pointer (some ⟨fb 0, 0, none⟩), .pointer (some ⟨fb 1, 0, none⟩)] 62 (0, 0)) ∧ wr.ownsMap Ybaz.prog 9 Rh w.heap.size n' Ds ∧ n' + cnt ≤ 1 + 400 * i + k ∧
        (∀ x, inS Ds x → RepoTo DD (i + 1) x) ∧ (∀ x, RepoTo DD i x → inS Ds x) ∧ (∀ kl (rr p : ByteArray), Maps.has Dm kl = true → left kl = false → keyOf Ybaz.prog 125 (rkey rr p) = some kl → inS Ds rr.data.toList)) (fun _ wr => wr.rangeLeft rb r)
      case atStart =>
        refine ⟨_, _, n, Ds, Hrg0.out, HB0.out, HA0.out, HO0.out, by omega, fun x hx => ?_, fun x hx => (HSet.out x).2 hx, fun kl rr p h1 h2 => ?_⟩
        · rcases (HSet.out x).1 hx with h | ⟨i', h1, h2⟩
          · exact .inl h
          · exact .inr ⟨i', by omega, h2⟩
        · rw [h1] at h2; cases h2
      case round =>
        generalize wr = wy at *
        obtain ⟨left, cnt, ny, Dy, hrg, hBy, hAy, hOy, hny, hs1, hs2, hs3⟩ := hrel
        have Hrg := hid hrg; have HBy := hid hBy; have HAy := hid hAy; have HOy := hid hOy; have Hs1 := hid hs1; have Hs2 := hid hs2; have Hs3 := hid hs3
        have hltr := hrg.owns.lt
        have hszy := hBy.size
        have hlty := hOy.lt
        clear hrg hBy hAy hOy hs1 hs2 hs3
        go_wp2_with (first | (at_next; refine wpList_next_rules _ rfl _ rfl rb r k Dm left cnt rfl Hrg.out (fun kl hk => by obtain ⟨r1, p1, q1, e1, e2, _⟩ := HAll.out kl hk; exact ⟨r1, p1, q1, e1, e2⟩) ?_ ?_) | go_in)
        · intro hc0 hl0
          have Hl0 := hid hl0
          clear hl0
          go_wp2
          go_roundw
          case rel =>
            refine ⟨i + 1, Dy, ny, by omega, by go_num, HBy.out, HAy.out, HOy.out, by omega, fun x => ⟨Hs1.out x, ?_⟩⟩
            rintro (h | ⟨i', h1, j, h2, h3⟩)
            · exact Hs2.out x (.inl h)
            · by_cases e : i' = i
              · subst e
                obtain ⟨p, kl, k1, k2⟩ := HRep.out j h2
                rw [h3]
                exact Hs3.out kl _ p k2 (Hl0.out kl) k1
              · exact Hs2.out x (.inr ⟨i', by omega, j, h2, h3⟩)
          case measure => simp [intOf] <;> omega
        · intro rr p q kl w1 cnt1 hkk hhas hlk hat hrg1 hlt hg1 hs1 hen
          have hB1y : Below w.heap.size w w1 := below_grown HBy.out hg1 (Nat.le_refl _) (fun r e => by injection e with e; omega)
          have hO1y : w1.ownsMap Ybaz.prog 9 Rh w.heap.size ny Dy := HOy.out.kept hg1 (by simp; omega)
          have hA1y : w1.heap[ab]? = some (.cells #[.pointer (some ⟨fb 0, 0, none⟩), .pointer (some ⟨fb 1, 0, none⟩)] 62 (0, 0)) := (hg1.block ab (heap_lt HAy.out) (by simp; omega)).trans HAy.out
          have hrr : RepoTo DD (i + 1) rr.data.toList ∧ rr.size ≤ 140737488351232 := by
            obtain ⟨r1, p1, q1, e1, _, e3, _⟩ := HAll.out kl hhas
            have e4 := law125.inj hkk e1
            unfold rkey at e4
            injection e4 with e4
            have e5 : rr = r1 := by
              have := congrArg (fun a : Array Value => a[0]?) e4
              simpa using this
            subst e5
            rcases e3 with h | ⟨j, h1, h2⟩
            · subst h; exact ⟨.inl rfl, by decide⟩
            · subst h2; exact ⟨.inr ⟨i, by omega, j, h1, rfl⟩, (HC.out.names i hi2).repo j h1⟩
          obtain ⟨hrr1, hrr2⟩ := hrr
          obtain ⟨wU, hwU⟩ : ∃ x, w1.alloc (Obj.cells #[.string rr, .string p, .bool false] 125) = x := ⟨_, rfl⟩
          have hbU : wU.heap[w1.heap.size]? = some (.cells #[.string rr, .string p, .bool false] 125 (0, 0)) := by rw [← hwU]; exact heap_alloc_new _ _
          have y0 : wU.cell? ⟨w1.heap.size, 0, none⟩ = some (.string rr) := by rw [cell_of hbU]; rfl
          have hszU : wU.heap.size = w1.heap.size + 1 := by rw [← hwU]; simp
          have HrU := hid (show wU.ranges Ybaz.prog 125 Rh rb r k Dm (fun z => left z && !z.sameKey kl) cnt1 by rw [← hwU]; exact hrg1.alloc _)
          have HBU := hid (show Below w.heap.size w wU by rw [← hwU]; exact hB1y.alloc hB1y.size _)
          have HOU := hid (show wU.ownsMap Ybaz.prog 9 Rh w.heap.size ny Dy by rw [← hwU]; exact hO1y.alloc _)
          have HAU := hid (show wU.heap[ab]? = some (.cells #[.pointer (some ⟨fb 0, 0, none⟩), .pointer (some ⟨fb 1, 0, none⟩)] 62 (0, 0)) by rw [← hwU]; exact (Below.heap_alloc _ _ _ (heap_lt hA1y)).trans hA1y)
          have HwU := hid hwU; have Hrr1 := hid hrr1; have Hkk := hid hkk
          have hw1r : r < w1.heap.size := hrg1.lt
          have hw1b : rb < w1.heap.size := hrg1.owns.lt
          clear hB1y hO1y hA1y hrg1 hkk hhas hlk hat hg1 hbU hwU hrr1 hs1
          go_upto_region 8 with fail
          rw [HwU.out]
          go_wp2_with (at_mapUpdate; refine wpList_mapUpdate_own _ rfl _ _ _ 137 rfl 9 93 law9' Ybaz.underlying137 Rh w.heap.size ny Dy rfl HOU.out (by unfold maxLen; omega) (.string rr) (.agg #[]) (.string rr.data.toList) rfl rfl (key9' rr (by unfold maxLen; omega)) (.held (.agg #[])) [] rfl ?_)
          intro wF hOF hgF
          have HOF := hid hOF; have HgF := hid hgF
          clear hOF hgF
          go_wp2
          go_roundw
          case rel =>
            have hput := fun x => inS_put HOU.out rr (by unfold maxLen; omega) (.held (.agg #[])) x
            have hrF := HrU.out.kept HgF.out (by simp; omega) (by simp; omega)
            refine ⟨_, cnt1, ny + 1, _, hrF, below_grown HBU.out HgF.out (Nat.le_refl _) (fun r e => by injection e with e; omega), (HgF.out.block ab (heap_lt HAU.out) (by simp; omega)).trans HAU.out, HOF.out, by omega, fun x hx => ?_, fun x hx => (hput x).2 (.inl (Hs2.out x hx)), fun kl' r' p' h1 h2 h3 => (hput _).2 ?_⟩
            · rcases (hput x).1 hx with h | h
              · exact Hs1.out x h
              · rw [h]; exact Hrr1.out
            · rcases Bool.and_eq_false_iff.1 h2 with h | h
              · exact .inl (Hs3.out kl' r' p' h1 h h3)
              · have hk : kl' = kl := WideAt.sameKey_eq (by simpa using h)
                subst hk
                have e4 := law125.inj Hkk.out h3
                unfold rkey at e4
                injection e4 with e4
                have e5 : rr = r' := by
                  have := congrArg (fun a : Array Value => a[0]?) e4
                  simpa using this
                exact .inr (by rw [e5])
          case measure =>
            have hrF := HrU.out.kept HgF.out (by simp; omega) (by simp; omega)
            rw [hrF.left_eq, Hrg.out.left_eq]; exact hlt
    · have hii : ¬ (i : Int) < 2 := by omega
      obtain rfl : i = 2 := by omega
      obtain ⟨wA, hwA⟩ : ∃ x, wq.alloc (Obj.cells #[.pointer (some ⟨fb 0, 0, none⟩), .pointer (some ⟨fb 1, 0, none⟩)] 62) = x := ⟨_, rfl⟩
      have hbA : wA.heap[wq.heap.size]? = some (.cells #[.pointer (some ⟨fb 0, 0, none⟩), .pointer (some ⟨fb 1, 0, none⟩)] 62 (0, 0)) := by rw [← hwA]; exact heap_alloc_new _ _
      have hBA : Below w.heap.size w wA := by rw [← hwA]; exact HB.out.alloc hszq _
      have hOA : wA.ownsMap Ybaz.prog 9 Rh w.heap.size n Ds := by rw [← hwA]; exact HO.out.alloc _
      have hszA : wA.heap.size = wq.heap.size + 1 := by rw [← hwA]; simp
      have H28 := hid (userNames28 Bd wq.heap.size fb DD _ _ wA (by omega) (HC.out.files.below (hBA.mono hBw)) HC.out.names 62 hbA)
      have HBA := hid hBA; have HOA := hid hOA; have HszA := hid hszA
      clear hbA hBA hOA hszA HA
      go_wp2_with (go_at_call 28; refine H28.out.mono ?_; rintro e wB ⟨v, ss, lg, rfl, hrow, hso, hnd, hmem, hmx1, hmx2, hlg, hss6, hbB⟩; obtain ⟨na, nc, rfl⟩ := own_slice' hrow; have Hrow := hid hrow; have Hso := hid hso; have Hnd := hid hnd; have Hmem := hid hmem; have Hmx1 := hid hmx1; have Hmx2 := hid hmx2; have HbB := hid hbB; clear hrow hso hnd hmem hmx1 hmx2 hbB)
      obtain ⟨un, hun⟩ : ∃ x, (⟨(Lib.repeatL [63] (lg + 1)).toArray⟩ : ByteArray) = x := ⟨_, rfl⟩
      have Hun := hid hun
      rw [hun]
      clear hun
      obtain ⟨M, hM⟩ : ∃ x, ss.length = x := ⟨_, rfl⟩
      have HM := hid hM
      rw [hM] at hss6 ⊢
      have hszB := HbB.out.size
      have hszA := HszA.out
      generalize hwC : ((wB.alloc (Obj.cells #[.string ⟨#[]⟩] 9)).alloc (Obj.cells #[.string un] 9)).alloc (Obj.cells #[.slice (some ⟨wB.heap.size, 0, none⟩) 1 1, .slice na M nc, .slice (some ⟨wB.heap.size + 1, 0, none⟩) 1 1] 22) = wC
      have hsC : wC.heap.size = wB.heap.size + 3 := by rw [← hwC]; simp
      have hb0 : wC.heap[wB.heap.size]? = some (.cells #[.string ⟨#[]⟩] 9 (0, 0)) := by
        rw [← hwC, Below.heap_alloc _ _ _ (by simp; omega), Below.heap_alloc _ _ _ (by simp)]; exact heap_alloc_new _ _
      have hb1 : wC.heap[wB.heap.size + 1]? = some (.cells #[.string un] 9 (0, 0)) := by
        rw [← hwC, Below.heap_alloc _ _ _ (by simp)]
        have := heap_alloc_new (wB.alloc (Obj.cells #[.string ⟨#[]⟩] 9)) (Obj.cells #[.string un] 9)
        simpa using this
      have hb2 : wC.heap[wB.heap.size + 2]? = some (.cells #[.slice (some ⟨wB.heap.size, 0, none⟩) 1 1, .slice na M nc, .slice (some ⟨wB.heap.size + 1, 0, none⟩) 1 1] 22 (0, 0)) := by
        rw [← hwC]
        have := heap_alloc_new ((wB.alloc (Obj.cells #[.string ⟨#[]⟩] 9)).alloc (Obj.cells #[.string un] 9)) (Obj.cells #[.slice (some ⟨wB.heap.size, 0, none⟩) 1 1, .slice na M nc, .slice (some ⟨wB.heap.size + 1, 0, none⟩) 1 1] 22)
        simpa using this
      have hBC : Below wB.heap.size wB wC := by
        rw [← hwC]
        exact (((Below.refl _ wB).alloc (Nat.le_refl _) _).alloc (by simp) _).alloc (by simp; omega) _
      have hrowC : wC.ownsRow wA.heap.size 9 1 (.slice na M nc) M (ss.map encStr) := by
        have := own_move Hrow.out (fun g' _ hl => hBC.block g' hl)
        rw [HM.out] at this
        exact this
      have H24 := hid (concat24 (wB.heap.size + 2) wB.heap.size (wB.heap.size + 1) M nc wA.heap.size na ss un wC hM hss6 hb2 hb0 hb1 hrowC)
      have HBC := hid hBC
      clear hwC hb0 hb1 hb2 hBC hrowC hM
      refine H24.out.mono ?_
      rintro e w5 ⟨v5, rfl, ho5, hb5⟩
      obtain ⟨ua, uc, rfl⟩ := own_slice' ho5
      have hsz5 := hb5.size
      have hB5 : Below w.heap.size w w5 := HBA.out.trans ⟨hb5.os.trans (HBC.out.os.trans HbB.out.os), hb5.tape.trans (HBC.out.tape.trans HbB.out.tape), hb5.output.trans (HBC.out.output.trans HbB.out.output), by omega, fun b hb => (hb5.block b (by omega)).trans ((HBC.out.block b (by omega)).trans (HbB.out.block b (by omega)))⟩
      have hO5 : w5.ownsMap Ybaz.prog 9 Rh w.heap.size n Ds := ((HOA.out.kept (grown_of_below HbB.out none) (by simp)).kept (grown_of_below HBC.out none) (by simp)).kept (grown_of_below hb5 none) (by simp)
      have hU5 : w5.ownsRow (w.heap.size + 1) 9 1 (.slice ua (M + 2) uc) (M + 2) (users ss un) := own_base ho5 (by omega)
      have HB5 := hid hB5; have HO5 := hid hO5; have HU5 := hid hU5
      clear hB5 hO5 hU5 ho5 hb5 H24 H28 HBC HbB HOA HBA Hrow HB HO hszA hszB HszA
      obtain ⟨rs, hrs⟩ : ∃ x, (strKeys Ds).mergeSort leB = x := ⟨_, rfl⟩
      have Hrs := hid hrs
      clear hrs
      go_upto_region 12 with fail
      go_cut [12] from 28 (fun v12 wx => ∃ (cb ix rg re ro nm : Nat) (ra : Option Addr) (rc : Nat) (ea : Option Addr) (ec : Nat) (sa : Option Addr) (sc : Nat), v12 = .pointer (some ⟨cb, 0, none⟩) ∧ Post12 ⟨some ⟨fb 0, 0, none⟩, some ⟨fb 1, 0, none⟩, w.heap.size, ua, M + 2, uc, rs⟩ w5 cb ix rg re ro nm ra rc ea ec sa sc wx)
      case first =>
        refine region12 (X := ⟨some ⟨fb 0, 0, none⟩, some ⟨fb 1, 0, none⟩, w.heap.size, ua, M + 2, uc, rs⟩) (by kernel_rfl) ⟨rfl, rfl, rfl, rfl, rfl, ⟨sT, sf, (HB5.out.block 0 hseg0).trans Hsg.out⟩, by show M + 2 ≤ 1000000; omega, ?k1, fun W => keys30 _ W, fun W b hb => pattern31 b W hb⟩ ?_
        case k1 =>
          intro W cb hW hcb
          have hsz := HO5.out.size_le
          refine (sorted29 cb w.heap.size n Ds Rh W hcb (HO5.out.kept (grown_of_below hW none) (by simp)) (by unfold maxLen; omega) (by omega)).mono ?_
          rintro e w' ⟨v, ss', rfl, hp, hrow, _, hb⟩
          refine ⟨v, rfl, ?_, hb⟩
          have e1 : ss'.mergeSort leB = rs := by rw [← Hrs.out]; exact mergeSort_of_perm hp
          have e2 : ss'.length = rs.length := by rw [← e1, List.length_mergeSort]
          rw [show (fun x y : List UInt8 => decide (x ≤ y)) = leB from rfl, e1, e2] at hrow
          exact hrow
        intro f w' cb ix rg re ro nm ra rc ea ec sa sc hf hp
        simp only [fill, S12, List.setIfInBounds_toArray, List.set_cons_succ, List.set_cons_zero, hf]
        go_wp2_with fail
        go_meet
        case rel => exact ⟨cb, ix, rg, re, ro, nm, ra, rc, ea, ec, sa, sc, rfl, hp⟩
      case rest =>
        obtain ⟨cb, ix, rg, re, ro, nm, ra, rc, ea, ec, sa, sc, rfl, hp⟩ := hcut
        generalize hwx : wc = w6 at *
        clear hwx
        obtain ⟨eb, rfl, hEv0, hebB⟩ : ∃ eb, ea = some ⟨eb, 0, none⟩ ∧ EvAt eb (M + 2) 0 w6 ∧ w5.heap.size ≤ eb := by
          rcases hp.every.2 with ⟨e, h0⟩ | ⟨g, cap, cur, e, h1, h2, h3, h4, h5, h6⟩
          · exact absurd h0 (by show ¬ (M + 2 = 0); omega)
          · injection e with e1 e2 e3
            exact ⟨g, e1, ⟨cur, h2, by rw [h5]; have : M + 2 ≤ cap := h3; omega, fun j hj => by omega⟩, h1⟩
        have hcblt := heap_lt hp.blk
        have hsz6 := hp.below.size
        have hU6 : w6.ownsRow (w.heap.size + 1) 9 1 (.slice ua (M + 2) uc) (M + 2) ((uName ss un).map Value.string) := by
          rw [← users_eq]; exact own_move HU5.out (fun g' _ hl => hp.below.block g' hl)
        have hixlt := hp.index.lt
        have hebcb : eb ≠ cb := fun e => by
          obtain ⟨cur, h1, _⟩ := hEv0
          rw [e, hp.blk] at h1; simp at h1
        have hebix : eb ≠ ix := fun e => by
          obtain ⟨cur, h1, _⟩ := hEv0
          obtain ⟨es, c, h2, _⟩ := hp.index
          rw [e, h2] at h1; cases h1
        have hcbix : cb ≠ ix := fun e => by
          obtain ⟨es, c, h2, _⟩ := hp.index
          rw [← e, hp.blk] at h2; cases h2
        have Hp := hid hp; have HEv0 := hid hEv0; have HU6 := hid hU6
        have hul : (uName ss un).length = M + 2 := by rw [uName_len, HM.out]
        have hun1 : ∀ u ∈ uName ss un, u.size ≤ 140737488355328 := fun u hu => by
          simp only [uName, List.mem_cons, List.mem_append, List.mem_map, List.not_mem_nil, or_false] at hu
          rcases hu with rfl | ⟨x, hx, rfl⟩ | rfl
          · decide
          · have h1 := Hmx1.out x hx
            show x.toArray.size ≤ _
            rw [List.size_toArray]; omega
          · rw [← Hun.out]
            show (Lib.repeatL [63] (lg + 1)).toArray.size ≤ _
            rw [List.size_toArray, repeat_len]; omega
        obtain ⟨uL, huL⟩ : ∃ x, uName ss un = x := ⟨_, rfl⟩
        rw [huL] at hul hun1
        have HuL := hid huL; have Hul := hid hul; have Hun1 := hid hun1
        clear hp hEv0 hU6 huL hul hun1
        go_wp2
        go_loopw [94] (fun vk wr => ∃ (i : Nat) (Di : DataW Value), i ≤ M + 2 ∧ vk = .int .i64 i ∧ Fr (fun b => b = ix ∨ b = eb) w6 wr ∧ wr.ownsMap Ybaz.prog 9 Rh ix i Di ∧ IxAt uL i Di ∧ EvAt eb (M + 2) i wr) (fun vk _ => M + 2 - (intOf vk).toNat)
        case atStart => exact ⟨0, .map [], by omega, rfl, Fr.refl _ _, Hp.out.index, IxAt.start _, HEv0.out⟩
        case round =>
          generalize wr = wz at *
          obtain ⟨i, Di, hi3, rfl, hF, hOi, hIx, hEv⟩ := hrel
          have HF := hid hF; have HOi := hid hOi; have HIx := hid hIx; have HEv := hid hEv
          have hszz := hF.size
          have hblk := hF.keep Hp.out.blk (by rintro (e | e); exact hcbix e; exact hebcb e.symm)
          have hltix := hOi.lt
          clear hF hOi hIx hEv
          by_cases hiU : i < M + 2
          · have hiUi : (i : Int) < (M : Int) + 2 := by omega
            obtain ⟨u, hu⟩ : ∃ u, uL[i]? = some u := ⟨_, List.getElem?_eq_getElem (by rw [Hul.out]; exact hiU)⟩
            have hus := Hun1.out u (List.mem_of_getElem? hu)
            obtain ⟨gu, hgu, hguB, hgu5, hguc5⟩ := user_cell (by have := HU5.out; rw [users_eq, HuL.out] at this; exact this) hu
            subst hgu
            have hguc : w6.cell? ⟨gu, i, none⟩ = some (.string u) := (Hp.out.below.cell (p := ⟨gu, i, none⟩) hgu5).trans hguc5
            have hgul : gu < w6.heap.size := by omega
            have hguix : gu ≠ ix ∧ gu ≠ eb := by have := Hp.out.ixlo; omega
            have d0 : wz.cell? ⟨gu, i, none⟩ = some (.string u) := (cell_eq (HF.out.block gu hgul (by rintro (e | e); exact hguix.1 e; exact hguix.2 e)) i).trans hguc
            have b4 : wz.cell? ⟨cb, 4, none⟩ = some (.map (some ix)) := by rw [cell_of hblk]; rfl
            have b9 : wz.cell? ⟨cb, 9, none⟩ = some (.slice (some ⟨eb, 0, none⟩) (M + 2) ec) := by rw [cell_of hblk]; rfl
            obtain ⟨v0, st, w1, w3, k1, k2, k3, k4, k5⟩ := entry67 (w := wz.drew) HOi.out (by unfold maxLen; omega) u (by unfold maxLen; omega) (.int .i64 (i : Int))
            have hEv3 : EvAt eb (M + 2) i w3 := HEv.out.move (k3.block eb (by obtain ⟨c, h1, _⟩ := HEv.out; exact heap_lt h1) (by simpa using hebix))
            obtain ⟨cur3, e1, e2, e3⟩ := hEv3
            obtain ⟨vold, hvo⟩ : ∃ v, cur3[i]? = some v := ⟨_, Array.getElem?_eq_getElem (by omega)⟩
            have f0 : w3.cell? ⟨eb, i, none⟩ = some vold := by rw [cell_of e1]; exact hvo
            have f1 := frozen_of e1 i
            have HEv3 := hid (show EvAt eb (M + 2) i w3 from ⟨cur3, e1, e2, e3⟩); have K3 := hid k3; have K4 := hid k4; have K5 := hid k5; have Hu := hid hu
            clear e1 e2 e3 hvo k3 k4 k5 hu hguc hguc5 hblk
            go_wp2_with fail
            go_region
            go_wp2
            go_roundw
            case rel =>
              obtain ⟨es, c, hm1, _⟩ := HOi.out
              refine ⟨i + 1, _, by omega, by go_num, ((HF.out.drew).grown K3.out (.inl rfl) ⟨es, c, hm1⟩).setCell eb i _ (.inl (.inr rfl)), K5.out.setCell (by simpa using hebix.symm) _, HIx.out.put HOi.out Hu.out (by unfold maxLen; omega), HEv3.out.set hiU⟩
            case measure => simp [intOf] <;> omega
          · have hiUi : ¬ (i : Int) < (M : Int) + 2 := by omega
            obtain rfl : i = M + 2 := by omega
            have hmb : ∀ b, b < w6.heap.size → b ≠ ix → b ≠ eb → wz.heap[b]? = w6.heap[b]? := fun b hb h1 h2 => HF.out.block b hb (by rintro (e | e); exact h1 e; exact h2 e)
            have hBz : Below w.heap.size w wz := by
              have h1 := HF.out.below (B := w.heap.size) (by have := HB5.out.size; omega) (fun b hb => by have := Hp.out.ixlo; have := HB5.out.size; rintro (e | e) <;> omega)
              have h2 : Below w.heap.size w w6 := HB5.out.trans (Hp.out.below.mono HB5.out.size)
              exact h2.trans h1
            obtain ⟨gu, hgu, hguB, hgu5, _⟩ := user_cell (i := 0) (u := ⟨#[]⟩) (by have := HU5.out; rw [users_eq] at this; exact this) (by rfl)
            subst hgu
            obtain ⟨K, hK⟩ : ∃ K : CK, K = ⟨fb, DD, cb, ix, rg, re, ro, nm, eb, gu, ra, rc, ec, sa, sc, uc, rs, uL, M + 2⟩ := ⟨_, rfl⟩
            have hKc : wz.heap[cb]? = some (.cells (K.cells (fun _ => nilS) (fun _ => nilS)) 80 (0, 0)) := by rw [hK]; exact hblk
            have ownk : ∀ {e : TypeId} {v : Value} {n' : Nat} {xs : List Value}, w6.ownsRow w5.heap.size e 1 v n' xs → (∀ b, v.ownBlock = some b → b ≠ eb) → wz.ownsRow 0 e 1 v n' xs := fun {e v n' xs} h1 h2 => own_base (own_move h1 (fun g' hg' hl => hmb g' hl (fun e' => by
                obtain ⟨es, c, hm, _⟩ := Hp.out.index
                rcases h1.2 with ⟨rfl, _⟩ | ⟨g2, cap, cur, rfl, _, k2, _⟩
                · simp [Value.ownBlock] at hg'
                · simp only [Value.ownBlock, Option.some.injEq] at hg'
                  subst hg'; rw [e', hm] at k2; cases k2) (h2 g' hg'))) (Nat.zero_le _)
            have hebtag : ∀ {e : TypeId} {v : Value} {n' : Nat} {xs : List Value}, w6.ownsRow w5.heap.size e 1 v n' xs → e ≠ 3 → ∀ b, v.ownBlock = some b → b ≠ eb := fun {e v n' xs} h1 h2 b hb e' => by
                obtain ⟨cur, k1, _⟩ := HEv0.out
                exact own_tag h1 k1 (fun e => h2 e.symm) (by rw [hb, e'])
            have mapk : ∀ {kt b n' : Nat} {Dd : DataW Value}, w6.ownsMap Ybaz.prog kt Rh b n' Dd → b ≠ ix → wz.ownsMap Ybaz.prog kt Rh b n' Dd := fun {kt b n' Dd} h1 h2 => by
                obtain ⟨es, c, k1, k2⟩ := h1
                exact ⟨es, c, (hmb b (heap_lt k1) h2 (fun e => by obtain ⟨cur, k3, _⟩ := HEv0.out; rw [e, k3] at k1; cases k1)).trans k1, k2⟩
            have hBase : Base Bd K wz := by
              rw [hK]
              refine ⟨HC.out.files.below (hBz.mono hBw), ownk Hp.out.repos (hebtag Hp.out.repos (by decide)), ?_, HEv.out, ownk Hp.out.slot (hebtag Hp.out.slot (by decide)), ⟨_, _, HOi.out, HIx.out⟩, mapk Hp.out.regr Hp.out.ne1.symm, mapk Hp.out.rests Hp.out.ne2.symm, mapk Hp.out.restsOf Hp.out.ne3.symm⟩
              have hu6 := HU5.out
              rw [users_eq, HuL.out] at hu6
              refine own_base (own_move (own_move hu6 (fun g' _ hl => Hp.out.below.block g' hl)) (fun g' hg' hl => ?_)) (Nat.zero_le _)
              have : g' = gu := by simpa [Value.ownBlock] using hg'.symm
              subst this
              exact hmb g' hl (by have := Hp.out.ixlo; omega) (by omega)
            have hcbB : Bd ≤ cb := by have := Hp.out.lo; have := HB5.out.size; omega
            have hszz5 : w.heap.size ≤ wz.heap.size := hBz.size
            have b0 : wz.cell? ⟨cb, 0, none⟩ = some (.pointer (some ⟨fb 0, 0, none⟩)) := by rw [cell_of hblk]; rfl
            have b1 : wz.cell? ⟨cb, 1, none⟩ = some (.pointer (some ⟨fb 1, 0, none⟩)) := by rw [cell_of hblk]; rfl
            have hcbz : cb < wz.heap.size := heap_lt hblk
            have hKcb : K.cb = cb ∧ K.fb = fb ∧ K.DD = DD ∧ K.U = M + 2 ∧ K.uL = uL ∧ K.gu = gu ∧ K.uc = uc := by rw [hK]; exact ⟨rfl, rfl, rfl, rfl, rfl, rfl, rfl⟩
            have HKrs := hid (show K.rs = rs by rw [hK])
            obtain ⟨fd, hfd⟩ : ∃ x, wz.heap.size = x := ⟨_, rfl⟩
            obtain ⟨w8, hw8⟩ : ∃ x, wz.alloc (Obj.cells #[.string ⟨#[]⟩, .slice none 0 0, .pointer none, .slice none 0 0, .bool false, .slice none 0 0] 109) = x := ⟨_, rfl⟩
            have hB8 : Below wz.heap.size wz w8 := by rw [← hw8]; exact (Below.refl _ wz).alloc (Nat.le_refl _) _
            have hs8 : w8.heap.size = fd + 1 := by rw [← hw8, ← hfd]; simp
            have hf8 : w8.heap[fd]? = some (.cells #[.string ⟨#[]⟩, .slice none 0 0, .pointer none, .slice none 0 0, .bool false, .slice none 0 0] 109 (0, 0)) := by rw [← hw8, ← hfd]; exact heap_alloc_new _ _
            have hc8 : w8.heap[cb]? = some (.cells (K.cells (fun _ => nilS) (fun _ => nilS)) 80 (0, 0)) := (hB8.block cb hcbz).trans hKc
            have b0' : w8.cell? ⟨cb, 0, none⟩ = some (.pointer (some ⟨fb 0, 0, none⟩)) := (hB8.cell (p := ⟨cb, 0, none⟩) hcbz).trans b0
            have b1' : w8.cell? ⟨cb, 1, none⟩ = some (.pointer (some ⟨fb 1, 0, none⟩)) := (hB8.cell (p := ⟨cb, 1, none⟩) hcbz).trans b1
            have HBase := hid hBase; have HB8 := hid hB8; have Hf8 := hid hf8; have Hc8 := hid hc8; have HBz := hid hBz; have HKcb := hid hKcb; have Hfd := hid hfd; have Hw8 := hid hw8; have HKc := hid hKc
            rw [hfd] at hcbz hszz5
            clear hBase hB8 hf8 hc8 hBz hmb ownk hebtag mapk hKcb hK hKc hw8 hblk HF HOi HIx HEv HEv0 b0 b1
            have hkeys := strKeys_set HO5.out
            have hrsp : rs.Perm (strKeys Ds) := by rw [← Hrs.out]; exact List.mergeSort_perm _ _
            have hrsF : rs.Pairwise (fun a b => decide (a ≤ b) = true) ∧ rs.Nodup ∧ (∀ x, x ∈ rs ↔ RepoTo DD 2 x) ∧ rs.length ≤ 1000000 := by
              refine ⟨by rw [← Hrs.out]; exact sorted_le _, hrsp.symm.nodup_iff.1 hkeys.1, fun x => by rw [hrsp.mem_iff, hkeys.2 x]; exact HSet.out x, ?_⟩
              have h1 := hrsp.length_eq
              have h2 : (strKeys Ds).length = Maps.size Ds := by
                obtain ⟨es, rfl, _⟩ := HO5.out.keysOf
                simp [strKeys, Maps.size]
              have h3 := HO5.out.size_le
              omega
            have HrsF := hid hrsF
            clear hkeys hrsp hrsF
            clear HU6 HU5 HO5 HSet
            go_upto_region 19 with fail
            rw [Hw8.out]
            clear hfd
            go_wp2
            go_loopw [119] (fun vk wr => ∃ (k : Nat) (p m : Nat → Value) (T : Nat → Prop), k ≤ 2 ∧ vk = .int .i64 k ∧ wr.heap[cb]? = some (.cells (K.cells p m) 80 (0, 0)) ∧ Fr (fun b => b = cb) wz wr ∧ (∀ b, T b → fd < b ∧ b < wr.heap.size) ∧ Found Bd fd (fun b => b < fd ∨ T b) wr ∧ ∀ k', k' < k → Done Bd K k' (p k') (m k') T wr) (fun vk _ => 2 - (intOf vk).toNat)
            case atStart =>
              refine ⟨0, fun _ => nilS, fun _ => nilS, fun _ => False, by omega, rfl, Hc8.out, Fr.of_new HB8.out, fun b hb => hb.elim, ⟨_, _, _, _, _, _, 0, [], Hf8.out, World.ownsRow_nil _ _ _ _, .inl rfl, fun b hb => by simp [Value.ownBlock] at hb, fun b hb => by simp [Value.ownBlock] at hb⟩, fun k' hk' => by omega⟩
            case round =>
              generalize wr = wq4 at *
              obtain ⟨k, p, m, T, hk2, rfl, hcq, hFq, hTq, hfq, hDq⟩ := hrel
              have Hcq := hid hcq; have HFq := hid hFq; have HTq := hid hTq; have Hfq := hid hfq; have HDq := hid hDq
              have hszq4 := hFq.size
              have hfdq : fd < wq4.heap.size := by
                obtain ⟨_, _, _, _, _, _, _, _, h1, _⟩ := hfq
                exact heap_lt h1
              rw [Hfd.out] at hszq4
              clear hcq hFq hTq hfq hDq
              by_cases hk22 : k < 2
              · have hki : (k : Int) < 2 := by omega
                have hidx := index64 fb k hk22
                have hBq : Below w.heap.size w wq4 := HBz.out.trans (HFq.out.below (B := w.heap.size) (by rw [Hfd.out]; exact hszz5) (fun b hb e => by have := Hp.out.lo; have := HB5.out.size; omega))
                have hfile := (HC.out.files.below (hBq.mono hBw)).file k hk22
                have hD255 := HC.out.n255 k hk22
                have hsm := HC.out.files.small k hk22
                obtain ⟨D, hD⟩ : ∃ D, DD k = D := ⟨_, rfl⟩
                rw [hD] at hfile hD255 hsm
                obtain ⟨N, hN⟩ : ∃ N : Nat, D.n = (N : Int) := ⟨D.n.toNat, by omega⟩
                have hN255 : N ≤ 255 := by omega
                have hNt : D.n.toNat = N := by omega
                obtain ⟨_, wa, wcap, hc6, _⟩ := hfile.within
                rw [hNt] at hc6
                obtain ⟨rb, Dm, kr, hrb, hrbB, hOr, hRi, hk4⟩ := hfile.rules
                have hfbl := hfile.lt
                have Hfile := hid hfile; have HD := hid hD; have HN := hid hN; have HNt := hid hNt; have Hsm := hid hsm; have HOr := hid hOr; have HRi := hid hRi; have HBq := hid hBq
                clear hfile hD hN hNt hsm hOr hRi hBq hD255
                obtain ⟨i4, hi4, hz40, hz41, hz42⟩ := info_parts info4
                go_wp2_with (at_make; refine wpList_make_full _ rfl _ _ 84 rfl wq4.heap.size 4 i4 (.bool false) 1 Ybaz.underlying84 hi4 hz40 hz41 _ _ _ _ N rfl rfl rfl rfl ?b1 ?b2 ?b3 ?_)
                case b1 => first | omega | (rw [hz42]; omega)
                case b2 => unfold maxLen; omega
                case b3 => first | exact Nat.le_refl _ | omega | simp
                intro w9 hown9 hg9
                obtain ⟨ab2, hab2⟩ : ∃ x, wq4.heap.size = x := ⟨_, rfl⟩
                have hAsk9 : AskAt ab2 N (fun _ => false) w9 := by
                  have : w9.ownsRow wq4.heap.size 4 1 (.slice (some ⟨wq4.heap.size, 0, none⟩) N N) N (madeCells #[.bool false] N).toList := by simpa [Value.cells] using hown9
                  rw [hab2] at this
                  exact own_ask this
                have hl9 : ab2 < w9.heap.size := by obtain ⟨c, h1, _⟩ := hAsk9; exact heap_lt h1
                obtain ⟨w10, hw10⟩ : ∃ x, w9.alloc (Obj.cells #[.slice (some ⟨ab2, 0, none⟩) N N] 84) = x := ⟨_, rfl⟩
                obtain ⟨ob, hob⟩ : ∃ x, w9.heap.size = x := ⟨_, rfl⟩
                have hs10 : w10.heap.size = ob + 1 := by rw [← hw10, ← hob]; simp
                have hb10 : w10.heap[ob]? = some (.cells #[.slice (some ⟨ab2, 0, none⟩) N N] 84 (0, 0)) := by rw [← hw10, ← hob]; exact heap_alloc_new _ _
                have hB10 : Below wq4.heap.size wq4 w10 := by
                  rw [← hw10]
                  exact (show Below wq4.heap.size wq4 w9 from ⟨hg9.os, hg9.tape, hg9.output, hg9.size, fun b hb => hg9.block b hb (by simp)⟩).alloc hg9.size _
                have hAsk10 : AskAt ab2 N (fun _ => false) w10 := hAsk9.move (by rw [← hw10]; exact Below.heap_alloc _ _ _ hl9)
                have hrb10 : w10.cell? ⟨fb k, 1, none⟩ = some (.map (some rb)) := (hB10.cell (p := ⟨fb k, 1, none⟩) (by show fb k < wq4.heap.size; have := HBq.out.size; omega)).trans hrb
                have hOr10 : w10.ownsMap Ybaz.prog 125 Rh rb kr Dm := HOr.out.kept (grown_of_below hB10 none) (by simp)
                have Hw10 := hid hw10; have Hob := hid hob; have Hb10 := hid hb10; have HB10 := hid hB10; have HAsk10 := hid hAsk10; have HOr10 := hid hOr10; have Hab2 := hid hab2
                rw [hab2] at hszq4 hfdq ⊢
                rw [hob] at hl9
                clear hown9 hg9 hAsk9 hb10 hB10 hAsk10 hOr10 hw10 hob
                clear hab2
                go_upto_region 23 with fail
                rw [Hob.out, Hw10.out]
                go_wp2_with (first | (at_range; refine wpList_range_own _ rfl _ 89 rfl 125 126 law125 Ybaz.underlying89 Rh rb kr Dm rfl HOr10.out ?_; intro w0 hrg0 hg0 hs0) | go_in)
                obtain ⟨r, hr⟩ : ∃ x, w10.heap.size = x := ⟨_, rfl⟩
                rw [hr] at hrg0 ⊢
                have hF0 : Fr (fun b => b = ab2) w10 w0 := Fr.of_new ⟨hg0.os, hg0.tape, hg0.output, hg0.size, fun b hb => hg0.block b hb (by simp)⟩
                have hAsk0 : AskAt ab2 N (fun _ => false) w0 := HAsk10.out.move (hg0.block ab2 (by omega) (by simp))
                have hsize := HOr10.out.size_le
                have hrr : ob < r := by omega
                have hent : nEnts D ≤ 600 := by
                  unfold nEnts
                  have h1 := Hsm.out.un
                  have h2 := Hsm.out.gn
                  split <;> omega
                obtain ⟨ea, ece, hER, hAll, hRep, pS, qS, kS, hkS, hhS, hatS, _, hqS, hcS⟩ := HRi.out
                have HER := hid hER; have HAll := hid hAll; have HatS := hid hatS; have HcS := hid hcS
                have Hrg0 := hid hrg0; have HF0 := hid hF0; have HAsk0 := hid hAsk0; have Hr := hid hr
                have hBd4 : Bd ≤ ab2 := by have := HBq.out.size; have := Hab2.out; omega
                have hold : ∀ W : World, Fr (fun b => b = ab2) w10 W → ∀ b j, b < Bd → W.cell? ⟨b, j, none⟩ = wq4.cell? ⟨b, j, none⟩ := fun W hW b j hb => cell_eq ((hW.block b (by omega) (by omega)).trans (HB10.out.block b (by rw [Hab2.out]; omega))) j
                have Hold := hid hold
                clear hrg0 hg0 hs0 hF0 hAsk0 hER hAll hRep hkS hatS hcS hr hold
                try go_frame
                go_loopw [135] (fun _ wr => ∃ (left : Lit → Bool) (cnt : Nat) (f : Nat → Bool), wr.ranges Ybaz.prog 125 Rh rb r kr Dm left cnt ∧ Fr (fun b => b = ab2) w10 wr ∧ AskAt ab2 N f wr ∧ (∀ g, f g = true → AskedP D g) ∧ (left kS = false → ∀ g, g < N → AskedP D g → f g = true)) (fun _ wr => wr.rangeLeft rb r)
                case atStart => exact ⟨_, _, fun _ => false, Hrg0.out, HF0.out, HAsk0.out, fun g h => by simp at h, fun h => by rw [hhS] at h; cases h⟩
                case round =>
                  generalize wr = wy at *
                  obtain ⟨left, cnt, f, hrg, hFy, hAy, hf1, hf2⟩ := hrel
                  have Hrg := hid hrg; have HFy := hid hFy; have HAy := hid hAy; have Hf1 := hid hf1; have Hf2 := hid hf2
                  have hltr := hrg.owns.lt
                  have hltr2 := hrg.lt
                  clear hrg hFy hAy hf1 hf2
                  go_wp2_with (first | (at_next; refine wpList_next_rules _ rfl _ rfl rb r kr Dm left cnt rfl Hrg.out (fun kl hk => by obtain ⟨r1, p1, q1, e1, e2, _⟩ := HAll.out kl hk; exact ⟨r1, p1, q1, e1, e2⟩) ?_ ?_) | go_in)
                  · intro hc0 hl0
                    have Hl0 := hid hl0
                    clear hl0
                    have hAskB : AskAt ab2 N (askB D) wy := by
                      obtain ⟨cur, h1, h2, h3⟩ := HAy.out
                      refine ⟨cur, h1, h2, fun g hg => ?_⟩
                      rw [h3 g hg]
                      congr 2
                      unfold askB
                      by_cases ha : AskedP D g
                      · simp [ha, Hf2.out (Hl0.out kS) g hg ha]
                      · cases hc : f g with
                        | false => simp [ha]
                        | true => exact absurd (Hf1.out g hc) ha
                    have hszy := HFy.out.size
                    have hs10 := Hr.out
                    have hcby : wy.heap[cb]? = some (.cells (K.cells p m) 80 (0, 0)) := HFy.out.keep ((HB10.out.block cb (by rw [Hab2.out]; omega)).trans Hcq.out) (by omega)
                    obtain ⟨i109, hi109, hq0, hq1, hq2⟩ := info_parts info109
                    obtain ⟨w11, hmk1, ho11, hg11⟩ := run_make_full (P := Ybaz.prog) wy.drew wy.heap.size 68 109 i109 (.agg #[.string ⟨#[]⟩, .slice none 0 0, .pointer none, .slice none 0 0, .bool false, .slice none 0 0]) 6 Ybaz.underlying68 hi109 hq0 hq1 .i64 .i64 (M + 2) (by rw [hq2]; omega) (by unfold maxLen; omega) (Nat.le_refl _)
                    have hmk1' : (Instr.makeSlice 68 (.int .i64 ((M : Int) + 2)) (.int .i64 ((M : Int) + 2))).run Ybaz.prog wy.drew = .ok (.slice (some ⟨wy.heap.size, 0, none⟩) (M + 2) (M + 2)) w11 := by
                      have := hmk1
                      push_cast at this
                      exact this
                    have hc11 : w11.heap[cb]? = some (.cells (K.cells p m) 80 (0, 0)) := (hg11.block cb (heap_lt hcby) (by simp)).trans hcby
                    have x5 : w11.cell? ⟨cb, 5 + k, none⟩ = some (p k) := by rw [cell_of hc11]; exact K.get_p p m k hk22
                    have x5f := frozen_of hc11 (5 + k)
                    have HAskB := hid hAskB; have Hcby := hid hcby; have Ho11 := hid ho11; have Hg11 := hid hg11; have Hc11 := hid hc11
                    clear hAskB hcby hmk1 ho11 hg11 hc11
                    go_wp2_with fail
                    go_region
                    obtain ⟨pb, hpb⟩ : ∃ x, wy.heap.size = x := ⟨_, rfl⟩
                    have Hpb := hid hpb
                    rw [hpb]
                    clear hpb hmk1'
                    generalize hw12 : w11.setCell ⟨cb, 5 + k, none⟩ (.slice (some ⟨pb, 0, none⟩) (M + 2) (M + 2)) = w12
                    have hsz11 := Hg11.out.size
                    have hsz12 : w12.heap.size = w11.heap.size := by rw [← hw12]; simp
                    have hO12 : w12.os = w11.os ∧ w12.tape = w11.tape ∧ w12.output = w11.output := by rw [← hw12]; exact ⟨rfl, rfl, rfl⟩
                    have HO12 := hid hO12
                    clear hO12
                    have hc12 : w12.heap[cb]? = some (.cells (K.cells (upd p k (.slice (some ⟨pb, 0, none⟩) (M + 2) (M + 2))) m) 80 (0, 0)) := by
                      rw [← hw12, heap_set Hc11.out, K.set_p p m k hk22]
                    have hk12 : ∀ b, b ≠ cb → w12.heap[b]? = w11.heap[b]? := fun b hb => by rw [← hw12]; exact Below.heap_setCell _ _ _ _ (by simpa using hb)
                    have hk11 : ∀ b, b < wy.heap.size → w11.heap[b]? = wy.heap[b]? := fun b hb => Hg11.out.block b hb (by simp)
                    have hoby : wy.heap[ob]? = some (.cells #[.slice (some ⟨ab2, 0, none⟩) N N] 84 (0, 0)) := HFy.out.keep Hb10.out (by omega)
                    have hob12 : w12.heap[ob]? = some (.cells #[.slice (some ⟨ab2, 0, none⟩) N N] 84 (0, 0)) := (hk12 ob (by omega)).trans ((hk11 ob (heap_lt hoby)).trans hoby)
                    have xo : w12.cell? ⟨ob, 0, none⟩ = some (.slice (some ⟨ab2, 0, none⟩) N N) := by rw [cell_of hob12]; rfl
                    obtain ⟨i77, hi77, hy0, hy1, hy2⟩ := info_parts info77
                    obtain ⟨w13, hmk2, ho13, hg13⟩ := run_make_full (P := Ybaz.prog) w12.drew w12.heap.size 70 77 i77 (.slice none 0 0) 1 Ybaz.underlying70 hi77 hy0 hy1 .i64 .i64 N (by rw [hy2]; omega) (by unfold maxLen; omega) (Nat.le_refl _)
                    have hmk2' : (Instr.makeSlice 70 (.int .i64 (N : Int)) (.int .i64 (N : Int))).run Ybaz.prog w12.drew = .ok (.slice (some ⟨w12.heap.size, 0, none⟩) N N) w13 := hmk2
                    have hc13 : w13.heap[cb]? = some (.cells (K.cells (upd p k (.slice (some ⟨pb, 0, none⟩) (M + 2) (M + 2))) m) 80 (0, 0)) := (hg13.block cb (heap_lt hc12) (by simp)).trans hc12
                    have x7 : w13.cell? ⟨cb, 7 + k, none⟩ = some (m k) := by rw [cell_of hc13]; exact K.get_m _ m k hk22
                    have x7f := frozen_of hc13 (7 + k)
                    have Hc12 := hid hc12; have Hk12 := hid hk12; have Hk11 := hid hk11; have Hob12 := hid hob12; have Ho13 := hid ho13; have Hg13 := hid hg13; have Hc13 := hid hc13; have Hsz12 := hid hsz12
                    clear hw12 hc12 hk12 hk11 hob12 hoby hmk2 ho13 hg13 hc13 hsz12 x5 x5f
                    go_wp2_with fail
                    go_region
                    obtain ⟨mb, hmb⟩ : ∃ x, w12.heap.size = x := ⟨_, rfl⟩
                    have Hmb := hid hmb
                    rw [hmb]
                    clear hmb hmk2'
                    generalize hw14 : w13.setCell ⟨cb, 7 + k, none⟩ (.slice (some ⟨mb, 0, none⟩) N N) = w14
                    have hsz13 := Hg13.out.size
                    have hsz14 : w14.heap.size = w13.heap.size := by rw [← hw14]; simp
                    have hO14 : w14.os = w13.os ∧ w14.tape = w13.tape ∧ w14.output = w13.output := by rw [← hw14]; exact ⟨rfl, rfl, rfl⟩
                    have hc14 : w14.heap[cb]? = some (.cells (K.cells (upd p k (.slice (some ⟨pb, 0, none⟩) (M + 2) (M + 2))) (upd m k (.slice (some ⟨mb, 0, none⟩) N N))) 80 (0, 0)) := by
                      rw [← hw14, heap_set Hc13.out, K.set_m _ m k hk22]
                    have hk14 : ∀ b, b ≠ cb → w14.heap[b]? = w13.heap[b]? := fun b hb => by rw [← hw14]; exact Below.heap_setCell _ _ _ _ (by simpa using hb)
                    have hk13 : ∀ b, b < w12.heap.size → w13.heap[b]? = w12.heap[b]? := fun b hb => Hg13.out.block b hb (by simp)
                    have e1 := Hab2.out; have e2 := Hpb.out; have e3 := Hmb.out; have e4 := Hsz12.out
                    have ho11' : w11.ownsRow wy.heap.size 109 6 (.slice (some ⟨pb, 0, none⟩) (M + 2) (M + 2)) (M + 2) (madeCells #[.string ⟨#[]⟩, .slice none 0 0, .pointer none, .slice none 0 0, .bool false, .slice none 0 0] ((M + 2) * 6)).toList := by
                      have := Ho11.out
                      rw [show wy.drew.heap.size = pb from e2] at this
                      exact this
                    have hP11 := PrinAt.start (Bd := Bd) (fbk := fb k) (D := D) (uL := uL) ho11'
                    have hpb11 : pb < w11.heap.size := by obtain ⟨c, h1, _⟩ := hP11; exact heap_lt h1
                    have ho13' : w13.ownsRow w12.heap.size 77 1 (.slice (some ⟨mb, 0, none⟩) N N) N (madeCells #[.slice none 0 0] N).toList := by
                      have := Ho13.out
                      rw [show w12.drew.heap.size = mb from e3] at this
                      simpa [Value.cells] using this
                    have hM13 := MembAt.start (D := D) (uL := uL) ho13'
                    have hmb13 : mb < w13.heap.size := by obtain ⟨c, h1, _⟩ := hM13; exact heap_lt h1
                    have hob13 : ob < wy.heap.size := by omega
                    have hkq : ∀ b, b < ab2 → b ≠ cb → w14.heap[b]? = wq4.heap[b]? := fun b hb hne => by
                      rw [hk14 b hne, hk13 b (by omega), Hk12.out b hne, Hk11.out b (by omega), HFy.out.block b (by omega) (by omega), HB10.out.block b (by omega)]
                    have hP14 : PrinAt Bd (fb k) D uL (M + 2) pb 0 (fun _ => False) w14 := hP11.keep (by rw [hk14 pb (by omega), hk13 pb (by omega), Hk12.out pb (by omega)]) (fun b hb => hb.elim) (fun b hb => hb) ⟨hO14.1.trans (Hg13.out.os.trans HO12.out.1), hO14.2.1.trans (Hg13.out.tape.trans HO12.out.2.1), hO14.2.2.trans (Hg13.out.output.trans HO12.out.2.2), by omega, fun b hb => by rw [hk14 b (by omega), hk13 b (by omega), Hk12.out b (by omega)]⟩
                    have hM14 : MembAt D uL mb N (mOf D uL 0) (fun _ => False) w14 := hM13.keep (hk14 mb (by omega)) (fun b hb => hb.elim) (fun b hb => hb)
                    have hA14 : AskAt ab2 N (askB D) w14 := HAskB.out.move (by rw [hk14 ab2 (by omega), hk13 ab2 (by omega), Hk12.out ab2 (by omega), Hk11.out ab2 (by omega)])
                    have hob14 : w14.heap[ob]? = some (.cells #[.slice (some ⟨ab2, 0, none⟩) N N] 84 (0, 0)) := by rw [hk14 ob (by omega), hk13 ob (by omega)]; exact Hob12.out
                    have hB14 : Below Bd wq4 w14 := ⟨hO14.1.trans (Hg13.out.os.trans (HO12.out.1.trans (Hg11.out.os.trans (HFy.out.1.trans HB10.out.os)))), hO14.2.1.trans (Hg13.out.tape.trans (HO12.out.2.1.trans (Hg11.out.tape.trans (HFy.out.2.1.trans HB10.out.tape)))), hO14.2.2.trans (Hg13.out.output.trans (HO12.out.2.2.trans (Hg11.out.output.trans (HFy.out.2.2.1.trans HB10.out.output)))), by omega, fun b hb => hkq b (by omega) (by omega)⟩
                    obtain ⟨nv0, lv0, mv0, wv0, gr0, se0, k00, xs00, f1', f2', f3', f4, f5⟩ := Hfq.out
                    have hkf : ∀ b, b < wq4.heap.size → ¬ (b < fd ∨ T b) → w14.heap[b]? = wq4.heap[b]? := fun b hb hS => hkq b (by omega) (fun e => hS (.inl (by omega)))
                    have hnfd : ¬ (fd < fd ∨ T fd) := by rintro (h | h); omega; have := HTq.out fd h; omega
                    have f1 : PrB fd nv0 lv0 mv0 gr0 wv0 se0 w14 := (hkf fd (heap_lt f1') hnfd).trans f1'
                    have f2 := own_move (w' := w14) f2' (fun g hg hl => hkf g hl (f4 g hg))
                    have f3 := f3'.move (w' := w14) (fun b hb hl => hkf b hl (f5 b hb))
                    have hgrlt : ∀ b, gr0.ownBlock = some b → b < ab2 := fun b hb => by have h1 := (f2'.lt b hb).2; omega
                    have hselt : ∀ b, se0.ownBlock = some b → b < ab2 := fun b hb => by have h1 := (f3'.lt hb).1; omega
                    obtain ⟨P0, hP0⟩ : ∃ P0 : Nat → Prop, P0 = fun b => b < w14.heap.size ∧ b ≠ fd ∧ gr0.ownBlock ≠ some b ∧ se0.ownBlock ≠ some b := ⟨_, rfl⟩
                    have hP0m : ∀ b, b < w14.heap.size → b ≠ fd → ((b < fd ∨ T b) ∨ ab2 ≤ b) → P0 b := fun b h1 h2 h3 => by
                      rw [hP0]
                      refine ⟨h1, h2, fun e => ?_, fun e => ?_⟩
                      · rcases h3 with h3 | h3
                        · exact f4 b e h3
                        · have := hgrlt b e; omega
                      · rcases h3 with h3 | h3
                        · exact f5 b e h3
                        · have := hselt b e; omega
                    have hF14 : Found Bd fd (fun b => P0 b ∨ False ∨ False) w14 := ⟨nv0, lv0, mv0, wv0, gr0, se0, k00, xs00, f1, f2, f3, fun b hb h => by rw [hP0] at h; rcases h with h | h | h; exact h.2.2.1 hb; exact h; exact h, fun b hb h => by rw [hP0] at h; rcases h with h | h | h; exact h.2.2.2 hb; exact h; exact h⟩
                    have hP0l : ∀ b, P0 b → b < w14.heap.size ∧ b ≠ fd := fun b h => by rw [hP0] at h; exact ⟨h.1, h.2.1⟩
                    have hguc14 : ∀ i u, uL[i]? = some u → w14.cell? ⟨gu, i, none⟩ = some (.string u) := fun i u hu => by
                      obtain ⟨k1, k2, k3, k4, k5, k6, k7⟩ := HKcb.out
                      have hus := HBase.out.users
                      rw [k4, k5, k6, k7] at hus
                      obtain ⟨g', e, _, hl, hc⟩ := user_cell hus hu
                      injection e with e; injection e with e
                      subst e
                      have hgcb : gu ≠ cb := fun e => by
                        have := own_tag hus HKc.out (by decide)
                        exact this (by rw [e]; rfl)
                      rw [Hfd.out] at hl
                      exact ((cell_eq (hkq gu (by omega) hgcb) i).trans (cell_eq (HFq.out.block gu (by rw [Hfd.out]; exact hl) hgcb) i)).trans hc
                    have hgufd : gu < fd := by
                      obtain ⟨k1, k2, k3, k4, k5, k6, k7⟩ := HKcb.out
                      have hus := HBase.out.users
                      rw [k4, k5, k6, k7] at hus
                      have := (hus.lt gu rfl).2
                      rw [Hfd.out] at this
                      exact this
                    have hpfd : fd < pb ∧ fd < mb ∧ ab2 < pb ∧ pb < mb ∧ mb < w14.heap.size ∧ ob < pb ∧ ab2 < ob := by omega
                    have hcb14 : w14.cell? ⟨cb, 5 + k, none⟩ = some (.slice (some ⟨pb, 0, none⟩) (M + 2) (M + 2)) := by rw [cell_of hc14]; have := K.get_p (upd p k (.slice (some ⟨pb, 0, none⟩) (M + 2) (M + 2))) (upd m k (.slice (some ⟨mb, 0, none⟩) N N)) k hk22; rw [this]; simp [upd]
                    have hcb14m : w14.cell? ⟨cb, 7 + k, none⟩ = some (.slice (some ⟨mb, 0, none⟩) N N) := by rw [cell_of hc14]; have := K.get_m (upd p k (.slice (some ⟨pb, 0, none⟩) (M + 2) (M + 2))) (upd m k (.slice (some ⟨mb, 0, none⟩) N N)) k hk22; rw [this]; simp [upd]
                    have hL70 : L7 Bd fd pb mb N (fb k) D uL (M + 2) P0 (fun _ => False) (fun _ => False) w14 0 w14 := ⟨fun b h => h.elim, fun b h => h.elim, fun b h => h.elim, hF14, hP14, hM14, fun _ _ => rfl, Below.refl _ _⟩
                    have HL70 := hid hL70; have Hkq := hid hkq; have HP0m := hid hP0m; have HP0l := hid hP0l; have Hguc14 := hid hguc14; have Hc14 := hid hc14; have HA14 := hid hA14; have Hob14 := hid hob14; have HB14 := hid hB14; have Hcb14 := hid hcb14; have Hcb14m := hid hcb14m; have Hpfd := hid hpfd
                    have hw14s : w14.heap.size = w13.heap.size := hsz14
                    clear hL70 hkq hP0m hP0l hguc14 hc14 hA14 hob14 hB14 hcb14 hcb14m hpfd f1 f2 f3 f1' f2' f3' f4 f5 hkf hnfd hgrlt hselt hP0 hF14 hP14 hM14 hP11 hM13 ho11' ho13' hk13 hk14 hO14 hsz14 e1 e2 e3 e4 hw14 x7 x7f xo hpb11 hmb13 hob13 hsz13 hsz11 hszy hs10
                    have hPgu : P0 gu := HP0m.out gu (by have := Hpfd.out; omega) (by omega) (.inl (.inl hgufd))
                    have hPcb : P0 cb := HP0m.out cb (by have := Hpfd.out; omega) (by omega) (.inl (.inl (by omega)))
                    have hPab : P0 ab2 := HP0m.out ab2 (by have := Hpfd.out; omega) (by omega) (.inr (by omega))
                    have hPob : P0 ob := HP0m.out ob (by have := Hpfd.out; omega) (by have := Hpfd.out; omega) (.inr (by have := Hpfd.out; omega))
                    have hPpb0 : P0 pb := HP0m.out pb (by have := Hpfd.out; omega) (by have := Hpfd.out; omega) (.inr (by have := Hpfd.out; omega))
                    have hPmb0 : P0 mb := HP0m.out mb (by have := Hpfd.out; omega) (by have := Hpfd.out; omega) (.inr (by have := Hpfd.out; omega))
                    go_upto_block 12 with fail
                    refine nB12 _ Bd fd pb mb N (fb k) k cb gu uc ob ab2 M D uL P0 w14 hk22 hN255 HN.out HNt.out Hsm.out hss6 Hul.out Hun1.out HP0l.out ⟨hPgu, hPcb, hPab, hPob, hPpb0, hPmb0⟩ ⟨hcbB, by omega, hgufd, by omega⟩ Hpfd.out Hguc14.out (Hfile.out.below HB14.out) Hob14.out HA14.out Hcb14.out Hcb14m.out HL70.out ?_
                    rintro y23 y24 y25 y27 y174 y175 y176 y177 y178 y179 y180 y181 y182 y183 y184 y185 y186 y187 y188 y189 y190 y191 y192 y193 y194 y195 y196 y197 y198 y199 y200 y201 y202 y203 y204 y205 y206 y207 y208 y209 y210 y211 y212 y213 y214 y215 y216 y217 y218 y219 y220 y221 y222 y223 y224 y225 y226 y227 y228 y229 y230 y231 v0 ⟨G, Mm, hL7⟩
                    have HL7 := hid hL7
                    clear hL7 hPgu hPcb hPab hPob hPpb0 hPmb0
                    go_wp2
                    go_roundw
                    case rel =>
                      have hpl := HL7.out
                      obtain ⟨q1, q2, q3, q4, q5, q6, q7⟩ := Hpfd.out
                      have e1 := Hab2.out
                      obtain ⟨kb1, kb2, kb3, kb4, kb5, kb6, kb7⟩ := HKcb.out
                      have hkold : ∀ b, b < ab2 → b ≠ cb → (b < fd ∨ T b) → v0.heap[b]? = wq4.heap[b]? := fun b h1 h2 h3 => (hpl.kp b ⟨HP0m.out b (by omega) (fun e => by rcases h3 with h | h; omega; have := HTq.out b h; omega) (.inl h3), by omega, by omega⟩).trans (Hkq.out b h1 h2)
                      have hTl : ∀ b, T b → b < ab2 ∧ b ≠ cb := fun b hb => by have := HTq.out b hb; omega
                      have hcbv : v0.heap[cb]? = some (.cells (K.cells (upd p k (.slice (some ⟨pb, 0, none⟩) (M + 2) (M + 2))) (upd m k (.slice (some ⟨mb, 0, none⟩) N N))) 80 (0, 0)) := (hpl.kp cb ⟨HP0m.out cb (by omega) (by omega) (.inl (.inl (by omega))), by omega, by omega⟩).trans Hc14.out
                      have hPpb : P0 pb := HP0m.out pb (by omega) (by omega) (.inr (by omega))
                      have hPmb : P0 mb := HP0m.out mb (by omega) (by omega) (.inr (by omega))
                      have hBq0 : Below Bd wq4 v0 := HB14.out.trans hpl.below
                      have hszv := hpl.below.size
                      refine ⟨k + 1, _, _, fun b => T b ∨ G b ∨ Mm b ∨ b = pb ∨ b = mb, by omega, by go_num, hcbv, ?_, fun b hb => ?_, ?_, fun k' hk' => ?_⟩
                      · refine ⟨hBq0.os.trans HFq.out.1, hBq0.tape.trans HFq.out.2.1, hBq0.output.trans HFq.out.2.2.1, by rw [Hfd.out]; omega, fun b hb hne => ?_, fun b cur T' fr hb => ?_⟩
                        · rw [Hfd.out] at hb
                          exact (hkold b (by omega) hne (.inl hb)).trans (HFq.out.block b (by rw [Hfd.out]; exact hb) hne)
                        · by_cases hbc : b = cb
                          · subst hbc
                            rw [HKc.out] at hb
                            simp only [Option.some.injEq, Obj.cells.injEq] at hb
                            obtain ⟨rfl, rfl, rfl⟩ := hb
                            exact ⟨_, hcbv, by simp [CK.cells, compCells]⟩
                          · have hbl := heap_lt hb
                            rw [Hfd.out] at hbl
                            obtain ⟨c1, k1, k2⟩ := HFq.out.row hb
                            exact ⟨c1, (hkold b (by omega) hbc (.inl hbl)).trans k1, k2⟩
                      · rcases hb with h | h | h | h | h
                        · have := HTq.out b h; omega
                        · have := hpl.g b h; omega
                        · have := hpl.m b h; omega
                        · omega
                        · omega
                      · refine hpl.found.keep (by rintro (h | h | h); exact (HP0l.out fd h).2 rfl; have := hpl.g fd h; omega; have := hpl.m fd h; omega) (fun _ _ _ => rfl) (fun b hb h => ?_)
                        rcases h with h | h | h | h | h | h
                        · exact .inl (HP0m.out b (by omega) (by omega) (.inl (.inl h)))
                        · have := HTq.out b h
                          exact .inl (HP0m.out b (by omega) (by omega) (.inl (.inr h)))
                        · exact .inr (.inl h)
                        · exact .inr (.inr h)
                        · rw [h]; exact .inl hPpb
                        · rw [h]; exact .inl hPmb
                      · by_cases hkk : k' = k
                        · subst hkk
                          refine ⟨pb, mb, by simp [upd, kb4], by rw [kb3, HD.out, HNt.out]; simp [upd], .inr (.inr (.inr (.inl rfl))), .inr (.inr (.inr (.inr rfl))), ?_, ?_⟩
                          · rw [kb2, kb3, kb4, kb5, HD.out]
                            exact hpl.prin.keep rfl (fun _ _ => rfl) (fun b hb => .inr (.inl hb)) (Below.refl _ _)
                          · rw [kb3, kb4, kb5, HD.out, HNt.out]
                            exact hpl.memb.keep rfl (fun _ _ => rfl) (fun b hb => .inr (.inr (.inl hb)))
                        · have := (HDq.out k' (by omega)).keep (T' := fun b => T b ∨ G b ∨ Mm b ∨ b = pb ∨ b = mb) (w' := v0) (fun b hb => hkold b (hTl b hb).1 (hTl b hb).2 (.inr hb)) (fun b hb => .inl hb) hBq0
                          simpa [upd, hkk] using this
                    case measure => simp [intOf] <;> omega
                  · intro rr pp q kl w1 cnt1 hkk hhas hlk hat hrg1 hlt hg1 hs1 hen
                    have hF1 : Fr (fun b => b = ab2) w10 w1 := by
                      have h0 := HFy.out
                      refine ⟨hg1.os.trans h0.1, hg1.tape.trans h0.2.1, hg1.output.trans h0.2.2.1, Nat.le_trans h0.size hg1.size, fun b hb hs => (hg1.block b (Nat.lt_of_lt_of_le hb h0.size) (by have := Hr.out; simp; omega)).trans (h0.block b hb hs), fun b cur T' fr hb => ?_⟩
                      obtain ⟨c1, k1, k2⟩ := h0.row hb
                      exact ⟨c1, (hg1.block b (heap_lt k1) (by have := heap_lt hb; have := Hr.out; simp; omega)).trans k1, k2⟩
                    have hA1 : AskAt ab2 N f w1 := HAy.out.move (hg1.block ab2 (by obtain ⟨c, h1, _⟩ := HAy.out; exact heap_lt h1) (by simp; omega))
                    have hcq : ∃ A ne C, w1.cell? ⟨q, 7, none⟩ = some (.slice A ne C) ∧ ne ≤ nEnts D ∧ (ne = 0 ∨ A = ea) ∧ (kl = kS → ne = nEnts D) := by
                      have hqe : ∀ q', (∀ z, Dm.atKey kl z = .held (.pointer (some ⟨q', 0, none⟩))) → q' = q := fun q' h => by
                        have h1 := h (.map [])
                        rw [hat] at h1
                        injection h1 with h1; injection h1 with h1; injection h1 with h1; injection h1 with h1
                        exact h1.symm
                      by_cases ek : kl = kS
                      · have := hqe qS (by rw [ek]; exact HatS.out)
                        subst this
                        exact ⟨ea, _, ece, by rw [Hold.out w1 hF1 _ _ hqS]; exact HcS.out, Nat.le_refl _, .inr rfl, fun _ => rfl⟩
                      · obtain ⟨r1, p1, q1, _, e2, _, _, hq1, hc⟩ := HAll.out kl hhas
                        have := hqe q1 e2
                        subst this
                        rcases hc with hc | hc
                        · exact ⟨none, 0, 0, by rw [Hold.out w1 hF1 _ _ hq1]; exact hc, by omega, .inl rfl, fun h => absurd h ek⟩
                        · exact ⟨ea, _, ece, by rw [Hold.out w1 hF1 _ _ hq1]; exact hc, Nat.le_refl _, .inr rfl, fun h => absurd h ek⟩
                    obtain ⟨A, ne, C, hc7, hne, hneA, hneS⟩ := hcq
                    have HneA := hid hneA; have HneS := hid hneS; have Hrg1 := hid hrg1; have HF1 := hid hF1; have HA1 := hid hA1
                    clear hneA hneS hrg1 hF1 hA1 hkk hhas hlk hat hg1 hs1
                    go_wp2
                    go_loopw [144] (fun vk wr => ∃ (t : Nat) (f' : Nat → Bool), t ≤ ne ∧ vk = .int .i64 t ∧ wr.ranges Ybaz.prog 125 Rh rb r kr Dm (fun z => left z && !z.sameKey kl) cnt1 ∧ Fr (fun b => b = ab2) w10 wr ∧ AskAt ab2 N f' wr ∧ ∀ g, f' g = true ↔ (f g = true ∨ AskTo D t g)) (fun vk _ => ne - (intOf vk).toNat)
                    case atStart => exact ⟨0, f, by omega, rfl, Hrg1.out, HF1.out, HA1.out, fun g => ⟨.inl, fun h => h.elim id (fun ⟨t', h, _⟩ => by omega)⟩⟩
                    case round =>
                      generalize wr = wv at *
                      obtain ⟨t, f', ht, rfl, hrv, hFv, hAv, hsv⟩ := hrel
                      have Hrv := hid hrv; have HFv := hid hFv; have HAv := hid hAv; have Hsv := hid hsv
                      have hszv := hFv.size
                      have hrlt := hrv.lt
                      have hrblt := hrv.owns.lt
                      clear hrv hFv hAv hsv
                      by_cases htn : t < ne
                      · have hti : (t : Int) < (ne : Int) := by omega
                        obtain ⟨kd, nme, gg, hcells, hkind⟩ := entAt D t (by omega)
                        have hAe : A = ea := HneA.out.resolve_left (by omega)
                        obtain ⟨bb, hbe, _, hbbB, _⟩ := HER.out (t * 7 + 0) _ ((hcells 0 (by omega)).trans rfl)
                        have hcl : ∀ c u, c < 7 → (ent kd nme gg)[c]? = some u → wv.cell? ⟨bb, t * 7 + c, none⟩ = some u := fun c u hc hu => by
                          obtain ⟨b', e1, _, e2, e3⟩ := HER.out (t * 7 + c) u ((hcells c hc).trans hu)
                          rw [hbe] at e1; injection e1 with e1; injection e1 with e1
                          subst e1
                          exact (Hold.out wv HFv.out bb _ hbbB).trans e3
                        have x0 := hcl 0 _ (by omega) rfl
                        have x1 := hcl 1 _ (by omega) rfl
                        have x2 := hcl 2 _ (by omega) rfl
                        have x3 := hcl 3 _ (by omega) rfl
                        have x4 := hcl 4 _ (by omega) rfl
                        have x5 := hcl 5 _ (by omega) rfl
                        have x6 := hcl 6 _ (by omega) rfl
                        rw [Nat.add_zero] at x0
                        rw [hAe, hbe]
                        obtain ⟨wU, hwU⟩ : ∃ x, wv.alloc (Obj.cells #[.int .u8 kd, .string nme, .int .i32 gg, .bool false, .int .u8 0, .int .i64 0, .string ⟨#[]⟩] 136) = x := ⟨_, rfl⟩
                        have hbU : wU.heap[wv.heap.size]? = some (.cells #[.int .u8 kd, .string nme, .int .i32 gg, .bool false, .int .u8 0, .int .i64 0, .string ⟨#[]⟩] 136 (0, 0)) := by rw [← hwU]; exact heap_alloc_new _ _
                        have y0 : wU.cell? ⟨wv.heap.size, 0, none⟩ = some (.int .u8 kd) := by rw [cell_of hbU]; rfl
                        have y2 : wU.cell? ⟨wv.heap.size, 2, none⟩ = some (.int .i32 gg) := by rw [cell_of hbU]; rfl
                        have HrU := hid (show wU.ranges Ybaz.prog 125 Rh rb r kr Dm (fun z => left z && !z.sameKey kl) cnt1 by rw [← hwU]; exact Hrv.out.alloc _)
                        have HFU := hid (show Fr (fun b => b = ab2) w10 wU by rw [← hwU]; exact HFv.out.alloc _)
                        have HAU := hid (show AskAt ab2 N f' wU by rw [← hwU]; exact HAv.out.move (Below.heap_alloc _ _ _ (by obtain ⟨c, h1, _⟩ := HAv.out; exact heap_lt h1)))
                        have hoU : wU.cell? ⟨ob, 0, none⟩ = some (.slice (some ⟨ab2, 0, none⟩) N N) := by rw [cell_of (HFU.out.keep Hb10.out (by omega))]; rfl
                        have Hkind := hid hkind; have HwU := hid hwU
                        clear hcells hkind hAe hbe hcl hbU hwU
                        go_upto_region 29 with fail
                        rw [HwU.out]
                        by_cases hk4d : kd = 4
                        · obtain ⟨m4, hm4, hm4N⟩ : ∃ m4 : Nat, gg = (m4 : Int) ∧ m4 < N := by
                            rcases Hkind.out with h | h
                            · omega
                            · have h1 := h.2.2.2.2.2
                              have h2 := h.2.2.2.1
                              have h3 := Int.emod_nonneg (D.grp (t - D.un)) (show D.n ≠ 0 by omega)
                              have h4 := Int.emod_lt_of_pos (D.grp (t - D.un)) h2
                              rw [← h1] at h3 h4
                              have := HN.out
                              exact ⟨gg.toNat, by omega, by omega⟩
                          subst hm4 hk4d
                          have hm4i : (m4 : Int) < (N : Int) := by omega
                          obtain ⟨cu, hu1, hu2, hu3⟩ := HAU.out
                          have z1 : wU.cell? ⟨ab2, m4, none⟩ = some (.bool (f' m4)) := by rw [cell_of hu1]; exact hu3 m4 hm4N
                          have z2 := frozen_of hu1 m4
                          clear hu1 hu2 hu3
                          go_wp2
                          go_roundw
                          case rel =>
                            have hset := HAU.out.set m4
                            have hmap : ∃ es c, wU.heap[rb]? = some (.map es c) := by obtain ⟨es, c, _, _, _, h1, _⟩ := HrU.out; exact ⟨es, c, h1⟩
                            have hrU2 : (wU.setCell ⟨ab2, m4, none⟩ (.bool true)).ranges Ybaz.prog 125 Rh rb r kr Dm (fun z => left z && !z.sameKey kl) cnt1 := by
                              have hab2r : ab2 ≠ rb ∧ ab2 ≠ r := by have := Hr.out; constructor; omega; omega
                              exact HrU.out.kept (row := some ab2) ⟨rfl, rfl, rfl, by simp [World.setCell], fun b _ hb => Below.heap_setCell _ _ _ _ (fun e => hb (by rw [e]))⟩ (by simp; omega) (by simp; omega)
                            refine ⟨t + 1, _, by omega, by go_num, hrU2, HFU.out.setCell ab2 m4 _ (.inl rfl), hset, fun g => ?_⟩
                            rw [AskTo.succ]
                            have hk := Hkind.out.resolve_left (by rintro ⟨_, h, _⟩; omega)
                            by_cases e : g = m4
                            · subst e
                              simp only [if_true, true_iff]
                              exact .inr (.inr ⟨hk.1, hk.2.2.2.2.1, hk.2.2.2.1, hk.2.2.2.2.2.symm⟩)
                            · simp only [if_neg e]
                              rw [Hsv.out g]
                              constructor
                              · rintro (h | h)
                                · exact .inl h
                                · exact .inr (.inl h)
                              · rintro (h | h | ⟨_, _, _, h⟩)
                                · exact .inl h
                                · exact .inr h
                                · exfalso
                                  rw [← hk.2.2.2.2.2] at h
                                  omega
                          case measure => simp [intOf] <;> omega
                        · have hk4b : (kd == 4) = false := by simpa using hk4d
                          go_wp2
                          go_roundw
                          case rel =>
                            refine ⟨t + 1, f', by omega, by go_num, HrU.out, HFU.out, HAU.out, fun g => ?_⟩
                            have hk := Hkind.out.resolve_right (by rintro ⟨_, h, _⟩; exact hk4d h)
                            rw [AskTo.succ, Hsv.out g]
                            constructor
                            · rintro (h | h)
                              · exact .inl h
                              · exact .inr (.inl h)
                            · rintro (h | h | ⟨h, _⟩)
                              · exact .inl h
                              · exact .inr h
                              · omega
                          case measure => simp [intOf] <;> omega
                      · have hti : ¬ (t : Int) < (ne : Int) := by omega
                        obtain rfl : t = ne := by omega
                        go_wp2
                        go_roundw
                        case rel =>
                          refine ⟨_, cnt1, f', Hrv.out, HFv.out, HAv.out, fun g hg => ?_, fun h g hgN hg => (Hsv.out g).2 ?_⟩
                          · rcases (Hsv.out g).1 hg with h | ⟨t', h1, h2⟩
                            · exact Hf1.out g h
                            · exact AskTo.all.1 ⟨t', by omega, h2⟩
                          · rcases Bool.and_eq_false_iff.1 h with h | h
                            · exact .inl (Hf2.out h g hgN hg)
                            · have hk : kS = kl := WideAt.sameKey_eq (by simpa using h)
                              have := HneS.out hk.symm
                              right
                              rw [this]
                              exact AskTo.all.2 hg
                        case measure => rw [Hrv.out.left_eq, Hrg.out.left_eq]; exact hlt
              · have hki : ¬ (k : Int) < 2 := by omega
                obtain rfl : k = 2 := by omega
                have hBq : Below w.heap.size w wq4 := HBz.out.trans (HFq.out.below (B := w.heap.size) (by rw [Hfd.out]; exact hszz5) (fun b hb e => by have := Hp.out.lo; have := HB5.out.size; omega))
                have hfl := HC.out.files.below (hBq.mono hBw)
                have hf0 := hfl.file 0 (by omega)
                have hf1 := hfl.file 1 (by omega)
                obtain ⟨kb1, kb2, kb3, kb4, kb5, kb6, kb7⟩ := HKcb.out
                have c0 : wq4.cell? ⟨cb, 0, none⟩ = some (.pointer (some ⟨fb 0, 0, none⟩)) := by rw [cell_of Hcq.out, ← kb2]; rfl
                have c1 : wq4.cell? ⟨cb, 1, none⟩ = some (.pointer (some ⟨fb 1, 0, none⟩)) := by rw [cell_of Hcq.out, ← kb2]; rfl
                have H37 := hid (changeOf37 cb (fb 0) (fb 1) wq4 ⟨#[]⟩ (by decide) c0 c1 hf0.lits hf0.wilds hf1.lits hf1.wilds)
                have HBq := hid hBq
                have hcl := heap_lt Hcq.out
                have HKb := hid (And.intro kb1 (And.intro kb2 (And.intro kb3 (And.intro kb4 kb5))))
                clear hBq hfl hf0 hf1 c0 c1 kb1 kb2 kb3 kb4 kb5 kb6 kb7
                go_wp2_with (first
                  | (go_at_call 37; refine H37.out.mono ?_; rintro e x1 ⟨rfl, hb1⟩; have hx1 := (hb1.block cb hcl).trans Hcq.out; have y10 : x1.cell? ⟨cb, 10, none⟩ = some (.slice none 0 0) := (by rw [cell_of hx1]; rfl); have y11 : x1.cell? ⟨cb, 11, none⟩ = some (.bool false) := (by rw [cell_of hx1]; rfl); have y12 : x1.cell? ⟨cb, 12, none⟩ = some (.slice none 0 0) := (by rw [cell_of hx1]; rfl); have y13 : x1.cell? ⟨cb, 13, none⟩ = some (.slice none 0 0) := (by rw [cell_of hx1]; rfl); have z10 := frozen_of hx1 10; have z11 := frozen_of hx1 11; have z12 := frozen_of hx1 12; have z13 := frozen_of hx1 13; have Hb1 := hid hb1; clear hb1 hx1)
                  | (go_at_call 40; refine (values40 _).mono ?_; rintro e w' ⟨rfl, rfl⟩))
                have hcell : ((sh4 x1 cb).alloc (.cells #[.slice none 0 0] 23)).cell? ⟨x1.heap.size, 0, none⟩ = some (.slice none 0 0) := by
                  have h1 : (sh4 x1 cb).heap.size = x1.heap.size := by unfold sh4; simp
                  have h2 := heap_alloc_new (sh4 x1 cb) (.cells #[.slice none 0 0] 23)
                  rw [h1] at h2
                  rw [cell_of h2]; rfl
                refine (sorted39 x1.heap.size _ hcell).mono ?_
                rintro e x4 ⟨rfl, hb4⟩
                have hfin := comp_fin (K := K) (p := p) (m := m) (wq := wq4) (x1 := x1) (x4 := x4) (by rw [HKb.out.1]; exact Hcq.out) Hb1.out (by rw [HKb.out.1]; exact hb4)
                have hx4 := hfin.2.2
                rw [HKb.out.1] at hx4
                have w10 : x4.cell? ⟨cb, 10, none⟩ = some (.slice none 0 0) := by rw [cell_of hx4]; rfl
                have w10f := frozen_of hx4 10
                have HFin := hid hfin
                clear hfin hx4 hb4 hcell
                go_wp2_with (go_at_call 38; refine (Ybaz.slices_Compact_int_empty _ _ _).mono ?_; rintro e w' ⟨rfl, hw'⟩; have hw2 := hw'.symm; subst hw2)
                go_ret
                obtain ⟨kb1, kb2, kb3, kb4, kb5⟩ := HKb.out
                obtain ⟨h1, h2, _⟩ := HFin.out
                rw [kb1] at h1 h2
                have hFz : Fr (fun b => b = cb) wz (x4.setCell ⟨cb, 10, none⟩ (.slice none 0 0)) := HFq.out.trans h2
                have hsz := h2.size
                have hlo := Hp.out.lo
                have hw5 := HB5.out.size
                refine ⟨K, p, m, T, ss, lg, by rw [kb1]; rfl, kb2, kb3, by rw [kb5, ← HuL.out, Hun.out], by rw [kb4, HM.out], by rw [kb1]; exact h1, ?_, fun k' hk' => ?_, fun b hb => by have := HTq.out b hb; omega, ⟨Hso.out, Hnd.out, Hmem.out, Hmx1.out, Hmx2.out, hlg, by rw [HM.out]; exact hss6⟩, by rw [HKrs.out]; exact HrsF.out, ?_⟩
                · exact HBase.out.keep (by rw [kb1]; exact HKc.out) (by rw [kb1]; exact hcbB) (by rw [kb1]; exact hFz) (by rw [Hfd.out]; omega)
                · exact (HDq.out k' hk').keep (fun b hb => h2.block b (HTq.out b hb).2 (fun e => by have := HTq.out b hb; omega)) (fun b hb => hb) (h2.below (by have := HBq.out.size; omega) (fun b hb e => by omega))
                · exact HBq.out.trans (h2.below HBq.out.size (fun b hb e => by omega))
end Go.Proofs.YbulkchuuGreatDoor
