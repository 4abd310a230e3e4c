import Derived.Test.YbulkchuuGreatDoorV5
import Derived.Test.YbulkchuuGreatDoorW1
import Derived.Test.YbulkchuuGreatDoorW3
import Derived.Test.YbulkchuuGreatDoorTie
import Derived.Test.YbulkchuuGreatDoorCards
import Derived.ProofKit
import Derived.OpenShut
import Derived.ShutString
import Derived.ChangeOld
import Derived.LaidMore
import Derived.Lib.LaidTab
import Derived.Stop.LaidErr
import Derived.SevenTiedAt
import Derived.Stop.Joined
namespace Go.Proofs.YbulkchuuGreatDoor
open Go.ChangeShapes Go.WideShapes Go.ChangeAt Go.RowKit
open Go.ChangeMaps (open_string shut_string)
set_option linter.unusedVariables false
set_option linter.unusedSimpArgs false
set_option linter.unnecessarySimpa false
set_option maxRecDepth 100000

theorem gSeg : Ybaz.prog.globalNamed "example.com/austere-access/austere-access.anySegmentsSegment" = some 0 := by kernel_rfl
theorem tSeg : (Ybaz.prog.globals[0]?).map (·.type) = some 148 := by kernel_rfl
theorem gPow : Ybaz.prog.globalNamed "internal/strconv.uint64pow10" = some 4 := by kernel_rfl
theorem tPow : (Ybaz.prog.globals[4]?).map (·.type) = some 345 := by kernel_rfl
theorem g32 : Ybaz.prog.globalNamed "math/bits.deBruijn32tab" = some 7 := by kernel_rfl
theorem cellsB4 : Ybaz.prog.cellsOf 4 = 1 := by kernel_rfl
theorem cells32 : Ybaz.prog.cellsOf 32 = 1 := by kernel_rfl
theorem cells345 : Ybaz.prog.cellsOf 345 = 20 := by kernel_rfl
theorem cells148 : Ybaz.prog.cellsOf 148 = 7 := by kernel_rfl
theorem cells145 : Ybaz.prog.cellsOf 145 = 1 := by kernel_rfl
theorem cells146 : Ybaz.prog.cellsOf 146 = 1 := by kernel_rfl
theorem pow_data : (Rows.laid_internal_strconv_uint64pow10 : DataW Unit) = Lib.tabData .u64 Lib.pow10Tab := by rfl

theorem seg_cells {H : Type} {enc : TypeId × Value → H} {w : World} {base : Nat} {sp : Nat → Bool} {held : Bool} {fuel : Nat} {cs : List Value} {p : List MemPlace}
    (h : DataW.trod enc Ybaz.prog w base sp held fuel 148 cs = some (Rows.laid_example_com_austere_access_austere_access_anySegmentsSegment, p)) : cs = segCells.toList := by
  obtain ⟨xs, n, _, hx, hl, hxl, hfl⟩ := DataW.trod_struct Ybaz.underlying148 h
  rw [cells148] at hl
  obtain ⟨c0, c1, c2, c3, c4, c5, c6, rfl⟩ := list7 _ hl
  obtain ⟨x0, x1, x2, x3, x4, x5, x6, rfl⟩ := list7 xs hxl
  have k0 := hfl 0 _ rfl; have k1 := hfl 1 _ rfl; have k2 := hfl 2 _ rfl; have k3 := hfl 3 _ rfl; have k4 := hfl 4 _ rfl; have k5 := hfl 5 _ rfl; have k6 := hfl 6 _ rfl
  simp only [cells145, cells146, cells9, cellsB4, List.drop, List.take, List.getElem?_cons_zero, List.getElem?_cons_succ] at k0 k1 k2 k3 k4 k5 k6
  obtain ⟨z0, a0, b0, _⟩ := DataW.trod_int Ybaz.underlying145 k0
  obtain ⟨z1, a1, b1, _⟩ := DataW.trod_int Ybaz.underlying146 k1
  obtain ⟨s2, a2, b2, _⟩ := DataW.trod_string Ybaz.underlying9 k2
  obtain ⟨s3, a3, b3, _⟩ := DataW.trod_string Ybaz.underlying9 k3
  obtain ⟨s4, a4, b4, _⟩ := DataW.trod_string Ybaz.underlying9 k4
  obtain ⟨z5, a5, b5⟩ := DataW.trod_bool Ybaz.underlying4 k5
  obtain ⟨z6, a6, b6⟩ := DataW.trod_bool Ybaz.underlying4 k6
  injection hx with hx1 hx2
  subst b0 b1 b2 b3 b4 b5 b6
  unfold Rows.laid_example_com_austere_access_austere_access_anySegmentsSegment at hx1
  simp only [List.map, DataW.agg.injEq, List.cons.injEq, DataW.lit.injEq, Lit.int.injEq, Lit.string.injEq, Lit.bool.injEq, true_and, and_true] at hx1
  obtain ⟨e0, e1, e2, e3, e4, e5, e6⟩ := hx1
  injection a0 with a0; injection a1 with a1; injection a2 with a2; injection a3 with a3; injection a4 with a4; injection a5 with a5; injection a6 with a6
  have f2 : s2 = ⟨#[42, 42]⟩ := ByteArray.ext (Array.toList_inj.1 e2.symm)
  have f3 : s3 = ⟨#[]⟩ := ByteArray.ext (Array.toList_inj.1 e3.symm)
  have f4 : s4 = ⟨#[]⟩ := ByteArray.ext (Array.toList_inj.1 e4.symm)
  rw [a0, a1, a2, a3, a4, a5, a6, f2, f3, f4, ← e0, ← e1, ← e5, ← e6]
  rfl
theorem var_block {W : World} {name : String} {g : Nat} {cs : Array Value} (hg : Ybaz.prog.globalNamed name = some g) (hv : W.var? Ybaz.prog name = some cs) : ∃ t fr, W.heap[g]? = some (.cells cs t fr) := by
  unfold World.var? at hv
  simp only [hg, Option.bind_some] at hv
  split at hv
  · rename_i c t fr hh
    injection hv with hv
    subst hv
    exact ⟨t, fr, hh⟩
  · cases hv
theorem laid_facts {W : World} (h : laidMetH Ybaz.prog Rows.lawS4193BModelRow.laid W) : 8 ≤ W.heap.size ∧ Lib.TabIs Ybaz.prog W "internal/strconv.uint64pow10" .u64 Lib.pow10Tab ∧ ∃ T fr, W.heap[0]? = some (.cells segCells T fr) := by
  rw [MakeChecks.laidMetH_plain _ _ _ (by kernel_rfl)] at h
  have h0 : laidMet Ybaz.prog (("math/bits.deBruijn32tab", Rows.laid_math_bits_deBruijn32tab) :: [("math/bits.deBruijn64tab", Rows.laid_math_bits_deBruijn64tab), ("internal/strconv.uint64pow10", Rows.laid_internal_strconv_uint64pow10), ("example.com/austere-access/austere-access.anySegmentsSegment", Rows.laid_example_com_austere_access_austere_access_anySegmentsSegment)]) W := h
  have h2 := h0.tail.tail
  have h3 := h2.tail
  refine ⟨?_, ?_, ?_⟩
  · obtain ⟨ps, ⟨g, t, cs, fuel, p, q, hg, ht, hv, hd, _, _⟩, _, _⟩ := h0
    obtain ⟨t', fr, hb⟩ := var_block g32 hv
    have := heap_lt hb
    omega
  · rw [pow_data] at h2
    exact Lib.tabIs_of_head gPow tPow Ybaz.underlying345 Ybaz.underlying32 cells32 cells345 h2
  · obtain ⟨ps, ⟨g, t, cs, fuel, p, q, hg, ht, hv, hd, _, _⟩, _, _⟩ := h3
    obtain rfl := Option.some.inj (gSeg.symm.trans hg)
    obtain rfl := Option.some.inj (tSeg.symm.trans ht)
    obtain ⟨t', fr, hb⟩ := var_block gSeg hv
    have := seg_cells hd
    obtain rfl : cs = segCells := Array.toList_inj.1 this
    exact ⟨t', fr, hb⟩

theorem door_met (os : Os) (args : Array Value) : laidMetH Ybaz.prog Rows.lawS4193BModelRow.laid ((World.doorLaid Ybaz.prog 400 os).forCall (fun _ _ => 0) ⟨#[], args, []⟩).memory :=
  laidMetH_of_parts3 (fuel := 8) (laidMet_of_run' 8 (by kernel_rfl) (by kernel_rfl)) (by kernel_rfl) (by kernel_rfl)

def zero58 : Value := .agg #[.slice none 0 0, .slice none 0 0, .slice none 0 0, .slice none 0 0, .int .u8 0, .slice none 0 0, .slice none 0 0]

set_option maxRecDepth 100000 in
theorem lifted (os : Os) (started : os.Started) (H : Type) (enc : TypeId × Value → H) :
    ReturnsInHanded {} Ybaz.checked os 5 .any (fun w args => (Rows.lawS4193BModelSpec.pre enc Ybaz.prog Ybaz.f5 Rows.lawS4193BModelRow.domain false w args ∧ laidMetH Ybaz.prog Rows.lawS4193BModelRow.laid w) ∧ sizedMet enc Ybaz.prog Ybaz.f5 (OpenSpec.ofChange Rows.lawS4193BModelSpec) false w args)
      (Rows.lawS4193BModelSpec.post enc Ybaz.prog Ybaz.f5 false true false false) := by
  refine returnsInHanded_of_change_and (C := Ybaz.checked) (X := fun w _ => laidMetH Ybaz.prog Rows.lawS4193BModelRow.laid w) (fun _ _ _ hh h => h.of_heap hh) own started (by kernel_rfl) Ybaz.func5
    (ChangeSpec.witness_shaped (enc := enc) (C := Ybaz.checked) (os := os) (X := fun w _ => laidMetH Ybaz.prog Rows.lawS4193BModelRow.laid w) false (World.doorLaid Ybaz.prog 400 os) #[zero58, zero58] 8 rfl (World.shaped_of_RefB (by kernel_rfl) (by kernel_rfl)) (by kernel_rfl) (by kernel_rfl) (by kernel_rfl) (door_met os _)) ?_
  intro W base args ds gs before hval0 hW _ hwt hL _
  have hW' := hW
  obtain ⟨p, q, hA0, hV0, rfl, hfz, hnd⟩ := hW
  have hA : DataW.TrodAll enc Ybaz.prog W 0 (fun _ => true) true Ybaz.f5.params.toList args.toList ds p := hA0
  have hV : DataW.TrodVars enc Ybaz.prog W (fun _ => true) ["example.com/austere-access/austere-access.anySegmentsSegment"] gs q := hV0
  rw [Ybaz.params5] at hA
  obtain ⟨v0, vs0, d0, ds0, p0, q0, hargs, rfl, rfl, h0, r0⟩ := trodAll_cons hA
  obtain ⟨v1, vs1, d1, ds1, p1, q1, rfl, rfl, rfl, h1, r1⟩ := trodAll_cons r0
  obtain ⟨rfl, rfl, rfl⟩ := trodAll_nil r1
  obtain rfl : args = #[v0, v1] := by cases args; simp_all
  obtain ⟨g, t, cs, fuel, d, p', rfl, hg, ht, hvar, hd, rfl⟩ := trodVars_one hV
  obtain rfl := Option.some.inj (gSeg.symm.trans hg)
  obtain rfl := Option.some.inj (tSeg.symm.trans ht)
  have kv : DataW.Trod enc Ybaz.prog W 0 (fun _ => true) true 148 (.agg cs) d p' := ⟨fuel, hd⟩
  have lt0 : ∀ x ∈ p0, x.block < W.heap.size := by obtain ⟨m, hm⟩ := h0; exact DataW.trod_lt m _ _ _ hm
  have lt1 : ∀ x ∈ p1, x.block < W.heap.size := by obtain ⟨m, hm⟩ := h1; exact DataW.trod_lt m _ _ _ hm
  have ltv : ∀ x ∈ p', x.block < W.heap.size := by obtain ⟨m, hm⟩ := kv; exact DataW.trod_lt m _ _ _ hm
  obtain ⟨h8, htab, hseg⟩ := laid_facts hL
  have post : ∀ (e : Ending) (W' : World), LawPost W e W' → ∃ v, e = .returned v ∧ Rows.lawS4193BModelSpec.post enc Ybaz.prog Ybaz.f5 false true false false W #[v0, v1] v W' := by
    rintro e W' ⟨rfl, bel⟩
    obtain ⟨fuel2, hd2⟩ := Below.trod laidOut (by kernel_rfl) (of_decide_eq_true (by kernel_rfl)) kv bel ltv
    have hvars := trodVars_mk1 (enc := enc) (w := W') (spare := fun b => decide (b < W.heap.size)) gSeg tSeg (var?_below bel gSeg (by omega) hvar) hd2
    exact ⟨_, rfl, _, _, _, [], _, _, hW', trodAll_mk1 (shut_bool Ybaz.underlying4 _), (trodAll_cons_mk (Below.trod laidOut (by kernel_rfl) (of_decide_eq_true (by kernel_rfl)) h0 bel lt0) (trodAll_cons_mk (Below.trod laidOut (by kernel_rfl) (of_decide_eq_true (by kernel_rfl)) h1 bel lt1) trodAll_mk0)), hvars, bel.frame _, fun h => by cases h⟩
  have hfits : ∀ x, x ∈ d0.weights Ybaz.prog 58 ∨ x ∈ d1.weights Ybaz.prog 58 → x ≤ reachBytes := by
    have hwt' := hwt
    rw [Ybaz.params5, List.all_eq_true] at hwt'
    intro x hx
    have hm : x ∈ DataW.weightsEach Ybaz.checked.prog (#[58, 58].toList ++ DataSpec.varTypes Ybaz.checked.prog Rows.lawS4193BModelSpec.plain) ([d0, d1] ++ [d]) := by
      show x ∈ DataW.weightsEach Ybaz.prog (58 :: 58 :: DataSpec.varTypes Ybaz.checked.prog Rows.lawS4193BModelSpec.plain) (d0 :: d1 :: [d])
      rw [DataW.weightsEach, DataW.weightsEach]
      rcases hx with h | h
      · exact List.mem_append_left _ h
      · exact List.mem_append_right _ (List.mem_append_left _ h)
    exact of_decide_eq_true (hwt' x hm)
  obtain ⟨D0, rfl, i0⟩ := open58 h0 (fun x hx => hfits x (.inl hx))
  obtain ⟨D1, rfl, i1⟩ := open58 h1 (fun x hx => hfits x (.inr hx))
  have hlaw := law5 W.heap.size (fun i => if i = 0 then D0 else D1) W ⟨Nat.le_refl _, h8, fun i hi => by
    have : i = 0 ∨ i = 1 := by omega
    rcases this with rfl | rfl
    · exact i0
    · exact i1, htab, hseg⟩
  exact hlaw.mono post

theorem model_holds : Rows.LawS4193BModelSaid :=
  OpenClaim.holds_of_wide 5 Ybaz.f5 rfl rfl rfl rfl rfl rfl rfl ⟨rfl, rfl, rfl, rfl, rfl⟩ rfl rfl rfl rfl rfl bm_fn Ybaz.func5 bm_closed bm_inst bm_wrap
    (fun os started H enc _ => lifted os started H enc)

theorem model_card : Rows.LawS4193BModelCardSaid :=
  Claim7.holds_tied_plain_at .later [] [.data, .data, .data, .data] true (true, "a836e265d3414e008d0bc589f93fbfcf313f58c1eae75c9a8bfdedac45ab0115") false
    model_holds (fun _ h => by cases h) bm_wf (fun _ h => by cases h) lawS4193BModel_row_tie rfl ⟨rfl, rfl⟩ bm_main rfl
    (fun f fn hf hfn => by
      obtain rfl : f = 5 := Option.some.inj (bm_fn.symm.trans hf) |>.symm
      obtain rfl : fn = Ybaz.f5 := (Option.some.inj (Ybaz.func5.symm.trans hfn)).symm
      exact ⟨bm_looks, fun j t ht => by
        rw [Ybaz.params5] at ht
        have hm : t ∈ [58, 58] := by simpa using Array.mem_of_getElem? ht
        exact (show Ybaz.pinned.checked.prog.wantsStandIn t = false by simpa using List.all_eq_true.1 bm_stand t hm)⟩)
    bm_goes
end Go.Proofs.YbulkchuuGreatDoor
