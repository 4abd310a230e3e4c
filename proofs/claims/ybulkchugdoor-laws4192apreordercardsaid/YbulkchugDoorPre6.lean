import Derived.Test.YbulkchugDoorPre5
import Derived.Test.YbulkchugDoorTie
import Derived.Test.YbulkchugDoorCards
import Derived.ProofKit
import Derived.OpenShut
import Derived.ShutString
import Derived.ChangeOld
import Derived.LaidMore
import Derived.SevenTiedAt
import Derived.Stop.Joined
import Derived.Deep.SlicePairs
namespace Go.Proofs.YbulkchugDoor.Pre
open Go.ChangeShapes Go.WideShapes Go.ChangeAt Go.RowKit
open Go.Deep (open_slice_pairs)
set_option linter.unusedVariables false
set_option linter.unusedSimpArgs false

theorem own : ownKnob Ybad.prog.godebug = none := by kernel_rfl
theorem laidOut : laidOutB Ybad.prog = true := by kernel_rfl
theorem cells57 : Ybad.prog.cellsOf 57 = 2 := by kernel_rfl
theorem cells5 : Ybad.prog.cellsOf 5 = 1 := by kernel_rfl

theorem door_met (os : Os) (args : Array Value) : laidMetH Ybad.prog Rows.lawS4192APreorderRow.laid ((World.doorLaid Ybad.prog 400 os).forCall (fun _ _ => 0) ⟨#[], args, []⟩).memory :=
  laidMetH_of_parts3 (fuel := 8) (laidMet_of_run' 8 (by kernel_rfl) (by kernel_rfl)) (by kernel_rfl) (by kernel_rfl)

theorem add_none (b off k : Nat) : (⟨b, off, none⟩ : Addr).add k = ⟨b, off + k, none⟩ := by
  unfold Addr.add
  split
  · rename_i h; subst h; rfl
  · rfl

theorem nodes_of {H : Type} {enc : TypeId × Value → H} {W : World} {held : Bool} {base : Nat} {a : Option Addr} {len cap : Nat} {d : DataW H} {p : List MemPlace} (h : DataW.Trod enc Ybad.prog W base (fun _ => true) held 22 (.slice a len cap) d p) : ∃ ks, NodesAt W.heap.size a len ks W := by
  obtain ⟨fuel, hf⟩ := h
  rcases open_slice_pairs Ybad.underlying22 Ybad.underlying57 cells57 rfl rfl cells5 cells5 hf with ⟨hcs, _⟩ | ⟨x, l, c, m, n, V0, V1, D0, D1, P0, P1, hcs, _, hl, hm, hmm, _, hx⟩
  · simp [Value.cells] at hcs
    obtain ⟨rfl, rfl, rfl⟩ := hcs
    exact ⟨fun _ => (0, 0), fun i hi => by omega⟩
  · simp [Value.cells] at hcs
    obtain ⟨rfl, rfl, rfl⟩ := hcs
    simp at hmm
    subst hmm
    refine ⟨fun i => (intOf (V0 i), intOf (V1 i)), fun i hi => ?_⟩
    obtain ⟨e0, e1, t0, t1⟩ := hx i (by omega)
    have hs := World.cell?_spot (hx 0 (by omega)).1
    obtain ⟨bb, off, spot⟩ := x
    have hspot : spot = none := by simpa [Addr.add] using hs
    subst hspot
    rw [add_none] at e0 e1
    obtain ⟨z0, h0, _, wz0⟩ := DataW.trod_int Ybad.underlying5 t0
    obtain ⟨z1, h1, _, wz1⟩ := DataW.trod_int Ybad.underlying5 t1
    simp at h0 h1
    rw [h0] at e0
    rw [h1] at e1
    have b0 := bounds_u8 wz0
    have b1 := bounds_u8 wz1
    refine ⟨bb, off, rfl, World.block_lt_of_cell? W _ e0, ?_, ?_, ?_⟩
    · simpa [h0, intOf] using e0
    · simpa [h1, intOf, Nat.add_assoc] using e1
    · simp only [h0, h1, intOf]
      exact ⟨b0.1, b0.2, b1.1, b1.2⟩

theorem var_lt {W : World} {n : String} {g : Nat} {cs : Array Value} (hg : Ybad.prog.globalNamed n = some g) (hv : W.var? Ybad.prog n = some cs) : g < W.heap.size := by
  unfold World.var? at hv
  simp only [hg, Option.bind_some] at hv
  split at hv
  · rename_i h; exact heap_lt h
  · cases hv

set_option maxRecDepth 100000 in
theorem lifted (os : Os) (started : os.Started) (H : Type) (enc : TypeId × Value → H) :
    ReturnsInHanded {} Ybad.checked os 3 .any (fun w args => (Rows.lawS4192APreorderSpec.pre enc Ybad.prog Ybad.f3 Rows.lawS4192APreorderRow.domain false w args ∧ laidMetH Ybad.prog Rows.lawS4192APreorderRow.laid w) ∧ sizedMet enc Ybad.prog Ybad.f3 (OpenSpec.ofChange Rows.lawS4192APreorderSpec) false w args)
      (Rows.lawS4192APreorderSpec.post enc Ybad.prog Ybad.f3 false true false false) := by
  refine returnsInHanded_of_change_and (C := Ybad.checked) (X := fun w _ => laidMetH Ybad.prog Rows.lawS4192APreorderRow.laid w) (fun _ _ _ hh h => h.of_heap hh) own started (by kernel_rfl) Ybad.func3
    (ChangeSpec.witness_shaped (enc := enc) (C := Ybad.checked) (os := os) (X := fun w _ => laidMetH Ybad.prog Rows.lawS4192APreorderRow.laid w) false (World.doorLaid Ybad.prog 400 os) #[.slice none 0 0, .int .u8 0] 8 rfl (World.shaped_of_RefB (by kernel_rfl) (by kernel_rfl)) (by kernel_rfl) (by kernel_rfl) (by kernel_rfl) (door_met os _)) ?_
  intro W base args ds gs before hval0 hW _ _ hL _
  have hval : ∀ (j : Nat) t v, Ybad.f3.params[j]? = some t → args[j]? = some v → Value.okWide Ybad.prog W .any base t v := hval0
  have hW' := hW
  obtain ⟨p, q, hA0, hV0, rfl, hfz, hnd⟩ := hW
  have hA : DataW.TrodAll enc Ybad.prog W 0 (fun _ => true) true Ybad.f3.params.toList args.toList ds p := hA0
  have hV : DataW.TrodVars enc Ybad.prog W (fun _ => true) [Rows.lawS4192APreorderSpec.vars.headD ""] gs q := hV0
  rw [Ybad.params3] at hA hval
  obtain ⟨v0, vs0, d0, ds0, p0, q0, hargs, rfl, rfl, h0, r0⟩ := trodAll_cons hA
  obtain ⟨v1, vs1, d1, ds1, p1, q1, rfl, rfl, rfl, h1, r1⟩ := trodAll_cons r0
  obtain ⟨rfl, rfl, rfl⟩ := trodAll_nil r1
  obtain rfl : args = #[v0, v1] := by cases args; simp_all
  obtain ⟨g, t, cs, fuel, d, p', rfl, hg, ht, hvar, hd, rfl⟩ := trodVars_one hV
  have hT : (Ybad.prog.globals[g]?).map (·.type) = some t := ht
  obtain ⟨hrd, hts⟩ : Ybad.prog.readableRec t = true ∧ t < Ybad.prog.types.size := by
    have hg1 : Ybad.prog.globalNamed (Rows.lawS4192APreorderSpec.vars.headD "") = some 1 := by kernel_rfl
    obtain rfl := Option.some.inj (hg1.symm.trans hg)
    have ht1 : (Ybad.prog.globals[1]?).map (fun x => decide (Ybad.prog.readableRec x.type = true ∧ x.type < Ybad.prog.types.size)) = some true := by kernel_rfl
    rw [Option.map_eq_some_iff] at ht ht1
    obtain ⟨x, hx, rfl⟩ := ht
    obtain ⟨y, hy, hy2⟩ := ht1
    obtain rfl := Option.some.inj (hx.symm.trans hy)
    exact of_decide_eq_true hy2
  have kv : DataW.Trod enc Ybad.prog W 0 (fun _ => true) true t (.agg cs) d p' := ⟨fuel, hd⟩
  have k0 := h0
  have k1 := h1
  have lt0 : ∀ x ∈ p0, x.block < W.heap.size := by obtain ⟨m, hm⟩ := k0; exact DataW.trod_lt m _ _ _ hm
  have lt1 : ∀ x ∈ p1, x.block < W.heap.size := by obtain ⟨m, hm⟩ := k1; exact DataW.trod_lt m _ _ _ hm
  have ltv : ∀ x ∈ p', x.block < W.heap.size := by obtain ⟨m, hm⟩ := kv; exact DataW.trod_lt m _ _ _ hm
  have hgl := var_lt hg hvar
  have post : ∀ (e : Ending) (W' : World), (e = .returned (.bool true) ∧ Below W.heap.size W W') → ∃ v, e = .returned v ∧ Rows.lawS4192APreorderSpec.post enc Ybad.prog Ybad.f3 false true false false W #[v0, v1] v W' := by
    rintro e W' ⟨rfl, bel⟩
    obtain ⟨fuel2, hd2⟩ := Below.trod laidOut hrd hts kv bel ltv
    have hvars := trodVars_mk1 (enc := enc) (w := W') (spare := fun b => decide (b < W.heap.size)) hg hT (var?_below bel hg hgl hvar) hd2
    exact ⟨_, rfl, _, _, _, [], _, _, hW', trodAll_mk1 (shut_bool Ybad.underlying4 _), (trodAll_cons_mk (Below.trod laidOut (by kernel_rfl) (of_decide_eq_true (by kernel_rfl)) k0 bel lt0) (trodAll_cons_mk (Below.trod laidOut (by kernel_rfl) (of_decide_eq_true (by kernel_rfl)) k1 bel lt1) trodAll_mk0)), hvars, bel.frame _, fun h => by cases h⟩
  obtain ⟨a0, n0, c0, rfl⟩ := okWide_slice Ybad.underlying22 (hval 0 22 v0 rfl rfl)
  obtain ⟨ks, hN⟩ := nodes_of h0
  obtain ⟨na, rfl, _, _, wna⟩ := open_int Ybad.underlying5 (hval 1 5 v1 rfl rfl) h1
  clear hA0 hval0
  by_cases b1 : n0 ≤ 512
  · exact (law_any a0 n0 c0 ks na W b1 (bounds_u8 wna) hN).mono post
  · exact (law_big a0 n0 c0 na W (by omega)).mono post

theorem preorder_holds : Rows.LawS4192APreorderSaid :=
  OpenClaim.holds_of_wide 3 Ybad.f3 rfl rfl rfl rfl rfl rfl rfl ⟨rfl, rfl, rfl, rfl, rfl⟩ rfl rfl rfl rfl rfl (by kernel_rfl) Ybad.func3 (by kernel_rfl)
    (of_decide_eq_true (by kernel_rfl)) (by unfold Func.isWrapper; first | (rw [if_pos (by decide +kernel)]; kernel_rfl) | (rw [if_neg (by decide +kernel)]; exact ⟨rfl, rfl⟩))
    (fun os started H enc _ => lifted os started H enc)

theorem card0 : Rows.LawS4192APreorderCardSaid :=
  Claim7.holds_tied_plain_at .later [] [.data] true (true, "e3bf67cd9a32f7eefe4e2be8ee786edf087dc87cea6a69f30f71257cd3044fbd") true
    preorder_holds (fun _ h => by cases h) (by kernel_rfl) (fun _ h => by cases h) lawS4192APreorder_row_tie rfl ⟨rfl, rfl⟩ (by kernel_rfl) rfl
    (fun f fn hf hfn => by
      obtain rfl : f = 3 := Option.some.inj ((show Ybad.prog.funcNamed Rows.lawS4192APreorderRow.func = some 3 by kernel_rfl).symm.trans hf) |>.symm
      obtain rfl : fn = Ybad.f3 := (Option.some.inj (Ybad.func3.symm.trans hfn)).symm
      exact ⟨by kernel_rfl, fun j t ht => by
        rw [Ybad.params3] at ht
        have hm : t ∈ [22, 5] := by simpa using Array.mem_of_getElem? ht
        have hall : ([22, 5].all fun u => !Ybad.prog.wantsStandIn u) = true := by kernel_rfl
        exact (show Ybad.prog.wantsStandIn t = false by simpa using List.all_eq_true.1 hall t hm)⟩)
    (by kernel_rfl)
end Go.Proofs.YbulkchugDoor.Pre

namespace Go.Proofs.YbulkchugDoor
/-- THE STATEMENT -/
theorem preorder_card : Rows.LawS4192APreorderCardSaid := Pre.card0
end Go.Proofs.YbulkchugDoor
