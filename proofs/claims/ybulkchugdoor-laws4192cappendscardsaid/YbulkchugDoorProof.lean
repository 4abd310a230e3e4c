import Derived.Test.YbulkchugDoorLaw
import Derived.Test.YbulkchugDoorTie
import Derived.Test.YbulkchugDoorCards
import Derived.ProofKit
import Derived.OpenShut
import Derived.ShutString
import Derived.ChangeOld
import Derived.LaidMore
import Derived.SevenTiedAt
import Derived.Stop.Joined
namespace Go.Proofs.YbulkchugDoor
open Go.ChangeShapes Go.WideShapes Go.ChangeAt Go.RowKit
open Go.ChangeMaps (open_string shut_string)
set_option linter.unusedVariables false
set_option linter.unusedSimpArgs false

theorem own : ownKnob Ybad.prog.godebug = none := by kernel_rfl
theorem laidOut : laidOutB Ybad.prog = true := by kernel_rfl
theorem gEsc : Ybad.prog.globalNamed "example.com/planewright/planewright.stringEscapes" = some 0 := by kernel_rfl
theorem tEsc : (Ybad.prog.globals[0]?).map (·.type) = some 73 := by kernel_rfl
theorem cells72 : Ybad.prog.cellsOf 72 = 2 := by kernel_rfl
theorem cells73 : Ybad.prog.cellsOf 73 = 12 := by kernel_rfl

theorem list12 {α : Type} (l : List α) (h : l.length = 12) : ∃ a0 a1 a2 a3 a4 a5 a6 a7 a8 a9 a10 a11, l = [a0, a1, a2, a3, a4, a5, a6, a7, a8, a9, a10, a11] := by
  match l, h with
  | [a0, a1, a2, a3, a4, a5, a6, a7, a8, a9, a10, a11], _ => exact ⟨a0, a1, a2, a3, a4, a5, a6, a7, a8, a9, a10, a11, rfl⟩

theorem pair_of {H : Type} {enc : TypeId × Value → H} {w : World} {base : Nat} {sp : Nat → Bool} {held : Bool} {fuel : Nat} {c0 c1 : Value} {y : DataW H × List MemPlace} {a b : Int}
    (h : DataW.trod enc Ybad.prog w base sp held fuel 72 [c0, c1] = some y) (hy : y.1 = .agg [.lit (.int .u8 a), .lit (.int .u8 b)]) : c0 = .int .u8 a ∧ c1 = .int .u8 b := by
  obtain ⟨y0, y1, n, rfl, _, h0, h1⟩ := trod_struct2 Ybad.underlying72 h
  simp [cells5] at h0 h1
  obtain ⟨k0, e0, e0', _⟩ := DataW.trod_int Ybad.underlying5 h0
  obtain ⟨k1, e1, e1', _⟩ := DataW.trod_int Ybad.underlying5 h1
  simp at e0 e1
  subst e0 e1 e0' e1'
  simp at hy
  obtain ⟨rfl, rfl⟩ := hy
  exact ⟨rfl, rfl⟩

theorem esc_of_laid {W : World} (h : laidMetH Ybad.prog Rows.lawS4192CAppendsRow.laid W) : W.var? Ybad.prog "example.com/planewright/planewright.stringEscapes" = some esc := by
  rw [MakeChecks.laidMetH_plain _ _ _ (by kernel_rfl)] at h
  obtain ⟨ps, ⟨g, t, cs, fuel, p, q, hg, ht, hv, hd, _, _⟩, _, _⟩ := h
  obtain rfl := Option.some.inj (gEsc.symm.trans hg)
  obtain rfl := Option.some.inj (tEsc.symm.trans ht)
  rw [hv]
  congr 1
  obtain ⟨l⟩ := cs
  obtain ⟨xs, m, _, ex, hlen, hl, hel⟩ := DataW.trod_array Ybad.underlying73 hd
  rw [cells73] at hlen
  obtain ⟨a0, a1, a2, a3, a4, a5, a6, a7, a8, a9, a10, a11, rfl⟩ := list12 l hlen
  match xs, hl, ex, hel with
  | [x0, x1, x2, x3, x4, x5], _, ex, hel =>
    have ex1 : (Rows.laid_example_com_planewright_planewright_stringEscapes : DataW Unit) = .agg [x0.1, x1.1, x2.1, x3.1, x4.1, x5.1] := (Prod.mk.inj ex).1
    unfold Rows.laid_example_com_planewright_planewright_stringEscapes at ex1
    simp only [DataW.agg.injEq, List.cons.injEq, and_true] at ex1
    obtain ⟨d0, d1, d2, d3, d4, d5⟩ := ex1
    have k0 := hel 0 (by decide); have k1 := hel 1 (by decide); have k2 := hel 2 (by decide)
    have k3 := hel 3 (by decide); have k4 := hel 4 (by decide); have k5 := hel 5 (by decide)
    simp [cells72] at k0 k1 k2 k3 k4 k5
    obtain ⟨rfl, rfl⟩ := pair_of k0 d0.symm
    obtain ⟨rfl, rfl⟩ := pair_of k1 d1.symm
    obtain ⟨rfl, rfl⟩ := pair_of k2 d2.symm
    obtain ⟨rfl, rfl⟩ := pair_of k3 d3.symm
    obtain ⟨rfl, rfl⟩ := pair_of k4 d4.symm
    obtain ⟨rfl, rfl⟩ := pair_of k5 d5.symm
    rfl

theorem escAt_of_laid {W : World} (h : laidMetH Ybad.prog Rows.lawS4192CAppendsRow.laid W) : EscAt W := by
  have hv := esc_of_laid h
  unfold World.var? at hv
  simp only [gEsc, Option.bind_some] at hv
  split at hv
  · rename_i cs t fr hh
    injection hv with hv
    subst hv
    exact ⟨t, fr, hh⟩
  · cases hv

theorem door_met (os : Os) (args : Array Value) : laidMetH Ybad.prog Rows.lawS4192CAppendsRow.laid ((World.doorLaid Ybad.prog 400 os).forCall (fun _ _ => 0) ⟨#[], args, []⟩).memory :=
  laidMetH_of_parts3 (fuel := 8) (laidMet_of_run' 8 (by kernel_rfl) (by kernel_rfl)) (by kernel_rfl) (by kernel_rfl)

/-- too long: true at once -/
theorem law_big1 (s : ByteArray) (a1 a2 : Option Addr) (n1 c1 n2 c2 : Nat) (w : World) (hs : (4096 : Int) < (s.size : Int)) :
    Calls Ybad.prog 5 #[.string s, .slice a1 n1 c1, .slice a2 n2 c2] w fun e w' => e = .returned (.bool true) ∧ Below w.heap.size w w' := by
  have hd1 : decide ((4096 : Int) < (s.size : Int)) = true := by simpa using hs
  go_enter Ybad.func5, Ybad.ntmps5
  go_wp2
  go_ret
  exact ⟨rfl, Below.refl _ _⟩
theorem law_big2 (s : ByteArray) (a1 a2 : Option Addr) (n1 c1 n2 c2 : Nat) (w : World) (hs : ¬ (4096 : Int) < (s.size : Int)) (hn : (1024 : Int) < (n1 : Int)) :
    Calls Ybad.prog 5 #[.string s, .slice a1 n1 c1, .slice a2 n2 c2] w fun e w' => e = .returned (.bool true) ∧ Below w.heap.size w w' := by
  have hd1 : decide ((4096 : Int) < (s.size : Int)) = false := by simpa using hs
  have hd2 : decide ((1024 : Int) < (n1 : Int)) = true := by simpa using hn
  go_enter Ybad.func5, Ybad.ntmps5
  go_wp2
  go_ret
  exact ⟨rfl, Below.refl _ _⟩
theorem law_big3 (s : ByteArray) (a1 a2 : Option Addr) (n1 c1 n2 c2 : Nat) (w : World) (hs : ¬ (4096 : Int) < (s.size : Int)) (hn : ¬ (1024 : Int) < (n1 : Int)) (hn2 : (1024 : Int) < (n2 : Int)) :
    Calls Ybad.prog 5 #[.string s, .slice a1 n1 c1, .slice a2 n2 c2] w fun e w' => e = .returned (.bool true) ∧ Below w.heap.size w w' := by
  have hd1 : decide ((4096 : Int) < (s.size : Int)) = false := by simpa using hs
  have hd2 : decide ((1024 : Int) < (n1 : Int)) = false := by simpa using hn
  have hd3 : decide ((1024 : Int) < (n2 : Int)) = true := by simpa using hn2
  go_enter Ybad.func5, Ybad.ntmps5
  go_wp2
  go_ret
  exact ⟨rfl, Below.refl _ _⟩

theorem row8_of {H : Type} {enc : TypeId × Value → H} {W : World} {held : Bool} {base : Nat} {a : Option Addr} {len cap : Nat} {d : DataW H} {p : List MemPlace} (h : DataW.Trod enc Ybad.prog W base (fun _ => true) held 39 (.slice a len cap) d p) : ∃ zs, Row8 W a len zs := by
  obtain ⟨fuel, hf⟩ := h
  rcases open_ints Ybad.underlying39 Ybad.underlying5 cells5 hf with ⟨hcs, _⟩ | ⟨x, l, c, zs, hcs, _, hl, hm, hz, _, hcell, hwz⟩
  · simp [Value.cells] at hcs
    obtain ⟨rfl, rfl, rfl⟩ := hcs
    exact ⟨[], .inl rfl⟩
  · simp [Value.cells] at hcs
    obtain ⟨rfl, rfl, rfl⟩ := hcs
    refine ⟨zs, ?_⟩
    by_cases hlen : len = 0
    · exact .inl hlen
    · have hz' : zs.length = cap := by simpa using hz
      obtain ⟨b, off, rfl, hc⟩ := ints_at hcell (by omega)
      refine .inr ⟨b, off, rfl, fun i hi => ⟨World.block_lt_of_cell? W _ (hc i (by omega)), hc i (by omega), ?_⟩⟩
      have hr := range_u8 hwz i
      simpa using hr

set_option maxRecDepth 100000 in
theorem lifted (os : Os) (started : os.Started) (H : Type) (enc : TypeId × Value → H) :
    ReturnsInHanded {} Ybad.checked os 5 .any (fun w args => (Rows.lawS4192CAppendsSpec.pre enc Ybad.prog Ybad.f5 Rows.lawS4192CAppendsRow.domain false w args ∧ laidMetH Ybad.prog Rows.lawS4192CAppendsRow.laid w) ∧ sizedMet enc Ybad.prog Ybad.f5 (OpenSpec.ofChange Rows.lawS4192CAppendsSpec) false w args)
      (Rows.lawS4192CAppendsSpec.post enc Ybad.prog Ybad.f5 false true false false) := by
  refine returnsInHanded_of_change_and (C := Ybad.checked) (X := fun w _ => laidMetH Ybad.prog Rows.lawS4192CAppendsRow.laid w) (fun _ _ _ hh h => h.of_heap hh) own started (by kernel_rfl) Ybad.func5
    (ChangeSpec.witness_shaped (enc := enc) (C := Ybad.checked) (os := os) (X := fun w _ => laidMetH Ybad.prog Rows.lawS4192CAppendsRow.laid w) false (World.doorLaid Ybad.prog 400 os) #[.string ByteArray.empty, .slice none 0 0, .slice none 0 0] 8 rfl (World.shaped_of_RefB (by kernel_rfl) (by kernel_rfl)) (by kernel_rfl) (by kernel_rfl) (by kernel_rfl) (door_met os _)) ?_
  intro W base args ds gs before hval0 hW _ _ hL _
  have hval : ∀ (j : Nat) t v, Ybad.f5.params[j]? = some t → args[j]? = some v → Value.okWide Ybad.prog W .any base t v := hval0
  have hW' := hW
  obtain ⟨p, q, hA0, hV0, rfl, hfz, hnd⟩ := hW
  have hA : DataW.TrodAll enc Ybad.prog W 0 (fun _ => true) true Ybad.f5.params.toList args.toList ds p := hA0
  have hV : DataW.TrodVars enc Ybad.prog W (fun _ => true) ["example.com/planewright/planewright.stringEscapes"] gs q := hV0
  rw [Ybad.params5] at hA hval
  obtain ⟨v0, vs0, d0, ds0, p0, q0, hargs, rfl, rfl, h0, r0⟩ := trodAll_cons hA
  obtain ⟨v1, vs1, d1, ds1, p1, q1, rfl, rfl, rfl, h1, r1⟩ := trodAll_cons r0
  obtain ⟨v2, vs2, d2, ds2, p2, q2, rfl, rfl, rfl, h2, r2⟩ := trodAll_cons r1
  obtain ⟨rfl, rfl, rfl⟩ := trodAll_nil r2
  obtain rfl : args = #[v0, v1, v2] := by cases args; simp_all
  obtain ⟨g, t, cs, fuel, d, p', rfl, hg, ht, hvar, hd, rfl⟩ := trodVars_one hV
  obtain rfl := Option.some.inj (gEsc.symm.trans hg)
  obtain rfl := Option.some.inj (tEsc.symm.trans ht)
  have kv : DataW.Trod enc Ybad.prog W 0 (fun _ => true) true 73 (.agg cs) d p' := ⟨fuel, hd⟩
  have k0 := h0
  have k1 := h1
  have k2 := h2
  have lt0 : ∀ x ∈ p0, x.block < W.heap.size := by obtain ⟨m, hm⟩ := k0; exact DataW.trod_lt m _ _ _ hm
  have lt1 : ∀ x ∈ p1, x.block < W.heap.size := by obtain ⟨m, hm⟩ := k1; exact DataW.trod_lt m _ _ _ hm
  have lt2 : ∀ x ∈ p2, x.block < W.heap.size := by obtain ⟨m, hm⟩ := k2; exact DataW.trod_lt m _ _ _ hm
  have ltv : ∀ x ∈ p', x.block < W.heap.size := by obtain ⟨m, hm⟩ := kv; exact DataW.trod_lt m _ _ _ hm
  have hE := escAt_of_laid hL
  have hW0 : 0 < W.heap.size := by obtain ⟨t, fr, h⟩ := hE; exact (Array.getElem?_eq_some_iff.1 h).1
  have post : ∀ (e : Ending) (W' : World), (e = .returned (.bool true) ∧ Below W.heap.size W W') → ∃ v, e = .returned v ∧ Rows.lawS4192CAppendsSpec.post enc Ybad.prog Ybad.f5 false true false false W #[v0, v1, v2] v W' := by
    rintro e W' ⟨rfl, bel⟩
    obtain ⟨fuel2, hd2⟩ := Below.trod laidOut (by kernel_rfl) (of_decide_eq_true (by kernel_rfl)) kv bel ltv
    have hvars := trodVars_mk1 (enc := enc) (w := W') (spare := fun b => decide (b < W.heap.size)) gEsc tEsc (var?_below bel gEsc hW0 hvar) hd2
    exact ⟨_, rfl, _, _, _, [], _, _, hW', trodAll_mk1 (shut_bool Ybad.underlying4 _), (trodAll_cons_mk (Below.trod laidOut (by kernel_rfl) (of_decide_eq_true (by kernel_rfl)) k0 bel lt0) (trodAll_cons_mk (Below.trod laidOut (by kernel_rfl) (of_decide_eq_true (by kernel_rfl)) k1 bel lt1) (trodAll_cons_mk (Below.trod laidOut (by kernel_rfl) (of_decide_eq_true (by kernel_rfl)) k2 bel lt2) trodAll_mk0))), hvars, bel.frame _, fun h => by cases h⟩
  obtain ⟨s, rfl, _, _, hs⟩ := open_string Ybad.underlying9 (hval 0 9 v0 rfl rfl) h0
  obtain ⟨a1, n1, c1, rfl⟩ := okWide_slice Ybad.underlying39 (hval 1 39 v1 rfl rfl)
  obtain ⟨a2, n2, c2, rfl⟩ := okWide_slice Ybad.underlying39 (hval 2 39 v2 rfl rfl)
  obtain ⟨z1, w1⟩ := row8_of h1
  obtain ⟨z2, w2⟩ := row8_of h2
  clear hA0 hval0
  by_cases b1 : s.size ≤ 4096
  · by_cases b2 : n1 ≤ 1024
    · by_cases b3 : n2 ≤ 1024
      · exact (law_any s a1 a2 n1 c1 n2 c2 z1 z2 W b1 b2 b3 w1 w2 hE).mono post
      · exact (law_big3 s a1 a2 n1 c1 n2 c2 W (by omega) (by omega) (by omega)).mono post
    · exact (law_big2 s a1 a2 n1 c1 n2 c2 W (by omega) (by omega)).mono post
  · exact (law_big1 s a1 a2 n1 c1 n2 c2 W (by omega)).mono post

theorem appends_holds : Rows.LawS4192CAppendsSaid :=
  OpenClaim.holds_of_wide 5 Ybad.f5 rfl rfl rfl rfl rfl rfl rfl ⟨rfl, rfl, rfl, rfl, rfl⟩ rfl rfl rfl rfl rfl (by kernel_rfl) Ybad.func5 (by kernel_rfl)
    (of_decide_eq_true (by kernel_rfl)) (by unfold Func.isWrapper; first | (rw [if_pos (by decide +kernel)]; kernel_rfl) | (rw [if_neg (by decide +kernel)]; exact ⟨rfl, rfl⟩))
    (fun os started H enc _ => lifted os started H enc)

theorem appends_card : Rows.LawS4192CAppendsCardSaid :=
  Claim7.holds_tied_plain_at .later [] [.data] true (true, "e3bf67cd9a32f7eefe4e2be8ee786edf087dc87cea6a69f30f71257cd3044fbd") true
    appends_holds (fun _ h => by cases h) (by kernel_rfl) (fun _ h => by cases h) lawS4192CAppends_row_tie rfl ⟨rfl, rfl⟩ (by kernel_rfl) rfl
    (fun f fn hf hfn => by
      obtain rfl : f = 5 := Option.some.inj ((show Ybad.prog.funcNamed "example.com/planewright/planewright.LawS4192CAppends" = some 5 by kernel_rfl).symm.trans hf) |>.symm
      obtain rfl : fn = Ybad.f5 := (Option.some.inj (Ybad.func5.symm.trans hfn)).symm
      exact ⟨by kernel_rfl, fun j t ht => by
        rw [Ybad.params5] at ht
        have hm : t ∈ [9, 39, 39] := by simpa using Array.mem_of_getElem? ht
        have hall : ([9, 39, 39].all fun u => !Ybad.prog.wantsStandIn u) = true := by kernel_rfl
        exact (show Ybad.prog.wantsStandIn t = false by simpa using List.all_eq_true.1 hall t hm)⟩)
    (by kernel_rfl)
end Go.Proofs.YbulkchugDoor
