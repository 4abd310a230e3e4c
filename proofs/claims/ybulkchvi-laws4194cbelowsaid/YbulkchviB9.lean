import Derived.Test.YbulkchviB6
import Derived.Test.YbulkchviB8
import Derived.Test.YbulkchviOpen
import Derived.Test.YbulkchviRows
import Derived.Test.YbulkchviChecked
import Derived.Deep.Strs
namespace Go.Proofs.Ybulkchvi
open Go.ChangeShapes Go.WideShapes Go.ChangeAt Go.RowKit
set_option linter.unusedVariables false
set_option linter.unusedSimpArgs false

theorem cells5 : Yba.prog.cellsOf 5 = 1 := by kernel_rfl
theorem cells55 : Yba.prog.cellsOf 55 = 3 := by kernel_rfl

section
variable {H : Type} {enc : TypeId × Value → H} {W : World} {spare : Nat → Bool} {held : Bool}

/-- the picks that came in -/
theorem open_picks {a : Option Addr} {n c fuel : Nat} {x : DataW H × List MemPlace}
    (h : DataW.trod enc Yba.prog W 0 (fun _ => true) held fuel 51 [.slice a n c] = some x) :
    ∃ P : Nat → Int, RowAt W.heap.size a n (fun j => .int .u8 (P j)) W ∧ ∀ j, 0 ≤ P j ∧ P j ≤ 255 := by
  rcases open_ints Yba.underlying51 Yba.underlying5 cells5 h with ⟨hcs, _⟩ | ⟨ad, l, cc, zs, hcs, _, hl, hm, hz, _, hcell, hwz⟩
  · injection hcs with hcs; injection hcs with e1 e2 e3
    subst e1 e2 e3
    exact ⟨fun _ => 0, fun j hj => by omega, fun j => by simp⟩
  · injection hcs with hcs; injection hcs with e1 e2 e3
    subst e1 e2 e3
    have hz' : zs.length = c := by simpa using hz
    refine ⟨fun j => zs[j]?.getD 0, fun j hj => ?_, fun j => by have := range_u8 hwz j; simp only; omega⟩
    obtain ⟨b, off, rfl, hcc⟩ := ints_at hcell (by omega)
    refine ⟨b, off, rfl, World.block_lt_of_cell? W _ (hcc j (by omega)), ?_⟩
    rw [hcc j (by omega)]
    simp [List.getD]

/-- one spec: three numbers of a byte -/
theorem open_spec {fuel : Nat} {cs : List Value} {x : DataW H × List MemPlace} {held : Bool} (h : DataW.trod enc Yba.prog W 0 (fun _ => true) held fuel 55 cs = some x) :
    ∃ r a b : Int, cs = [.int .u8 r, .int .u8 a, .int .u8 b] ∧ 0 ≤ r ∧ r ≤ 255 ∧ 0 ≤ a ∧ a ≤ 255 ∧ 0 ≤ b ∧ b ≤ 255 := by
  obtain ⟨y0, y1, y2, n, _, hl, h0, h1, h2⟩ := Go.Deep.trod_struct3 Yba.underlying55 h
  rw [cells55] at hl
  simp only [cells5] at h0 h1 h2
  match cs, hl with
  | [c0, c1, c2], _ =>
    obtain ⟨r, e0, _, w0⟩ := DataW.trod_int Yba.underlying5 h0
    obtain ⟨a, e1, _, w1⟩ := DataW.trod_int Yba.underlying5 h1
    obtain ⟨b, e2, _, w2⟩ := DataW.trod_int Yba.underlying5 h2
    have b0 := bounds_u8 w0
    have b1 := bounds_u8 w1
    have b2 := bounds_u8 w2
    simp at e0 e1 e2
    subst e0 e1 e2
    exact ⟨r, a, b, rfl, by omega, by omega, by omega, by omega, by omega, by omega⟩

/-- the specs that came in -/
theorem open_specs {a : Option Addr} {n c fuel : Nat} {x : DataW H × List MemPlace}
    (h : DataW.trod enc Yba.prog W 0 (fun _ => true) held fuel 50 [.slice a n c] = some x) :
    ∃ R A B : Nat → Int, SpecAt W.heap.size a n R A B W ∧ ∀ j, 0 ≤ R j ∧ R j ≤ 255 ∧ 0 ≤ A j ∧ A j ≤ 255 ∧ 0 ≤ B j ∧ B j ≤ 255 := by
  rcases Go.Deep.open_slice Yba.underlying50 h with ⟨hcs, _⟩ | ⟨ad, l, cc, m, fu, D, Pl, hcs, _, hl, hm, hmm, _, hx⟩
  · injection hcs with hcs; injection hcs with e1 e2 e3
    subst e1 e2 e3
    exact ⟨fun _ => 0, fun _ => 0, fun _ => 0, fun j hj => by omega, fun j => by simp⟩
  · injection hcs with hcs; injection hcs with e1 e2 e3
    subst e1 e2 e3
    have hm' : m = c := by simpa using hmm
    have hall : ∀ j, ∃ y : Int × Int × Int, (0 ≤ y.1 ∧ y.1 ≤ 255 ∧ 0 ≤ y.2.1 ∧ y.2.1 ≤ 255 ∧ 0 ≤ y.2.2 ∧ y.2.2 ≤ 255) ∧ (j < n → ∃ bb off, ad = ⟨bb, off, none⟩ ∧ bb < W.heap.size ∧ W.cell? ⟨bb, off + j * 3, none⟩ = some (.int .u8 y.1) ∧ W.cell? ⟨bb, off + j * 3 + 1, none⟩ = some (.int .u8 y.2.1) ∧ W.cell? ⟨bb, off + j * 3 + 2, none⟩ = some (.int .u8 y.2.2)) := by
      intro j
      by_cases hj : j < n
      · obtain ⟨cs', h1, h2⟩ := hx j (by omega)
        obtain ⟨r, a, b, rfl, hb⟩ := open_spec h2
        rw [cells55] at h1
        obtain ⟨_, _, h3⟩ := World.cells?_some h1
        have k0 := h3 0 (by omega); have k1 := h3 1 (by omega); have k2 := h3 2 (by omega)
        obtain ⟨cs0, g1, g2⟩ := hx 0 (by omega)
        obtain ⟨r', a', b', rfl, _⟩ := open_spec g2
        simp only [cells55] at g1
        have g3 := (World.cells?_some g1).2.2 0 (by omega)
        obtain ⟨b0, off, spot⟩ := ad
        have hspot : spot = none := by simpa [Addr.add] using World.cell?_spot (g3.trans rfl)
        subst hspot
        simp only [Go.WideShapes.add_plain] at k0 k1 k2
        have k0' : W.cell? ⟨b0, off + j * 3, none⟩ = some (.int .u8 r) := k0
        exact ⟨(r, a, b), hb, fun _ => ⟨b0, off, rfl, World.block_lt_of_cell? W _ k0', k0', k1, k2⟩⟩
      · exact ⟨(0, 0, 0), by simp, fun h => absurd h hj⟩
    refine ⟨fun j => (hall j).choose.1, fun j => (hall j).choose.2.1, fun j => (hall j).choose.2.2, fun j hj => ?_, fun j => (hall j).choose_spec.1⟩
    obtain ⟨bb, off, rfl, h1, h2⟩ := (hall j).choose_spec.2 hj
    exact ⟨bb, off, rfl, h1, h2⟩
end

set_option maxRecDepth 100000 in
/-- more than 1024 specs or picks: true at once -/
theorem law5_big (sa pa : Option Addr) (sn sc pn pc : Nat) (nn : Int) (w : World) (h : 1024 < sn ∨ 1024 < pn) :
    Calls Yba.prog 5 #[.slice sa sn sc, .int .u8 nn, .slice pa pn pc] w fun e w' => e = .returned (.bool true) ∧ Below w.heap.size w w' := by
  by_cases h1 : 1024 < sn
  · have h1' : (1024 : Int) < (sn : Int) := by omega
    go_enter Yba.func5, Yba.ntmps5
    go_wp2
    go_ret
    exact ⟨rfl, Below.refl _ _⟩
  · have h1' : ¬ (1024 : Int) < (sn : Int) := by omega
    have h2' : (1024 : Int) < (pn : Int) := by omega
    go_enter Yba.func5, Yba.ntmps5
    go_wp2
    go_ret
    exact ⟨rfl, Below.refl _ _⟩

set_option maxRecDepth 100000 in
theorem below_lifted (os : Os) (started : os.Started) (H : Type) (enc : TypeId × Value → H) :
    ReturnsInHanded {} Yba.checked os 5 .any (Rows.lawS4194CBelowSpec.pre6 enc Yba.prog Yba.f5 Rows.lawS4194CBelowRow.domain false) (Rows.lawS4194CBelowSpec.post enc Yba.prog Yba.f5 false true false false) := by
  refine returnsInHanded_of_change (C := Yba.checked) own started (by kernel_rfl) Yba.func5
    (ChangeSpec.witness6 (enc := enc) (C := Yba.checked) false ⟨#[], #[.slice none 0 0, .int .u8 0, .slice none 0 0], []⟩ 8 (by kernel_rfl) (by kernel_rfl) (by kernel_rfl) (by kernel_rfl)) ?_
  intro W base args ds gs before hval0 hW hcnd _
  have hval : ∀ (j : Nat) t v, Yba.f5.params[j]? = some t → args[j]? = some v → Value.okWide Yba.prog W .any base t v := hval0
  have hW' := hW
  obtain ⟨p, q, hA0, hV, rfl, hfz, hnd⟩ := hW
  have hA : DataW.TrodAll enc Yba.prog W 0 (fun _ => true) true Yba.f5.params.toList args.toList ds p := hA0
  rw [Yba.params5] at hA hval
  obtain ⟨v0, vs0, d0, ds0, p0, q0, hargs, rfl, rfl, h0, r0⟩ := trodAll_cons hA
  obtain ⟨v1, vs1, d1, ds1, p1, q1, rfl, rfl, rfl, h1, r1⟩ := trodAll_cons r0
  obtain ⟨v2, vs2, d2, ds2, p2, q2, rfl, rfl, rfl, h2, r2⟩ := trodAll_cons r1
  obtain ⟨rfl, rfl, rfl⟩ := trodAll_nil r2
  obtain rfl : args = #[v0, v1, v2] := by cases args; simp_all
  obtain ⟨rfl, rfl⟩ := trodVars_none hV
  have k0 := h0
  have k1 := h1
  have k2 := h2
  have lt0 : ∀ x ∈ p0, x.block < W.heap.size := by obtain ⟨m, hm⟩ := k0; exact DataW.trod_lt m _ _ _ hm
  have lt1 : ∀ x ∈ p1, x.block < W.heap.size := by obtain ⟨m, hm⟩ := k1; exact DataW.trod_lt m _ _ _ hm
  have lt2 : ∀ x ∈ p2, x.block < W.heap.size := by obtain ⟨m, hm⟩ := k2; exact DataW.trod_lt m _ _ _ hm
  have post : ∀ (e : Ending) (W' : World), (e = .returned (.bool true) ∧ Below W.heap.size W W') → ∃ v, e = .returned v ∧ Rows.lawS4194CBelowSpec.post enc Yba.prog Yba.f5 false true false false W #[v0, v1, v2] v W' := by
    rintro e W' ⟨rfl, bel⟩
    exact ⟨_, rfl, _, _, _, [], _, [], hW', trodAll_mk1 (shut_bool Yba.underlying4 _), (trodAll_cons_mk (Below.trod laidOut (by kernel_rfl) (of_decide_eq_true (by kernel_rfl)) k0 bel lt0) (trodAll_cons_mk (Below.trod laidOut (by kernel_rfl) (of_decide_eq_true (by kernel_rfl)) k1 bel lt1) (trodAll_cons_mk (Below.trod laidOut (by kernel_rfl) (of_decide_eq_true (by kernel_rfl)) k2 bel lt2) trodAll_mk0))), rfl, bel.frame _, fun h => by cases h⟩
  obtain ⟨a0, len0, cap0, rfl⟩ := okWide_slice Yba.underlying50 (hval 0 50 v0 rfl rfl)
  obtain ⟨a2, len2, cap2, rfl⟩ := okWide_slice Yba.underlying51 (hval 2 51 v2 rfl rfl)
  obtain ⟨f0, hf0⟩ := h0
  obtain ⟨f2, hf2⟩ := h2
  obtain ⟨R, A, B, hS, hr⟩ := open_specs hf0
  obtain ⟨P, hP, hp⟩ := open_picks hf2
  obtain ⟨nn, rfl, _, _, wn⟩ := open_int Yba.underlying5 (hval 1 5 v1 rfl rfl) h1
  clear hA0 hval0
  by_cases hbig : len0 ≤ 1024 ∧ len2 ≤ 1024
  · exact (law5_any mergeOK a0 a2 len0 cap0 len2 cap2 nn R A B P W hbig.1 hbig.2 (by have := bounds_u8 wn; omega) hr hp hS hP).mono post
  · exact (law5_big a0 a2 len0 cap0 len2 cap2 nn W (by omega)).mono post

theorem below : Rows.LawS4194CBelowSaid :=
  OpenClaim.holds_of_wide 5 Yba.f5 rfl rfl rfl rfl rfl rfl rfl ⟨rfl, rfl, rfl, rfl, rfl⟩ rfl rfl rfl rfl rfl (by kernel_rfl) Yba.func5 (by kernel_rfl)
    (of_decide_eq_true (by kernel_rfl)) (by unfold Func.isWrapper; first | (rw [if_pos (by decide +kernel)]; kernel_rfl) | (rw [if_neg (by decide +kernel)]; exact ⟨rfl, rfl⟩))
    (fun os started H enc _ => below_lifted os started H enc)
end Go.Proofs.Ybulkchvi
