import Derived.Test.YbulkchuuLaw
import Derived.ProofKit
import Derived.OpenShut
import Derived.ShutString
import Derived.ChangeOld
namespace Go.Proofs.Ybulkchuu
open Go.ChangeShapes Go.WideShapes Go.ChangeAt Go.RowKit
set_option linter.unusedVariables false
set_option linter.unusedSimpArgs false

theorem own : ownKnob Yba.prog.godebug = none := by kernel_rfl
theorem laidOut : laidOutB Yba.prog = true := by kernel_rfl
theorem cells24 : Yba.prog.cellsOf 24 = 4 := by kernel_rfl
theorem cells23 : Yba.prog.cellsOf 23 = 1 := by kernel_rfl
theorem cells3 : Yba.prog.cellsOf 3 = 1 := by kernel_rfl

theorem list4' (l : List Value) (h : l.length = 4) : ∃ a b c d, l = [a, b, c, d] := by
  match l, h with
  | [a, b, c, d], _ => exact ⟨a, b, c, d, rfl⟩

/-- more than 1024 states: true at once -/
theorem law_big (a0 : Option Addr) (n cap : Nat) (r0 r1 r2 r3 k : Int) (w : World) (hn : (1024 : Int) < (n : Int)) :
    Calls Yba.prog 3 #[.slice a0 n cap, .agg #[.int .u16 r0, .int .u16 r1, .int .u16 r2, .int .u16 r3], .int .u8 k] w fun e w' => e = .returned (.bool true) ∧ Below w.heap.size w w' := by
  go_enter Yba.func3, Yba.ntmps3
  go_wp2
  go_ret
  exact ⟨rfl, (Below.refl _ _).alloc (Nat.le_refl _) _⟩

set_option maxRecDepth 100000 in
theorem lifted (os : Os) (started : os.Started) (H : Type) (enc : TypeId × Value → H) :
    ReturnsInHanded {} Yba.checked os 3 .any (Rows.lawS4193COfRunSpec.pre6 enc Yba.prog Yba.f3 Rows.lawS4193COfRunRow.domain false) (Rows.lawS4193COfRunSpec.post enc Yba.prog Yba.f3 false true false false) := by
  refine returnsInHanded_of_change (C := Yba.checked) own started (by kernel_rfl) Yba.func3
    (ChangeSpec.witness6 (enc := enc) (C := Yba.checked) false ⟨#[], #[.slice none 0 0, .agg #[.int .u16 0, .int .u16 0, .int .u16 0, .int .u16 0], .int .u8 0], []⟩ 8 (by kernel_rfl) (by kernel_rfl) (by kernel_rfl) (by kernel_rfl)) ?_
  intro W base args ds gs before hval0 hW hcnd _
  have hval : ∀ (j : Nat) t v, Yba.f3.params[j]? = some t → args[j]? = some v → Value.okWide Yba.prog W .any base t v := hval0
  have hW' := hW
  obtain ⟨p, q, hA0, hV, rfl, hfz, hnd⟩ := hW
  have hA : DataW.TrodAll enc Yba.prog W 0 (fun _ => true) true Yba.f3.params.toList args.toList ds p := hA0
  rw [Yba.params3] at hA hval
  obtain ⟨v0, vs0, d0, ds0, p0, q0, hargs, rfl, rfl, h0, r0⟩ := trodAll_cons hA
  obtain ⟨v1, vs1, d1, ds1, p1, q1, rfl, rfl, rfl, h1, r1⟩ := trodAll_cons r0
  obtain ⟨v2, vs2, d2, ds2, p2, q2, rfl, rfl, rfl, h2, r2⟩ := trodAll_cons r1
  obtain ⟨rfl, rfl, rfl⟩ := trodAll_nil r2
  obtain rfl : args = #[v0, v1, v2] := by cases args; simp_all
  obtain ⟨rfl, rfl⟩ := trodVars_none hV
  have k0 := h0
  have k1 := h1
  have k2 := h2
  have lt0 : ∀ x ∈ p0, x.block < W.heap.size := by obtain ⟨m, hm⟩ := k0; exact DataW.trod_lt m _ _ _ hm
  have lt1 : ∀ x ∈ p1, x.block < W.heap.size := by obtain ⟨m, hm⟩ := k1; exact DataW.trod_lt m _ _ _ hm
  have lt2 : ∀ x ∈ p2, x.block < W.heap.size := by obtain ⟨m, hm⟩ := k2; exact DataW.trod_lt m _ _ _ hm
  have post : ∀ (e : Ending) (W' : World), (e = .returned (.bool true) ∧ Below W.heap.size W W') → ∃ v, e = .returned v ∧ Rows.lawS4193COfRunSpec.post enc Yba.prog Yba.f3 false true false false W #[v0, v1, v2] v W' := by
    rintro e W' ⟨rfl, bel⟩
    exact ⟨_, rfl, _, _, _, [], _, [], hW', trodAll_mk1 (shut_bool Yba.underlying4 _), (trodAll_cons_mk (Below.trod laidOut (by kernel_rfl) (of_decide_eq_true (by kernel_rfl)) k0 bel lt0) (trodAll_cons_mk (Below.trod laidOut (by kernel_rfl) (of_decide_eq_true (by kernel_rfl)) k1 bel lt1) (trodAll_cons_mk (Below.trod laidOut (by kernel_rfl) (of_decide_eq_true (by kernel_rfl)) k2 bel lt2) trodAll_mk0))), rfl, bel.frame _, fun h => by cases h⟩
  obtain ⟨a0, len0, cap0, rfl⟩ := okWide_slice Yba.underlying22 (hval 0 22 v0 rfl rfl)
  obtain ⟨z0, w0⟩ : ∃ zs : List Int, len0 ≤ cap0 ∧ cap0 ≤ maxLen ∧ (len0 = 0 ∨ ∃ bb off, a0 = some ⟨bb, off, none⟩ ∧ ∀ i, i < len0 → bb < W.heap.size ∧ W.cell? ⟨bb, off + i, none⟩ = some (.int .i64 (zs.getD i 0))) := by
    obtain ⟨fuel, hf⟩ := h0
    rcases open_ints Yba.underlying22 Yba.underlying3 cells3 hf with ⟨hcs, _⟩ | ⟨x, l, c, zs, hcs, _, hl, hm, hz, _, hcell, hwz⟩
    · simp [Value.cells] at hcs
      obtain ⟨rfl, rfl, rfl⟩ := hcs
      exact ⟨[], Nat.le_refl _, by unfold maxLen; omega, .inl rfl⟩
    · simp [Value.cells] at hcs
      obtain ⟨rfl, rfl, rfl⟩ := hcs
      refine ⟨zs, hl, hm, ?_⟩
      by_cases hlen : len0 = 0
      · exact .inl hlen
      · have hz' : zs.length = cap0 := by simpa using hz
        obtain ⟨b, off, rfl, hc⟩ := ints_at hcell (by omega)
        exact .inr ⟨b, off, rfl, fun i hi => ⟨World.block_lt_of_cell? W _ (hc i (by omega)), hc i (by omega)⟩⟩
  obtain ⟨hle, hmx, hcl⟩ := w0
  obtain ⟨cs, rfl, hsz, _⟩ : ∃ cs, v1 = .agg cs ∧ cs.size = Yba.prog.cellsOf 24 ∧ Row.okWide Yba.prog W .any base 24 cs := by
    have := hval 1 24 v1 rfl rfl
    simpa [Value.okWide, Yba.underlying24] using this
  rw [cells24] at hsz
  obtain ⟨l⟩ := cs
  obtain ⟨c0, c1, c2, c3, rfl⟩ := list4' l hsz
  obtain ⟨fuel, hf⟩ := h1
  obtain ⟨y0, y1, y2, y3, m, hx, hy0, hy1, hy2, hy3⟩ := trod_array4 Yba.underlying24 cells23 hf
  obtain ⟨x0, e0, _, w0⟩ := DataW.trod_int Yba.underlying23 hy0
  obtain ⟨x1, e1, _, w1⟩ := DataW.trod_int Yba.underlying23 hy1
  obtain ⟨x2, e2, _, w2⟩ := DataW.trod_int Yba.underlying23 hy2
  obtain ⟨x3, e3, _, w3⟩ := DataW.trod_int Yba.underlying23 hy3
  simp at e0 e1 e2 e3
  subst e0 e1 e2 e3
  obtain ⟨k, rfl, _, _, wk⟩ := open_int Yba.underlying5 (hval 2 5 v2 rfl rfl) h2
  clear hA0 hval0
  by_cases hbig : len0 ≤ 1024
  · exact (law_any a0 len0 cap0 z0 x0 x1 x2 x3 k W hbig hle hmx hcl (bounds_u16 w0) (bounds_u16 w1) (bounds_u16 w2) (bounds_u16 w3) (bounds_u8 wk)).mono post
  · exact (law_big a0 len0 cap0 x0 x1 x2 x3 k W (by omega)).mono post

theorem ofRun : Rows.LawS4193COfRunSaid :=
  OpenClaim.holds_of_wide 3 Yba.f3 rfl rfl rfl rfl rfl rfl rfl ⟨rfl, rfl, rfl, rfl, rfl⟩ rfl rfl rfl rfl rfl (by kernel_rfl) Yba.func3 (by kernel_rfl)
    (of_decide_eq_true (by kernel_rfl)) (by unfold Func.isWrapper; first | (rw [if_pos (by decide +kernel)]; kernel_rfl) | (rw [if_neg (by decide +kernel)]; exact ⟨rfl, rfl⟩))
    (fun os started H enc _ => lifted os started H enc)
end Go.Proofs.Ybulkchuu
