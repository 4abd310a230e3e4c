import Derived.Test.YbulkchviM1
import Derived.Test.YbulkchviM2
import Derived.Test.YbulkchviM3
import Derived.Test.YbulkchviM4
import Derived.Test.YbulkchviM5
import Derived.Test.YbulkchviOpen
import Derived.Test.YbulkchviRows
import Derived.Test.YbulkchviChecked
import Derived.Lib.SmallJoins
namespace Go.Proofs.Ybulkchvi
open Go.ChangeShapes Go.WideShapes Go.ChangeAt Go.RowKit
set_option linter.unusedVariables false
set_option linter.unusedSimpArgs false

theorem cells24 : Yba.prog.cellsOf 24 = 5 := by kernel_rfl
theorem cells3 : Yba.prog.cellsOf 3 = 1 := by kernel_rfl

set_option maxRecDepth 100000 in
/-- more than 1024 bits: true at once -/
theorem model_big (b0 b1 : Bool) (fs sa sr : Int) (ex : Bool) (pa ra : Option Addr) (pn pc rn rc : Nat) (al st : Int) (w : World) (hn : (1024 : Int) < (pn : Int)) :
    Calls Yba.prog 3 #[.agg #[.bool b0, .bool b1, .int .i64 fs, .int .u64 sa, .int .u64 sr], .agg #[.bool ex, .slice pa pn pc, .slice ra rn rc, .int .i64 st], .int .u64 al] w fun e w' => e = .returned (.bool true) ∧ Below w.heap.size w w' := by
  go_enter Yba.func3, Yba.ntmps3
  go_wp2
  go_ret
  exact ⟨rfl, ((Below.refl _ _).alloc (Nat.le_refl _) _).alloc (by simp) _⟩

theorem list5' (l : List Value) (h : l.length = 5) : ∃ a b c d e, l = [a, b, c, d, e] := by
  match l, h with
  | [a, b, c, d, e], _ => exact ⟨a, b, c, d, e, rfl⟩

theorem trod_state {H : Type} {enc : TypeId × Value → H} {W : World} {c0 c1 c2 c3 c4 : Value} {fuel : Nat} {x : DataW H × List MemPlace} (h : DataW.trod enc Yba.prog W 0 (fun _ => true) true fuel 24 [c0, c1, c2, c3, c4] = some x) :
    ∃ (b0 b1 : Bool) (fs sa sr : Int), c0 = .bool b0 ∧ c1 = .bool b1 ∧ c2 = .int .i64 fs ∧ c3 = .int .u64 sa ∧ c4 = .int .u64 sr := by
  obtain ⟨xs, n, _, _, _, hl, hf⟩ := DataW.trod_struct Yba.underlying24 h
  have hl : xs.length = 5 := hl
  have g0 : DataW.trod enc Yba.prog W 0 (fun _ => true) true n 4 ([c0, c1, c2, c3, c4].take (Yba.prog.cellsOf 4)) = xs[0]? := hf 0 _ rfl
  rw [cells4, List.getElem?_eq_getElem (by omega)] at g0
  have g1 : DataW.trod enc Yba.prog W 0 (fun _ => true) true n 4 ([c1, c2, c3, c4].take (Yba.prog.cellsOf 4)) = xs[1]? := hf 1 _ rfl
  rw [cells4, List.getElem?_eq_getElem (by omega)] at g1
  have g2 : DataW.trod enc Yba.prog W 0 (fun _ => true) true n 3 ([c2, c3, c4].take (Yba.prog.cellsOf 3)) = xs[2]? := hf 2 _ rfl
  rw [cells3, List.getElem?_eq_getElem (by omega)] at g2
  have g3 : DataW.trod enc Yba.prog W 0 (fun _ => true) true n 22 ([c3, c4].take (Yba.prog.cellsOf 22)) = xs[3]? := hf 3 _ rfl
  rw [cells22, List.getElem?_eq_getElem (by omega)] at g3
  have g4 : DataW.trod enc Yba.prog W 0 (fun _ => true) true n 22 ([c4].take (Yba.prog.cellsOf 22)) = xs[4]? := hf 4 _ rfl
  rw [cells22, List.getElem?_eq_getElem (by omega)] at g4
  obtain ⟨b0, e0, _⟩ := DataW.trod_bool Yba.underlying4 g0
  obtain ⟨b1, e1, _⟩ := DataW.trod_bool Yba.underlying4 g1
  obtain ⟨fs, e2, _, _⟩ := DataW.trod_int Yba.underlying3 g2
  obtain ⟨sa, e3, _, _⟩ := DataW.trod_int Yba.underlying22 g3
  obtain ⟨sr, e4, _, _⟩ := DataW.trod_int Yba.underlying22 g4
  injection e0 with e0; injection e1 with e1; injection e2 with e2; injection e3 with e3; injection e4 with e4
  exact ⟨b0, b1, fs, sa, sr, e0, e1, e2, e3, e4⟩

set_option maxRecDepth 100000 in
theorem model_lifted (os : Os) (started : os.Started) (H : Type) (enc : TypeId × Value → H) :
    ReturnsInHanded {} Yba.checked os 3 .any (Rows.lawS4194AModelSpec.pre6 enc Yba.prog Yba.f3 Rows.lawS4194AModelRow.domain false) (Rows.lawS4194AModelSpec.post enc Yba.prog Yba.f3 false true false false) := by
  refine returnsInHanded_of_change (C := Yba.checked) own started (by kernel_rfl) Yba.func3
    (ChangeSpec.witness6 (enc := enc) (C := Yba.checked) false ⟨#[], #[.agg #[.bool false, .bool false, .int .i64 0, .int .u64 0, .int .u64 0], .agg #[.bool false, .slice none 0 0, .slice none 0 0, .int .i64 0], .int .u64 0], []⟩ 8 (by kernel_rfl) (by kernel_rfl) (by kernel_rfl) (by kernel_rfl)) ?_
  intro W base args ds gs before hval0 hW hcnd _
  have hval : ∀ (j : Nat) t v, Yba.f3.params[j]? = some t → args[j]? = some v → Value.okWide Yba.prog W .any base t v := hval0
  have hW' := hW
  obtain ⟨p, q, hA0, hV, rfl, hfz, hnd⟩ := hW
  have hA : DataW.TrodAll enc Yba.prog W 0 (fun _ => true) true Yba.f3.params.toList args.toList ds p := hA0
  rw [Yba.params3] at hA hval
  obtain ⟨v0, vs0, d0, ds0, p0, q0, hargs, rfl, rfl, h0, r0⟩ := trodAll_cons hA
  obtain ⟨v1, vs1, d1, ds1, p1, q1, rfl, rfl, rfl, h1, r1⟩ := trodAll_cons r0
  obtain ⟨v2, vs2, d2, ds2, p2, q2, rfl, rfl, rfl, h2, r2⟩ := trodAll_cons r1
  obtain ⟨rfl, rfl, rfl⟩ := trodAll_nil r2
  obtain rfl : args = #[v0, v1, v2] := by cases args; simp_all
  obtain ⟨rfl, rfl⟩ := trodVars_none hV
  have k0 := h0
  have k1 := h1
  have k2 := h2
  have lt0 : ∀ x ∈ p0, x.block < W.heap.size := by obtain ⟨m, hm⟩ := k0; exact DataW.trod_lt m _ _ _ hm
  have lt1 : ∀ x ∈ p1, x.block < W.heap.size := by obtain ⟨m, hm⟩ := k1; exact DataW.trod_lt m _ _ _ hm
  have lt2 : ∀ x ∈ p2, x.block < W.heap.size := by obtain ⟨m, hm⟩ := k2; exact DataW.trod_lt m _ _ _ hm
  have post : ∀ (e : Ending) (W' : World), (e = .returned (.bool true) ∧ Below W.heap.size W W') → ∃ v, e = .returned v ∧ Rows.lawS4194AModelSpec.post enc Yba.prog Yba.f3 false true false false W #[v0, v1, v2] v W' := by
    rintro e W' ⟨rfl, bel⟩
    exact ⟨_, rfl, _, _, _, [], _, [], hW', trodAll_mk1 (shut_bool Yba.underlying4 _), (trodAll_cons_mk (Below.trod laidOut (by kernel_rfl) (of_decide_eq_true (by kernel_rfl)) k0 bel lt0) (trodAll_cons_mk (Below.trod laidOut (by kernel_rfl) (of_decide_eq_true (by kernel_rfl)) k1 bel lt1) (trodAll_cons_mk (Below.trod laidOut (by kernel_rfl) (of_decide_eq_true (by kernel_rfl)) k2 bel lt2) trodAll_mk0))), rfl, bel.frame _, fun h => by cases h⟩
  obtain ⟨cs, rfl, hsz, _⟩ : ∃ cs, v0 = .agg cs ∧ cs.size = Yba.prog.cellsOf 24 ∧ Row.okWide Yba.prog W .any base 24 cs := by
    have := hval 0 24 v0 rfl rfl
    simpa [Value.okWide, Yba.underlying24] using this
  rw [cells24] at hsz
  obtain ⟨l⟩ := cs
  obtain ⟨c0, c1, c2, c3, c4, rfl⟩ := list5' l hsz
  obtain ⟨f0, hf0⟩ := h0
  obtain ⟨b0, b1, fs, sa, sr, rfl, rfl, rfl, rfl, rfl⟩ := trod_state hf0
  obtain ⟨x0, x1, x2, x3, y0, y1, y2, y3, n, rfl, _, _, g0, g1, g2, g3⟩ := Go.Joins.open_agg4 Yba.underlying28 (by kernel_rfl) (by kernel_rfl) (hval 1 28 v1 rfl rfl) h1
  obtain ⟨ex, e0, _⟩ := DataW.trod_bool Yba.underlying4 g0
  obtain ⟨st, e3, _, _⟩ := DataW.trod_int Yba.underlying3 g3
  injection e0 with e0
  injection e3 with e3
  subst e0 e3
  obtain ⟨a0, len0, cap0, rfl⟩ : ∃ a l c, x1 = .slice a l c := by
    rcases Go.Deep.open_slice Yba.underlying25 g1 with ⟨hcs, _⟩ | ⟨ad, l, cc, m, fu, D, Pl, hcs, _⟩
    · injection hcs with hcs; exact ⟨_, _, _, hcs⟩
    · injection hcs with hcs; exact ⟨_, _, _, hcs⟩
  obtain ⟨a1, len1, cap1, rfl⟩ : ∃ a l c, x2 = .slice a l c := by
    rcases Go.Deep.open_slice Yba.underlying26 g2 with ⟨hcs, _⟩ | ⟨ad, l, cc, m, fu, D, Pl, hcs, _⟩
    · injection hcs with hcs; exact ⟨_, _, _, hcs⟩
    · injection hcs with hcs; exact ⟨_, _, _, hcs⟩
  obtain ⟨bit, hn0, hP, hB⟩ := open_bits Yba.underlying25 Yba.underlying22 cells22 g1
  obtain ⟨rb, hn1, hR⟩ := open_flags Yba.underlying26 Yba.underlying4 cells4 g2
  obtain ⟨al, rfl, _, _, wal⟩ := open_int Yba.underlying22 (hval 2 22 v2 rfl rfl) h2
  clear hA0 hval0
  by_cases hbig : len0 ≤ 1024
  · cases b0 with
    | false =>
      cases ex with
      | true => exact (model1 b1 a0 a1 len0 cap0 len1 cap1 al st fs sa sr bit rb W hbig hn1 hP hR).mono post
      | false => exact (model2 b1 a0 a1 len0 cap0 len1 cap1 al st fs sa sr bit rb W hbig hn1 hP hR).mono post
    | true =>
      cases b1 with
      | true => exact (model4 ex a0 a1 len0 cap0 len1 cap1 al st fs sa sr bit rb W hbig hn1 hP hR).mono post
      | false =>
        cases ex with
        | true => exact (model5 a0 a1 len0 cap0 len1 cap1 al st fs sa sr bit rb W hbig hn1 hP hR).mono post
        | false => exact (model3 a0 a1 len0 cap0 len1 cap1 al st fs sa sr bit rb W hbig hn1 hP hR).mono post
  · exact (model_big _ _ _ _ _ ex a0 a1 len0 cap0 len1 cap1 al st W (by omega)).mono post

theorem model : Rows.LawS4194AModelSaid :=
  OpenClaim.holds_of_wide 3 Yba.f3 rfl rfl rfl rfl rfl rfl rfl ⟨rfl, rfl, rfl, rfl, rfl⟩ rfl rfl rfl rfl rfl (by kernel_rfl) Yba.func3 (by kernel_rfl)
    (of_decide_eq_true (by kernel_rfl)) (by unfold Func.isWrapper; first | (rw [if_pos (by decide +kernel)]; kernel_rfl) | (rw [if_neg (by decide +kernel)]; exact ⟨rfl, rfl⟩))
    (fun os started H enc _ => model_lifted os started H enc)
end Go.Proofs.Ybulkchvi
