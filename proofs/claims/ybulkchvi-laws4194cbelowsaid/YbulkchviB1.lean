import Derived.Test.Ybulkchvi1
import Derived.Laws.StructEq
import Derived.Laws.AppendOwnNone
import Derived.BigQuiet
import Derived.Sort.Grow
import Derived.Lib.SliceRun
import Derived.Lib.Small
namespace Go.Proofs.Ybulkchvi
open Go.RowKit
set_option linter.unusedVariables false
set_option linter.unusedSimpArgs false
set_option maxRecDepth 100000

theorem info57 : (Yba.prog.info? 57).map (fun i => (i.zero, i.size, i.bytes)) = some (some (.agg #[.int .i32 0, .int .i32 0]), 2, 8) := by kernel_rfl
theorem info21 : (Yba.prog.info? 21).map (fun i => (i.zero, i.size, i.bytes)) = some (some (.int .i32 0), 1, 4) := by kernel_rfl

theorem own_slice' {w : World} {B : Nat} {e : TypeId} {size : Nat} {v : Value} {n : Nat} {xs : List Value} (h : w.ownsRow B e size v n xs) : ∃ ao c, v = .slice ao n c := by
  rcases h.2 with ⟨rfl, rfl⟩ | ⟨g, cap, cur, rfl, h1, h2, h3⟩
  · exact ⟨_, _, rfl⟩
  · exact ⟨_, _, rfl⟩

/-- a run's two cells -/
def enc2 (x : Int × Int) : List Value := [.int .i32 x.1, .int .i32 x.2]

theorem neq_run (x y : Int) (W : World) : (binOp .neq 57 (.agg #[.int .i32 x, .int .i32 y]) (.agg #[.int .i32 x, .int .i32 y])).run Yba.prog W = .ok (.bool false) W := by
  rw [run_neq_struct, run_equalIn_struct W 9999 57 _ _ (by kernel_rfl) (by kernel_rfl)]
  go_simp

set_option maxHeartbeats 1000000 in
/-- slices.Equal at runs: two rows that hold the same -/
theorem equal14 (ao bo : Option Addr) (n ca cb : Nat) (f : Nat → Int × Int) (w : World) (hn : n ≤ 10000000)
    (h : ∀ k, k < n → ∃ ga gb, ao = some ⟨ga, 0, none⟩ ∧ bo = some ⟨gb, 0, none⟩ ∧ w.cell? ⟨ga, k * 2, none⟩ = some (.int .i32 (f k).1) ∧ w.cell? ⟨ga, k * 2 + 1, none⟩ = some (.int .i32 (f k).2) ∧ w.cell? ⟨gb, k * 2, none⟩ = some (.int .i32 (f k).1) ∧ w.cell? ⟨gb, k * 2 + 1, none⟩ = some (.int .i32 (f k).2)) :
    Calls Yba.prog 14 #[.slice ao n ca, .slice bo n cb] w fun e w' => e = .returned (.bool true) ∧ Below w.heap.size w w' := by
  have H := hid h
  clear h
  go_enter Yba.func14, Yba.ntmps14
  go_wp2
  go_loopw [13] (fun i wr => ∃ j nq : Nat, j ≤ n ∧ i = .int .i64 j ∧ wr = w.drewN nq) (fun i _ => n - (intOf i).toNat)
  case atStart => exact ⟨0, 0, by omega, rfl, rfl⟩
  case round =>
    obtain ⟨j, nq, hj, rfl, rfl⟩ := hrel
    by_cases hjn : j < n
    · have hji : (j : Int) < (n : Int) := by omega
      obtain ⟨ga, gb, rfl, rfl, a0, a1, b0, b1⟩ := H.out j hjn
      generalize f j = xy at *
      obtain ⟨x, y⟩ := xy
      have hq := neq_run x y
      go_wp2
      go_quiet (fail)
      go_wp2
      go_roundw
      case rel => exact ⟨j + 1, _, by omega, by go_num, rfl⟩
      case measure => simp [intOf]; omega
    · have hji : (n : Int) ≤ (j : Int) := by omega
      go_wp2
      go_ret
      exact ⟨rfl, below_drewN (Below.refl _ _) _⟩

set_option maxHeartbeats 1000000 in
/-- slices.Equal at ranks: two rows that hold the same -/
theorem equal15 (ao bo : Option Addr) (n ca cb : Nat) (f : Nat → Int) (w : World) (hn : n ≤ 10000000)
    (h : ∀ k, k < n → ∃ ga gb, ao = some ⟨ga, 0, none⟩ ∧ bo = some ⟨gb, 0, none⟩ ∧ w.cell? ⟨ga, k, none⟩ = some (.int .i32 (f k)) ∧ w.cell? ⟨gb, k, none⟩ = some (.int .i32 (f k))) :
    Calls Yba.prog 15 #[.slice ao n ca, .slice bo n cb] w fun e w' => e = .returned (.bool true) ∧ Below w.heap.size w w' := by
  have H := hid h
  clear h
  go_enter Yba.func15, Yba.ntmps15
  go_wp2
  go_loopw [13] (fun i wr => ∃ j nq : Nat, j ≤ n ∧ i = .int .i64 j ∧ wr = w.drewN nq) (fun i _ => n - (intOf i).toNat)
  case atStart => exact ⟨0, 0, by omega, rfl, rfl⟩
  case round =>
    obtain ⟨j, nq, hj, rfl, rfl⟩ := hrel
    by_cases hjn : j < n
    · have hji : (j : Int) < (n : Int) := by omega
      obtain ⟨ga, gb, rfl, rfl, a0, b0⟩ := H.out j hjn
      go_wp2
      go_quiet (fail)
      go_wp2
      go_roundw
      case rel => exact ⟨j + 1, _, by omega, by go_num, rfl⟩
      case measure => simp [intOf]; omega
    · have hji : (n : Int) ≤ (j : Int) := by omega
      go_wp2
      go_ret
      exact ⟨rfl, below_drewN (Below.refl _ _) _⟩

/-- slices.Clone at nil -/
theorem clone_nil (w : World) : Calls Yba.prog 12 #[.slice none 0 0] w fun e w' => e = .returned (.slice none 0 0) ∧ w' = w := by
  have hnil : ∀ W, (binOp .eql 52 (.slice none 0 0) (.slice none 0 0)).run Yba.prog W = .ok (.bool true) W := fun W => Lib.run_eql_slice_nil W 52 57 none 0 0 0 0 Yba.underlying52
  go_enter Yba.func12, Yba.ntmps12
  go_wp2
  go_ret
  exact ⟨rfl, rfl⟩

set_option maxHeartbeats 1000000 in
/-- slices.Clone of a row of runs -/
theorem clone_any (g n c : Nat) (xs : List Value) (w : World) (hl : xs.length = n * 2) (hc : ∀ j u, xs[j]? = some u → w.cell? ((⟨g, 0, none⟩ : Addr).add j) = some u) (h1 : ∀ u ∈ xs, u.oneCell' = true) (hn : n ≤ 10000000) :
    Calls Yba.prog 12 #[.slice (some ⟨g, 0, none⟩) n c] w fun e w' => ∃ v, e = .returned v ∧ w'.ownsRow w.heap.size 57 2 v n xs ∧ Below w.heap.size w w' := by
  have hnil : ∀ W, (binOp .eql 52 (.slice (some ⟨g, 0, none⟩) n c) (.slice none 0 0)).run Yba.prog W = .ok (.bool false) W := fun W => Lib.run_eql_slice_nil W 52 57 _ n c 0 0 Yba.underlying52
  obtain ⟨i0, hi, hz0, hz1, hz2⟩ := info_parts info57
  have HL := hid hl; have HC := hid hc; have H1 := hid h1
  clear hl hc h1
  go_enter Yba.func12, Yba.ntmps12
  have hown : (w.alloc (.cells #[] 57)).ownsRow w.heap.size 57 2 (.slice (some ⟨w.heap.size, 0, none⟩) 0 0) 0 [] := ⟨rfl, .inr ⟨w.heap.size, 0, #[], rfl, Nat.le_refl _, heap_alloc_new w (.cells #[] 57), Nat.le_refl _, by unfold maxLen; omega, rfl, rfl⟩⟩
  have Hown := hid hown
  clear hown
  go_wp2_with (at_builtin; refine wpList_append_own _ rfl _ _ 52 rfl w.heap.size 57 i0 _ 2 8 Yba.underlying52 hi hz0 hz1 hz2 rfl (by decide) _ _ _ rfl Hown.out ⟨g, 0, none⟩ n c xs rfl HL.out ?c1 H1.out ?c3 ?c4 ?c5 ?_)
  case c1 =>
    intro j u hj
    have h := HC.out j u hj
    exact Lib.cell?_alloc_some _ h
  case c3 => unfold maxLen; omega
  case c4 => omega
  case c5 => simp
  intro v w2 ho hg _
  have Ho := hid ho; have Hg := hid hg
  have hv := own_slice' ho
  obtain ⟨ao, cp, rfl⟩ := hv
  clear ho hg
  go_wp2
  go_ret
  refine ⟨_, rfl, ?_, ?_⟩
  · exact Ho.out
  · have h := Hg.out
    exact ⟨h.os, h.tape, h.output, by have := h.size; simp at this; omega, fun k hk => (h.block k (by simp; omega) (by simp [Value.ownBlock]; omega)).trans (Below.heap_alloc _ _ _ hk)⟩

/-- cmp.isNaN at int32 -/
theorem isNaN23 (x : Int) (w : World) : Calls Yba.prog 23 #[.int .i32 x] w fun e w' => e = .returned (.bool false) ∧ w' = w := by
  go_enter Yba.func23, Yba.ntmps23
  go_wp2
  go_ret
  exact ⟨rfl, rfl⟩

/-- cmp.Compare at int32 -/
theorem compare20 (x y : Int) (w : World) : Calls Yba.prog 20 #[.int .i32 x, .int .i32 y] w fun e w' => e = .returned (.int .i64 (Lib.compareInt x y)) ∧ w' = w := by
  unfold Lib.compareInt
  by_cases h1 : x < y
  · have e1 : (if x < y then (-1 : Int) else if x > y then 1 else 0) = -1 := by simp [h1]
    rw [e1]
    go_enter Yba.func20, Yba.ntmps20
    go_wp2_with fail
    refine (isNaN23 x w).mono ?_
    rintro e w1 ⟨rfl, rfl⟩
    go_wp2_with fail
    refine (isNaN23 y w1).mono ?_
    rintro e w2 ⟨rfl, rfl⟩
    go_wp2
    go_ret
    exact ⟨rfl, rfl⟩
  · by_cases h2 : x > y
    · have e1 : (if x < y then (-1 : Int) else if x > y then 1 else 0) = 1 := by simp [h1, h2]
      rw [e1]
      go_enter Yba.func20, Yba.ntmps20
      go_wp2_with fail
      refine (isNaN23 x w).mono ?_
      rintro e w1 ⟨rfl, rfl⟩
      go_wp2_with fail
      refine (isNaN23 y w1).mono ?_
      rintro e w2 ⟨rfl, rfl⟩
      go_wp2
      go_ret
      exact ⟨rfl, rfl⟩
    · have e1 : (if x < y then (-1 : Int) else if x > y then 1 else 0) = 0 := by simp [h1, h2]
      rw [e1]
      go_enter Yba.func20, Yba.ntmps20
      go_wp2_with fail
      refine (isNaN23 x w).mono ?_
      rintro e w1 ⟨rfl, rfl⟩
      go_wp2_with fail
      refine (isNaN23 y w1).mono ?_
      rintro e w2 ⟨rfl, rfl⟩
      go_wp2
      go_ret
      exact ⟨rfl, rfl⟩

open Go.Sort in
/-- the closure of mergeRuns -/
theorem closure19 (x y : Int × Int) (W : World) : Calls Yba.prog 19 #[.agg #[.int .i32 x.1, .int .i32 x.2], .agg #[.int .i32 y.1, .int .i32 y.2]] W fun e w' => e = .returned (.int .i64 (Lib.compareInt x.1 y.1)) ∧ ∃ q os', w' = grow (W.drewN q) os' := by
  have hcon := fun W' => compare20 x.1 y.1 W'
  generalize Lib.compareInt x.1 y.1 = r at hcon ⊢
  go_enter Yba.func19, Yba.ntmps19
  go_wp2_with fail
  refine (hcon _).mono ?_
  rintro e w' ⟨rfl, rfl⟩
  go_wp2
  go_ret
  exact ⟨rfl, 0, _, by rw [alloc_eq_grow, alloc_eq_grow, grow_grow]; rfl⟩

/-- the runs from f0 to f1 -/
def segV (ra : Option Addr) (c f0 f1 : Nat) : Value := .slice (if c = f0 then ra else Option.map (fun x => x.add (f0 * 2)) ra) (f1 - f0) (c - f0)

set_option maxHeartbeats 1000000 in
/-- runsOf: a part of the runs -/
theorem runsOf16 (bh : Nat) (ra : Option Addr) (n c fg m fc k f0 f1 : Nat) (w : World) (hm : (k : Int) + 1 < (m : Int)) (hm2 : m ≤ 1000) (hn : n ≤ 100000) (h01 : f0 ≤ f1) (h1n : f1 ≤ n) (hnc : n ≤ c) (hc : c ≤ maxLen)
    (h0 : w.cell? ⟨bh, 0, none⟩ = some (.slice ra n c)) (h1 : w.cell? ⟨bh, 1, none⟩ = some (.slice (some ⟨fg, 0, none⟩) m fc))
    (c0 : w.cell? ⟨fg, k, none⟩ = some (.int .i32 (f0 : Int))) (c1 : w.cell? ⟨fg, k + 1, none⟩ = some (.int .i32 (f1 : Int))) :
    Calls Yba.prog 16 #[.pointer (some ⟨bh, 0, none⟩), .int .i64 k] w fun e w' => e = .returned (segV ra c f0 f1) ∧ Below w.heap.size w w' := by
  go_enter Yba.func16, Yba.ntmps16
  go_wp2
  go_quiet (fail)
  generalize hv : Value.slice (if c = f0 then ra else Option.map (fun x => x.add (f0 * 2)) ra) (f1 - f0) (c - f0) = v
  have Hv := hid hv
  clear hv
  go_wp2
  go_ret
  exact ⟨by rw [segV, Hv.out]; rfl, below_drewN (Below.refl _ _) _⟩
end Go.Proofs.Ybulkchvi
