import Derived.Test.Ybulkchvi2
import Derived.Laws.StructEq
import Derived.LaidEqlPtr
import Derived.Laws.Pointers
import Derived.BigQuiet
namespace Go.Proofs.Ybulkchvi
open Go.RowKit
set_option linter.unusedVariables false
set_option linter.unusedSimpArgs false
set_option maxRecDepth 100000

theorem neq_fault (m i u f : Int) (W : World) : (binOp .neq 44 (.agg #[.int .u8 m, .pointer none, .pointer none, .pointer none, .int .i64 i, .int .u64 u, .int .i64 f]) (.agg #[.int .u8 m, .pointer none, .pointer none, .pointer none, .int .i64 i, .int .u64 u, .int .i64 f])).run Yba.prog W = .ok (.bool false) W := by
  have hp : ∀ W, (Op.equalIn 9999 42 (.pointer none) (.pointer none)).run Yba.prog W = .ok true W := fun W => run_equalIn_pointer_nil (P := Yba.prog) W 9998 42 none (by kernel_rfl)
  rw [run_neq_struct, run_equalIn_struct W 9999 44 _ _ (by kernel_rfl) (by kernel_rfl)]
  go_simp

/-- rows of faults, laid alike in two blocks -/
def Rows2 (ao bo : Option Addr) (n : Nat) (w : World) : Prop :=
  ∀ k, k < n → ∃ ga gb m i u f, ao = some ⟨ga, 0, none⟩ ∧ bo = some ⟨gb, 0, none⟩ ∧ ∀ t v, (fault m i u f)[t]? = some v → w.cell? ⟨ga, k * 7 + t, none⟩ = some v ∧ w.cell? ⟨gb, k * 7 + t, none⟩ = some v

set_option maxHeartbeats 1000000 in
theorem equal_rows (ao bo : Option Addr) (n ca cb : Nat) (w : World) (hn : n ≤ 100000) (h : Rows2 ao bo n w) :
    Calls Yba.prog 9 #[.slice ao n ca, .slice bo n cb] w fun e w' => e = .returned (.bool true) ∧ Below w.heap.size w w' := by
  have H := hid h
  clear h
  go_enter Yba.func9, Yba.ntmps9
  go_wp2
  go_loopw [13] (fun i wr => ∃ j nq : Nat, j ≤ n ∧ i = .int .i64 j ∧ wr = w.drewN nq) (fun i _ => n - (intOf i).toNat)
  case atStart => exact ⟨0, 0, by omega, rfl, rfl⟩
  case round =>
    obtain ⟨j, nq, hj, rfl, rfl⟩ := hrel
    by_cases hjn : j < n
    · have hji : (j : Int) < (n : Int) := by omega
      obtain ⟨ga, gb, m, i, u, f, rfl, rfl, hc⟩ := H.out j hjn
      have a0 := (hc 0 _ rfl).1; have a1 := (hc 1 _ rfl).1; have a2 := (hc 2 _ rfl).1; have a3 := (hc 3 _ rfl).1; have a4 := (hc 4 _ rfl).1; have a5 := (hc 5 _ rfl).1; have a6 := (hc 6 _ rfl).1
      have b0 := (hc 0 _ rfl).2; have b1 := (hc 1 _ rfl).2; have b2 := (hc 2 _ rfl).2; have b3 := (hc 3 _ rfl).2; have b4 := (hc 4 _ rfl).2; have b5 := (hc 5 _ rfl).2; have b6 := (hc 6 _ rfl).2
      rw [Nat.add_zero] at a0 b0
      have hq := neq_fault m i u f
      clear hc
      go_wp2
      go_quiet (fail)
      go_wp2
      go_roundw
      case rel => exact ⟨j + 1, _, by omega, by go_num, rfl⟩
      case measure => simp [intOf]; omega
    · have hji : (n : Int) ≤ (j : Int) := by omega
      go_wp2
      go_ret
      exact ⟨rfl, below_drewN (Below.refl _ _) _⟩
end Go.Proofs.Ybulkchvi
