import Derived.Test.YbulkchuuGreatDoorRows
import Derived.JoinedOf
import Derived.SevenTiedAt
namespace Go.Proofs.YbulkchuuGreatDoor
/-! ### the row's closed facts, each by itself -/
theorem bm_closed : joinedFacts Ybaz.pinned.checked.prog 5 Ybaz.f5 Rows.lawS4193BModelSpec Rows.lawS4193BModelRow = true := by kernel_rfl
theorem bm_inst : Ybaz.f5.isInstance Ybaz.pinned.checked.prog Rows.lawS4193BModelRow.origin Rows.lawS4193BModelRow.targs := of_decide_eq_true (by kernel_rfl)
theorem bm_wrap : Ybaz.f5.isWrapper Ybaz.pinned.checked.prog Rows.lawS4193BModelRow.wrapper Rows.lawS4193BModelRow.mainSum := by unfold Func.isWrapper; first | (rw [if_pos (by decide +kernel)]; kernel_rfl) | (rw [if_neg (by decide +kernel)]; exact ⟨rfl, rfl⟩)
theorem bm_fn : Ybaz.pinned.checked.prog.funcNamed Rows.lawS4193BModelRow.func = some 5 := by kernel_rfl
theorem bm_wf : Rows.lawS4193BModelRow.wfByText (OpenSpec.ofChange Rows.lawS4193BModelSpec) = true := by kernel_rfl
theorem bm_main : Ybaz.pinned.checked.prog.mainIs = some ((true, "a836e265d3414e008d0bc589f93fbfcf313f58c1eae75c9a8bfdedac45ab0115").1, ((true, "a836e265d3414e008d0bc589f93fbfcf313f58c1eae75c9a8bfdedac45ab0115") : Bool × String).2.toList) := by kernel_rfl
theorem bm_looks : false = Ybaz.pinned.checked.prog.looks [] := by kernel_rfl
theorem bm_goes : false = Rows.lawS4193BModelRow.goesBy Ybaz.pinned.checked.prog := by kernel_rfl
theorem bm_stand : ([58, 58].all fun u => !Ybaz.pinned.checked.prog.wantsStandIn u) = true := by kernel_rfl
end Go.Proofs.YbulkchuuGreatDoor
