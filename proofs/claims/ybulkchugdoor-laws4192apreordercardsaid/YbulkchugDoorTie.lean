/-
  DERIVED. GIVEN WITH THE SEED: THE PROGRAM's TIES (one call each: nine closed facts by the kernel) AND EACH ROW's TIE, after the 31st guide's Derived/Test/Toyas{Tie, Card}.lean. No idea stands in it: it is a product of the set-up. Laid BY PROGRAM, IN A SANDBOX (cutbox-door.mjs). By AI agents, Wed Nov 11 2026. No macro, syntax, notation, axiom, sorry.
-/
import Derived.Test.YbulkchugDoorRows
import Derived.LaidByTextLater
import Derived.SevenTiedAt
import Derived.LaidSub
import Derived.LaidOnce
namespace Go.Proofs.YbulkchugDoor
open Go
set_option maxRecDepth 100000
theorem seatTie1 : Ybad.prog.laidByTextLater [("example.com/planewright/planewright.funcSpecs", Rows.laid_example_com_planewright_planewright_funcSpecs), ("example.com/planewright/planewright.stringEscapes", Rows.laid_example_com_planewright_planewright_stringEscapes)] [.data, .data] true :=
  Program.laidByTextLater_by_one 29 8 25 (by kernel_rfl) (by kernel_rfl) (by kernel_rfl) (by kernel_rfl) (by kernel_rfl) (by kernel_rfl) (fun _ _ => by kernel_rfl)
theorem noOwnUnsafe : Ybad.pinned.checked.prog.headLifts.contains "ownunsafe" = false := by kernel_rfl
theorem tie : Ybad.prog.laidByTextLater [("example.com/planewright/planewright.funcSpecs", Rows.laid_example_com_planewright_planewright_funcSpecs)] [.data] true :=
  Program.laidByTextLater.sub seatTie1 ["example.com/planewright/planewright.funcSpecs"] (by kernel_rfl) (by kernel_rfl)
theorem lawS4192APreorder_row_tie : Rows.lawS4192APreorderRow.laidByTextAt .later Ybad.pinned [.data] true :=
  OpenClaim.laidByTextAt_later rfl rfl tie noOwnUnsafe
theorem lawS4192AOuterTop_row_tie : Rows.lawS4192AOuterTopRow.laidByTextAt .later Ybad.pinned [.data] true :=
  OpenClaim.laidByTextAt_later rfl rfl tie noOwnUnsafe
theorem tie2 : Ybad.prog.laidByTextLater [("example.com/planewright/planewright.stringEscapes", Rows.laid_example_com_planewright_planewright_stringEscapes)] [.data] true :=
  Program.laidByTextLater.sub seatTie1 ["example.com/planewright/planewright.stringEscapes"] (by kernel_rfl) (by kernel_rfl)
theorem lawS4192CAppends_row_tie : Rows.lawS4192CAppendsRow.laidByTextAt .later Ybad.pinned [.data] true :=
  OpenClaim.laidByTextAt_later rfl rfl tie2 noOwnUnsafe
end Go.Proofs.YbulkchugDoor
