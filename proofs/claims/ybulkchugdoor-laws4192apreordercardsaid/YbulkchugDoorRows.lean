/-
  NARROWER THAN 'FOR EVERY INPUT', by the rows' own cells (each row's printed sentence says how): LawS4192APreorder: laid · LawS4192AOuterTop: laid · LawS4192CAppends: laid.
  DERIVED. THE GIVEN ROWS OF THIS SEAT. 3 by the template 'for every input the law returns true; each argument reads behind the call as it read before'; 0 by the template 'total and deterministic' (their statements: YbulkchugDoorTotals.lean).
  GIVEN WITH THE SEED: the statements are not yours to turn. If you find one false, say at which input.
  Laid BY PROGRAM, IN A SANDBOX (cutbox-rows.mjs): the forced cells as the released guide's own fill.sh prints them over the translation a69804afa5ee7e22… (all of the seat's roots in one cut). By AI agents, Wed Nov 11 2026. No macro, syntax, notation, axiom, sorry.
-/
import Derived.Test.YbulkchugDoorChecked
import GoSem.Claim
import GoSem.ClaimJoined
import GoSem.ClaimMapViews
import Derived.JoinedTies
import Derived.KernelRfl
namespace Go.Proofs.YbulkchugDoor
/- THE CELL 'sum', in the pinned program and in every row, IS THE sha256 OF THE DUMP (.gsa) THAT YbulkchugDoorProg.lean LOADS. Nothing in Lean hashes anything: it is a label: what it is worth is what the hold of that sum in a sandbox is worth. -/
noncomputable def Ybad.pinned : Pinned := { name := "ybulkchugdoor", sum := "a69804afa5ee7e2298b8f7dcbc484c5c9367deef81d763f95d38cbb82eea02b9", checked := Ybad.checked }
namespace Rows
def none {H : Type} : Left H := { results := [], args := [] }

/- WHAT THE LISTED PACKAGE-LEVEL VARIABLES READ AS WHEN THE CALL BEGINS. Each datum BY PROGRAM (the guide's laid-datum.mjs) off the statement by which the dump's own 'gosem.cut.vars' lays the variable. In a bare row this is a premise. The card (YbulkchugDoorCards.lean) ties it to the program's text. -/
def laid_example_com_planewright_planewright_funcSpecs {H : Type} : DataW H := .agg [.agg [.lit (.string [99, 111, 97, 108, 101, 115, 99, 101]), .lit (.int .i64 1), .lit (.int .i64 (-1)), .lit (.bool false), .lit (.bool false), .lit (.bool false)], .agg [.lit (.string [97, 98, 115]), .lit (.int .i64 1), .lit (.int .i64 1), .lit (.bool false), .lit (.bool true), .lit (.bool true)], .agg [.lit (.string [114, 97, 110, 100]), .lit (.int .i64 0), .lit (.int .i64 0), .lit (.bool true), .lit (.bool false), .lit (.bool false)], .agg [.lit (.string [115, 108, 101, 101, 112]), .lit (.int .i64 1), .lit (.int .i64 1), .lit (.bool true), .lit (.bool false), .lit (.bool true)]]
def laid_example_com_planewright_planewright_stringEscapes {H : Type} : DataW H := .agg [.agg [.lit (.int .u8 0), .lit (.int .u8 48)], .agg [.lit (.int .u8 8), .lit (.int .u8 98)], .agg [.lit (.int .u8 10), .lit (.int .u8 110)], .agg [.lit (.int .u8 13), .lit (.int .u8 114)], .agg [.lit (.int .u8 9), .lit (.int .u8 116)], .agg [.lit (.int .u8 26), .lit (.int .u8 90)]]

/-- 'planewright.LawS4192APreorder': WHATEVER THE INPUT: true; the input reads as it did. -/
def lawS4192APreorderSpec : ChangeSpec := { name := "lawS4192APreorder", vars := ["example.com/planewright/planewright.funcSpecs"], fn := fun _ => fun
  | [d1, d2, g1] => { results := [.lit (.bool true)], args := [d1, d2], vars := [g1] }
  | _ => none }
def lawS4192APreorderRow : OpenClaim := { program := "ybulkchugdoor", sum := "a69804afa5ee7e2298b8f7dcbc484c5c9367deef81d763f95d38cbb82eea02b9", func := "example.com/planewright/planewright.LawS4192APreorder", spec := "lawS4192APreorder", unfollowed := true, recurses := true, named := ["example.com/planewright/planewright.funcSpecs"], apart := false, laid := [("example.com/planewright/planewright.funcSpecs", laid_example_com_planewright_planewright_funcSpecs)] }
def LawS4192APreorderSaid : Prop := lawS4192APreorderRow.holds Ybad.pinned (OpenSpec.ofChange lawS4192APreorderSpec)

/-- ITS FALSE NEIGHBOUR: 'it returns false'. Refute it at one input. -/
def lawS4192APreorderWrong : ChangeSpec := { name := "lawS4192APreorder", vars := ["example.com/planewright/planewright.funcSpecs"], fn := fun _ => fun
  | [d1, d2, g1] => { results := [.lit (.bool false)], args := [d1, d2], vars := [g1] }
  | _ => none }
def LawS4192APreorderWrongFalsely : Prop := lawS4192APreorderRow.holds Ybad.pinned (OpenSpec.ofChange lawS4192APreorderWrong)

/-- 'planewright.LawS4192AOuterTop': WHATEVER THE INPUT: true; the input reads as it did. -/
def lawS4192AOuterTopSpec : ChangeSpec := { name := "lawS4192AOuterTop", vars := ["example.com/planewright/planewright.funcSpecs"], fn := fun _ => fun
  | [d1, d2, d3, g1] => { results := [.lit (.bool true)], args := [d1, d2, d3], vars := [g1] }
  | _ => none }
def lawS4192AOuterTopRow : OpenClaim := { program := "ybulkchugdoor", sum := "a69804afa5ee7e2298b8f7dcbc484c5c9367deef81d763f95d38cbb82eea02b9", func := "example.com/planewright/planewright.LawS4192AOuterTop", spec := "lawS4192AOuterTop", unfollowed := true, recurses := true, named := ["example.com/planewright/planewright.funcSpecs"], apart := false, laid := [("example.com/planewright/planewright.funcSpecs", laid_example_com_planewright_planewright_funcSpecs)] }
def LawS4192AOuterTopSaid : Prop := lawS4192AOuterTopRow.holds Ybad.pinned (OpenSpec.ofChange lawS4192AOuterTopSpec)

/-- ITS FALSE NEIGHBOUR: 'it returns false'. Refute it at one input. -/
def lawS4192AOuterTopWrong : ChangeSpec := { name := "lawS4192AOuterTop", vars := ["example.com/planewright/planewright.funcSpecs"], fn := fun _ => fun
  | [d1, d2, d3, g1] => { results := [.lit (.bool false)], args := [d1, d2, d3], vars := [g1] }
  | _ => none }
def LawS4192AOuterTopWrongFalsely : Prop := lawS4192AOuterTopRow.holds Ybad.pinned (OpenSpec.ofChange lawS4192AOuterTopWrong)

/-- 'planewright.LawS4192CAppends': WHATEVER THE INPUT: true; the input reads as it did. -/
def lawS4192CAppendsSpec : ChangeSpec := { name := "lawS4192CAppends", vars := ["example.com/planewright/planewright.stringEscapes"], fn := fun _ => fun
  | [d1, d2, d3, g1] => { results := [.lit (.bool true)], args := [d1, d2, d3], vars := [g1] }
  | _ => none }
def lawS4192CAppendsRow : OpenClaim := { program := "ybulkchugdoor", sum := "a69804afa5ee7e2298b8f7dcbc484c5c9367deef81d763f95d38cbb82eea02b9", func := "example.com/planewright/planewright.LawS4192CAppends", spec := "lawS4192CAppends", inPlace := ["internal/abi.NoEscape"], named := ["example.com/planewright/planewright.stringEscapes"], apart := false, laid := [("example.com/planewright/planewright.stringEscapes", laid_example_com_planewright_planewright_stringEscapes)] }
def LawS4192CAppendsSaid : Prop := lawS4192CAppendsRow.holds Ybad.pinned (OpenSpec.ofChange lawS4192CAppendsSpec)

/-- ITS FALSE NEIGHBOUR: 'it returns false'. Refute it at one input. -/
def lawS4192CAppendsWrong : ChangeSpec := { name := "lawS4192CAppends", vars := ["example.com/planewright/planewright.stringEscapes"], fn := fun _ => fun
  | [d1, d2, d3, g1] => { results := [.lit (.bool false)], args := [d1, d2, d3], vars := [g1] }
  | _ => none }
def LawS4192CAppendsWrongFalsely : Prop := lawS4192CAppendsRow.holds Ybad.pinned (OpenSpec.ofChange lawS4192CAppendsWrong)

end Rows
end Go.Proofs.YbulkchugDoor
