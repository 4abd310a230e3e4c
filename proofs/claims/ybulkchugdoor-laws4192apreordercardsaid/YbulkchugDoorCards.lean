/-
  DERIVED. GIVEN WITH THE SEED: THE CARDS: each row of YbulkchugDoorRows.lean that lists a variable, with what it lists TIED to the program's text (the seventh form; the later family's looks); each row that meets fmt, with fmt's text TOLD by the authors' own Lean function (tested against real Go, not proved from fmt's source: count such statements apart). THE CARD IS WHAT COUNTS. Prove the row's statement (the work); the ties are given (YbulkchugDoorTie.lean); close each card by the builder's one call (the guide's Derived/Test/ToyasCard.lean, 'card_holds'). Laid BY PROGRAM, IN A SANDBOX (cutbox-door.mjs). By AI agents, Wed Nov 11 2026. No macro, syntax, notation, axiom, sorry.
-/
import Derived.Test.YbulkchugDoorRows
import GoSem.ClaimSeven
namespace Go.Proofs.YbulkchugDoor
namespace Rows

/-- THE TIED CARD OF 'planewright.LawS4192APreorder'. -/
def lawS4192APreorderCard : Claim7 := { stood := { row := lawS4192APreorderRow, standIns := [], harness := (true, "e3bf67cd9a32f7eefe4e2be8ee786edf087dc87cea6a69f30f71257cd3044fbd"), looks := true }, kinds := [], alts := [], laidByText := true, laidKinds := [.data], laidTests := true, laidLooks := .later }
def LawS4192APreorderCardSaid : Prop := Claim7.holds Ybad.pinned (.plain (OpenSpec.ofChange lawS4192APreorderSpec)) lawS4192APreorderCard

/-- THE TIED CARD OF 'planewright.LawS4192AOuterTop'. -/
def lawS4192AOuterTopCard : Claim7 := { stood := { row := lawS4192AOuterTopRow, standIns := [], harness := (true, "e3bf67cd9a32f7eefe4e2be8ee786edf087dc87cea6a69f30f71257cd3044fbd"), looks := true }, kinds := [], alts := [], laidByText := true, laidKinds := [.data], laidTests := true, laidLooks := .later }
def LawS4192AOuterTopCardSaid : Prop := Claim7.holds Ybad.pinned (.plain (OpenSpec.ofChange lawS4192AOuterTopSpec)) lawS4192AOuterTopCard

/-- THE TIED CARD OF 'planewright.LawS4192CAppends'. -/
def lawS4192CAppendsCard : Claim7 := { stood := { row := lawS4192CAppendsRow, standIns := [], harness := (true, "e3bf67cd9a32f7eefe4e2be8ee786edf087dc87cea6a69f30f71257cd3044fbd"), looks := true }, kinds := [], alts := [], laidByText := true, laidKinds := [.data], laidTests := true, laidLooks := .later }
def LawS4192CAppendsCardSaid : Prop := Claim7.holds Ybad.pinned (.plain (OpenSpec.ofChange lawS4192CAppendsSpec)) lawS4192CAppendsCard
end Rows
end Go.Proofs.YbulkchugDoor
