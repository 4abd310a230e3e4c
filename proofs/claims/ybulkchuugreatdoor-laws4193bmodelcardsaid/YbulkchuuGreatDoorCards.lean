/-
  DERIVED. GIVEN WITH THE SEED: THE CARDS: each row of YbulkchuuGreatDoorRows.lean that lists a variable, with what it lists TIED to the program's text (the seventh form; the later family's looks); each row that meets fmt, with fmt's text TOLD by the authors' own Lean function (tested against real Go, not proved from fmt's source: count such statements apart). THE CARD IS WHAT COUNTS. Prove the row's statement (the work); the ties are given (YbulkchuuGreatDoorTie.lean); close each card by the builder's one call (the guide's Derived/Test/ToyasCard.lean, 'card_holds'). Laid BY PROGRAM, IN A SANDBOX (cutbox-door.mjs). By AI agents, Wed Nov 11 2026. No macro, syntax, notation, axiom, sorry.
-/
import Derived.Test.YbulkchuuGreatDoorRows
import GoSem.ClaimSeven
namespace Go.Proofs.YbulkchuuGreatDoor
namespace Rows

/-- THE TIED CARD OF 'austere-access.LawS4193AEmptyGlobs'. -/
def lawS4193AEmptyGlobsCard : Claim7 := { stood := { row := lawS4193AEmptyGlobsRow, standIns := [], harness := (true, "a836e265d3414e008d0bc589f93fbfcf313f58c1eae75c9a8bfdedac45ab0115"), looks := false }, kinds := [], alts := [], laidByText := true, laidKinds := [.data, .data, .pinned], laidTests := true, laidLooks := .later }
def LawS4193AEmptyGlobsCardSaid : Prop := Claim7.holds Ybaz.pinned (.plain (OpenSpec.ofChange lawS4193AEmptyGlobsSpec)) lawS4193AEmptyGlobsCard

/-- THE TIED CARD OF 'austere-access.LawS4193ACache'. -/
def lawS4193ACacheCard : Claim7 := { stood := { row := lawS4193ACacheRow, standIns := [], harness := (true, "a836e265d3414e008d0bc589f93fbfcf313f58c1eae75c9a8bfdedac45ab0115"), looks := false }, kinds := [], alts := [], laidByText := true, laidKinds := [.data, .data, .pinned], laidTests := true, laidLooks := .later }
def LawS4193ACacheCardSaid : Prop := Claim7.holds Ybaz.pinned (.plain (OpenSpec.ofChange lawS4193ACacheSpec)) lawS4193ACacheCard

/-- THE TIED CARD OF 'austere-access.LawS4193BModel'. -/
def lawS4193BModelCard : Claim7 := { stood := { row := lawS4193BModelRow, standIns := [], harness := (true, "a836e265d3414e008d0bc589f93fbfcf313f58c1eae75c9a8bfdedac45ab0115"), looks := false }, kinds := [], alts := [], laidByText := true, laidKinds := [.data, .data, .data, .data], laidTests := true, laidLooks := .later }
def LawS4193BModelCardSaid : Prop := Claim7.holds Ybaz.pinned (.plain (OpenSpec.ofChange lawS4193BModelSpec)) lawS4193BModelCard
end Rows
end Go.Proofs.YbulkchuuGreatDoor
