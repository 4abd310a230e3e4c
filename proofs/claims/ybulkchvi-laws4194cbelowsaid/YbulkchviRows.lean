/-
  No cell of these rows narrows 'for every input' (looked for: loops, veiled, ifaces, maps, wideKeys, modest, calm, conditions, laid).
  DERIVED. THE GIVEN ROWS OF THIS SEAT. 3 by the template 'for every input the law returns true; each argument reads behind the call as it read before'; 0 by the template 'total and deterministic' (their statements: YbulkchviTotals.lean).
  GIVEN WITH THE SEED: the statements are not yours to turn. If you find one false, say at which input.
  Laid BY PROGRAM, IN A SANDBOX (cutbox-rows.mjs): the forced cells as the released guide's own fill.sh prints them over the translation fe3cf961a14154b6… (all of the seat's roots in one cut). By AI agents, Wed Nov 11 2026. No macro, syntax, notation, axiom, sorry.
-/
import Derived.Test.YbulkchviChecked
import GoSem.Claim
import GoSem.ClaimJoined
import GoSem.ClaimMapViews
import Derived.JoinedTies
import Derived.KernelRfl
namespace Go.Proofs.Ybulkchvi
/- THE CELL 'sum', in the pinned program and in every row, IS THE sha256 OF THE DUMP (.gsa) THAT YbulkchviProg.lean LOADS. Nothing in Lean hashes anything: it is a label: what it is worth is what the hold of that sum in a sandbox is worth. -/
noncomputable def Yba.pinned : Pinned := { name := "ybulkchvi", sum := "fe3cf961a14154b6544b10babbdaf0e587024966bd836886df80aef7c992e067", checked := Yba.checked }
namespace Rows
def none {H : Type} : Left H := { results := [], args := [] }

/-- 'policy.LawS4194AModel': WHATEVER THE INPUT: true; the input reads as it did. -/
def lawS4194AModelSpec : ChangeSpec := { name := "lawS4194AModel", fn := fun _ => fun
  | [d1, d2, d3] => { results := [.lit (.bool true)], args := [d1, d2, d3] }
  | _ => none }
def lawS4194AModelRow : OpenClaim := { program := "ybulkchvi", sum := "fe3cf961a14154b6544b10babbdaf0e587024966bd836886df80aef7c992e067", func := "example.com/mortise-lattice/mortise-lattice/pkg/policy.LawS4194AModel", spec := "lawS4194AModel", unfollowed := true, recurses := true, apart := false }
def LawS4194AModelSaid : Prop := lawS4194AModelRow.holds Yba.pinned (OpenSpec.ofChange lawS4194AModelSpec)

/-- ITS FALSE NEIGHBOUR: 'it returns false'. Refute it at one input. -/
def lawS4194AModelWrong : ChangeSpec := { name := "lawS4194AModel", fn := fun _ => fun
  | [d1, d2, d3] => { results := [.lit (.bool false)], args := [d1, d2, d3] }
  | _ => none }
def LawS4194AModelWrongFalsely : Prop := lawS4194AModelRow.holds Yba.pinned (OpenSpec.ofChange lawS4194AModelWrong)

/-- 'policy.LawS4194AExactFresh': WHATEVER THE INPUT: true; the input reads as it did. -/
def lawS4194AExactFreshSpec : ChangeSpec := { name := "lawS4194AExactFresh", fn := fun _ => fun
  | [d1, d2, d3, d4] => { results := [.lit (.bool true)], args := [d1, d2, d3, d4] }
  | _ => none }
def lawS4194AExactFreshRow : OpenClaim := { program := "ybulkchvi", sum := "fe3cf961a14154b6544b10babbdaf0e587024966bd836886df80aef7c992e067", func := "example.com/mortise-lattice/mortise-lattice/pkg/policy.LawS4194AExactFresh", spec := "lawS4194AExactFresh", unfollowed := true, recurses := true, apart := false }
def LawS4194AExactFreshSaid : Prop := lawS4194AExactFreshRow.holds Yba.pinned (OpenSpec.ofChange lawS4194AExactFreshSpec)

/-- ITS FALSE NEIGHBOUR: 'it returns false'. Refute it at one input. -/
def lawS4194AExactFreshWrong : ChangeSpec := { name := "lawS4194AExactFresh", fn := fun _ => fun
  | [d1, d2, d3, d4] => { results := [.lit (.bool false)], args := [d1, d2, d3, d4] }
  | _ => none }
def LawS4194AExactFreshWrongFalsely : Prop := lawS4194AExactFreshRow.holds Yba.pinned (OpenSpec.ofChange lawS4194AExactFreshWrong)

/-- 'policy.LawS4194CBelow': WHATEVER THE INPUT: true; the input reads as it did. -/
def lawS4194CBelowSpec : ChangeSpec := { name := "lawS4194CBelow", fn := fun _ => fun
  | [d1, d2, d3] => { results := [.lit (.bool true)], args := [d1, d2, d3] }
  | _ => none }
def lawS4194CBelowRow : OpenClaim := { program := "ybulkchvi", sum := "fe3cf961a14154b6544b10babbdaf0e587024966bd836886df80aef7c992e067", func := "example.com/mortise-lattice/mortise-lattice/pkg/policy.LawS4194CBelow", spec := "lawS4194CBelow", unfollowed := true, recurses := true, apart := false }
def LawS4194CBelowSaid : Prop := lawS4194CBelowRow.holds Yba.pinned (OpenSpec.ofChange lawS4194CBelowSpec)

/-- ITS FALSE NEIGHBOUR: 'it returns false'. Refute it at one input. -/
def lawS4194CBelowWrong : ChangeSpec := { name := "lawS4194CBelow", fn := fun _ => fun
  | [d1, d2, d3] => { results := [.lit (.bool false)], args := [d1, d2, d3] }
  | _ => none }
def LawS4194CBelowWrongFalsely : Prop := lawS4194CBelowRow.holds Yba.pinned (OpenSpec.ofChange lawS4194CBelowWrong)

end Rows
end Go.Proofs.Ybulkchvi
