/-
  No cell of these rows narrows 'for every input' (looked for: loops, veiled, ifaces, maps, wideKeys, modest, calm, conditions, laid).
  DERIVED. THE GIVEN ROWS OF THIS SEAT. 2 by the template 'for every input the law returns true; each argument reads behind the call as it read before'; 0 by the template 'total and deterministic' (their statements: YbulkchuuTotals.lean).
  GIVEN WITH THE SEED: the statements are not yours to turn. If you find one false, say at which input.
  Laid BY PROGRAM, IN A SANDBOX (cutbox-rows.mjs): the forced cells as the released guide's own fill.sh prints them over the translation 37d23c6899fec172… (all of the seat's roots in one cut). By AI agents, Wed Nov 11 2026. No macro, syntax, notation, axiom, sorry.
-/
import Derived.Test.YbulkchuuChecked
import GoSem.Claim
import GoSem.ClaimJoined
import GoSem.ClaimMapViews
import Derived.JoinedTies
import Derived.KernelRfl
namespace Go.Proofs.Ybulkchuu
/- THE CELL 'sum', in the pinned program and in every row, IS THE sha256 OF THE DUMP (.gsa) THAT YbulkchuuProg.lean LOADS. Nothing in Lean hashes anything: it is a label: what it is worth is what the hold of that sum in a sandbox is worth. -/
noncomputable def Yba.pinned : Pinned := { name := "ybulkchuu", sum := "37d23c6899fec172b86169d53b07f828c96e337484503f2155599aa2e5873b19", checked := Yba.checked }
namespace Rows
def none {H : Type} : Left H := { results := [], args := [] }

/-- 'austere-access.LawS4193COfRun': WHATEVER THE INPUT: true; the input reads as it did. -/
def lawS4193COfRunSpec : ChangeSpec := { name := "lawS4193COfRun", fn := fun _ => fun
  | [d1, d2, d3] => { results := [.lit (.bool true)], args := [d1, d2, d3] }
  | _ => none }
def lawS4193COfRunRow : OpenClaim := { program := "ybulkchuu", sum := "37d23c6899fec172b86169d53b07f828c96e337484503f2155599aa2e5873b19", func := "example.com/austere-access/austere-access.LawS4193COfRun", spec := "lawS4193COfRun", apart := false }
def LawS4193COfRunSaid : Prop := lawS4193COfRunRow.holds Yba.pinned (OpenSpec.ofChange lawS4193COfRunSpec)

/-- ITS FALSE NEIGHBOUR: 'it returns false'. Refute it at one input. -/
def lawS4193COfRunWrong : ChangeSpec := { name := "lawS4193COfRun", fn := fun _ => fun
  | [d1, d2, d3] => { results := [.lit (.bool false)], args := [d1, d2, d3] }
  | _ => none }
def LawS4193COfRunWrongFalsely : Prop := lawS4193COfRunRow.holds Yba.pinned (OpenSpec.ofChange lawS4193COfRunWrong)

/-- 'austere-access.LawS4193CPartition': WHATEVER THE INPUT: true; the input reads as it did. -/
def lawS4193CPartitionSpec : ChangeSpec := { name := "lawS4193CPartition", fn := fun _ => fun
  | [d1, d2] => { results := [.lit (.bool true)], args := [d1, d2] }
  | _ => none }
def lawS4193CPartitionRow : OpenClaim := { program := "ybulkchuu", sum := "37d23c6899fec172b86169d53b07f828c96e337484503f2155599aa2e5873b19", func := "example.com/austere-access/austere-access.LawS4193CPartition", spec := "lawS4193CPartition", apart := false }
def LawS4193CPartitionSaid : Prop := lawS4193CPartitionRow.holds Yba.pinned (OpenSpec.ofChange lawS4193CPartitionSpec)

/-- ITS FALSE NEIGHBOUR: 'it returns false'. Refute it at one input. -/
def lawS4193CPartitionWrong : ChangeSpec := { name := "lawS4193CPartition", fn := fun _ => fun
  | [d1, d2] => { results := [.lit (.bool false)], args := [d1, d2] }
  | _ => none }
def LawS4193CPartitionWrongFalsely : Prop := lawS4193CPartitionRow.holds Yba.pinned (OpenSpec.ofChange lawS4193CPartitionWrong)

end Rows
end Go.Proofs.Ybulkchuu
