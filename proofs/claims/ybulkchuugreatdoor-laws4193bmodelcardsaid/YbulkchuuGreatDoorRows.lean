/-
  NARROWER THAN 'FOR EVERY INPUT', by the rows' own cells (each row's printed sentence says how): LawS4193AEmptyGlobs: laid · LawS4193ACache: laid · LawS4193BModel: laid.
  DERIVED. THE GIVEN ROWS OF THIS SEAT. 3 by the template 'for every input the law returns true; each argument reads behind the call as it read before'; 0 by the template 'total and deterministic' (their statements: YbulkchuuGreatDoorTotals.lean).
  GIVEN WITH THE SEED: the statements are not yours to turn. If you find one false, say at which input.
  Laid BY PROGRAM, IN A SANDBOX (cutbox-rows.mjs): the forced cells as the released guide's own fill.sh prints them over the translation c1465db8e4fc6682… (all of the seat's roots in one cut). By AI agents, Wed Nov 11 2026. No macro, syntax, notation, axiom, sorry.
-/
import Derived.Test.YbulkchuuGreatDoorChecked
import GoSem.PinnedTables
import GoSem.Claim
import GoSem.ClaimJoined
import GoSem.ClaimMapViews
import Derived.JoinedTies
import Derived.KernelRfl
namespace Go.Proofs.YbulkchuuGreatDoor
/- THE CELL 'sum', in the pinned program and in every row, IS THE sha256 OF THE DUMP (.gsa) THAT YbulkchuuGreatDoorProg.lean LOADS. Nothing in Lean hashes anything: it is a label: what it is worth is what the hold of that sum in a sandbox is worth. -/
noncomputable def Ybaz.pinned : Pinned := { name := "ybulkchuugreatdoor", sum := "c1465db8e4fc66824ae24472b51f874c89efbf7088c206c558e0363f31d2a3f8", checked := Ybaz.checked }
namespace Rows
def none {H : Type} : Left H := { results := [], args := [] }

/- WHAT THE LISTED PACKAGE-LEVEL VARIABLES READ AS WHEN THE CALL BEGINS. Each datum BY PROGRAM (the guide's laid-datum.mjs) off the statement by which the dump's own 'gosem.cut.vars' lays the variable. In a bare row this is a premise. The card (YbulkchuuGreatDoorCards.lean) ties it to the program's text. -/
def laid_math_bits_deBruijn64tab {H : Type} : DataW H := .agg [.lit (.int .u8 0), .lit (.int .u8 1), .lit (.int .u8 56), .lit (.int .u8 2), .lit (.int .u8 57), .lit (.int .u8 49), .lit (.int .u8 28), .lit (.int .u8 3), .lit (.int .u8 61), .lit (.int .u8 58), .lit (.int .u8 42), .lit (.int .u8 50), .lit (.int .u8 38), .lit (.int .u8 29), .lit (.int .u8 17), .lit (.int .u8 4), .lit (.int .u8 62), .lit (.int .u8 47), .lit (.int .u8 59), .lit (.int .u8 36), .lit (.int .u8 45), .lit (.int .u8 43), .lit (.int .u8 51), .lit (.int .u8 22), .lit (.int .u8 53), .lit (.int .u8 39), .lit (.int .u8 33), .lit (.int .u8 30), .lit (.int .u8 24), .lit (.int .u8 18), .lit (.int .u8 12), .lit (.int .u8 5), .lit (.int .u8 63), .lit (.int .u8 55), .lit (.int .u8 48), .lit (.int .u8 27), .lit (.int .u8 60), .lit (.int .u8 41), .lit (.int .u8 37), .lit (.int .u8 16), .lit (.int .u8 46), .lit (.int .u8 35), .lit (.int .u8 44), .lit (.int .u8 21), .lit (.int .u8 52), .lit (.int .u8 32), .lit (.int .u8 23), .lit (.int .u8 11), .lit (.int .u8 54), .lit (.int .u8 26), .lit (.int .u8 40), .lit (.int .u8 15), .lit (.int .u8 34), .lit (.int .u8 20), .lit (.int .u8 31), .lit (.int .u8 10), .lit (.int .u8 25), .lit (.int .u8 14), .lit (.int .u8 19), .lit (.int .u8 9), .lit (.int .u8 13), .lit (.int .u8 8), .lit (.int .u8 7), .lit (.int .u8 6)]
def laid_unicode_utf8_acceptRanges {H : Type} : DataW H := .agg [.agg [.lit (.int .u8 128), .lit (.int .u8 191)], .agg [.lit (.int .u8 160), .lit (.int .u8 191)], .agg [.lit (.int .u8 128), .lit (.int .u8 159)], .agg [.lit (.int .u8 144), .lit (.int .u8 191)], .agg [.lit (.int .u8 128), .lit (.int .u8 143)], .agg [.lit (.int .u8 0), .lit (.int .u8 0)], .agg [.lit (.int .u8 0), .lit (.int .u8 0)], .agg [.lit (.int .u8 0), .lit (.int .u8 0)], .agg [.lit (.int .u8 0), .lit (.int .u8 0)], .agg [.lit (.int .u8 0), .lit (.int .u8 0)], .agg [.lit (.int .u8 0), .lit (.int .u8 0)], .agg [.lit (.int .u8 0), .lit (.int .u8 0)], .agg [.lit (.int .u8 0), .lit (.int .u8 0)], .agg [.lit (.int .u8 0), .lit (.int .u8 0)], .agg [.lit (.int .u8 0), .lit (.int .u8 0)], .agg [.lit (.int .u8 0), .lit (.int .u8 0)]]
/-- One of Go's own tables, pinned by name: the form's constant. -/
def laid_unicode_utf8_first : DataW Unit := Go.Pinned.utf8First
def laid_math_bits_deBruijn32tab {H : Type} : DataW H := .agg [.lit (.int .u8 0), .lit (.int .u8 1), .lit (.int .u8 28), .lit (.int .u8 2), .lit (.int .u8 29), .lit (.int .u8 14), .lit (.int .u8 24), .lit (.int .u8 3), .lit (.int .u8 30), .lit (.int .u8 22), .lit (.int .u8 20), .lit (.int .u8 15), .lit (.int .u8 25), .lit (.int .u8 17), .lit (.int .u8 4), .lit (.int .u8 8), .lit (.int .u8 31), .lit (.int .u8 27), .lit (.int .u8 13), .lit (.int .u8 23), .lit (.int .u8 21), .lit (.int .u8 19), .lit (.int .u8 16), .lit (.int .u8 7), .lit (.int .u8 26), .lit (.int .u8 12), .lit (.int .u8 18), .lit (.int .u8 6), .lit (.int .u8 11), .lit (.int .u8 5), .lit (.int .u8 10), .lit (.int .u8 9)]
def laid_internal_strconv_uint64pow10 {H : Type} : DataW H := .agg [.lit (.int .u64 1), .lit (.int .u64 10), .lit (.int .u64 100), .lit (.int .u64 1000), .lit (.int .u64 10000), .lit (.int .u64 100000), .lit (.int .u64 1000000), .lit (.int .u64 10000000), .lit (.int .u64 100000000), .lit (.int .u64 1000000000), .lit (.int .u64 10000000000), .lit (.int .u64 100000000000), .lit (.int .u64 1000000000000), .lit (.int .u64 10000000000000), .lit (.int .u64 100000000000000), .lit (.int .u64 1000000000000000), .lit (.int .u64 10000000000000000), .lit (.int .u64 100000000000000000), .lit (.int .u64 1000000000000000000), .lit (.int .u64 10000000000000000000)]
def laid_example_com_austere_access_austere_access_anySegmentsSegment {H : Type} : DataW H := .agg [.lit (.int .u8 2), .lit (.int .u8 0), .lit (.string [42, 42]), .lit (.string []), .lit (.string []), .lit (.bool false), .lit (.bool false)]

/-- 'austere-access.LawS4193AEmptyGlobs': WHATEVER THE INPUT: true; the input reads as it did. -/
def lawS4193AEmptyGlobsSpec : ChangeSpec := { name := "lawS4193AEmptyGlobs", fn := fun _ => fun
  | [d1, d2, d3, d4, d5] => { results := [.lit (.bool true)], args := [d1, d2, d3, d4, d5] }
  | _ => none }
def lawS4193AEmptyGlobsRow : OpenClaim := { program := "ybulkchuugreatdoor", sum := "c1465db8e4fc66824ae24472b51f874c89efbf7088c206c558e0363f31d2a3f8", func := "example.com/austere-access/austere-access.LawS4193AEmptyGlobs", spec := "lawS4193AEmptyGlobs", inPlace := ["internal/abi.NoEscape", "internal/bytealg.MakeNoZero", "slices.overlaps[int]", "internal/bytealg.IndexByteString"], unfollowed := true, recurses := true, named := ["encoding/binary.LittleEndian", "unicode/utf8.first", "unicode/utf8.acceptRanges", "math/bits.deBruijn64tab"], plainKeys := false, apart := false, laid := [("math/bits.deBruijn64tab", laid_math_bits_deBruijn64tab), ("unicode/utf8.acceptRanges", laid_unicode_utf8_acceptRanges), ("unicode/utf8.first", laid_unicode_utf8_first)] }
def LawS4193AEmptyGlobsSaid : Prop := lawS4193AEmptyGlobsRow.holds Ybaz.pinned (OpenSpec.ofChange lawS4193AEmptyGlobsSpec)

/-- ITS FALSE NEIGHBOUR: 'it returns false'. Refute it at one input. -/
def lawS4193AEmptyGlobsWrong : ChangeSpec := { name := "lawS4193AEmptyGlobs", fn := fun _ => fun
  | [d1, d2, d3, d4, d5] => { results := [.lit (.bool false)], args := [d1, d2, d3, d4, d5] }
  | _ => none }
def LawS4193AEmptyGlobsWrongFalsely : Prop := lawS4193AEmptyGlobsRow.holds Ybaz.pinned (OpenSpec.ofChange lawS4193AEmptyGlobsWrong)

/-- 'austere-access.LawS4193ACache': WHATEVER THE INPUT: true; the input reads as it did. -/
def lawS4193ACacheSpec : ChangeSpec := { name := "lawS4193ACache", fn := fun _ => fun
  | [d1, d2, d3] => { results := [.lit (.bool true)], args := [d1, d2, d3] }
  | _ => none }
def lawS4193ACacheRow : OpenClaim := { program := "ybulkchuugreatdoor", sum := "c1465db8e4fc66824ae24472b51f874c89efbf7088c206c558e0363f31d2a3f8", func := "example.com/austere-access/austere-access.LawS4193ACache", spec := "lawS4193ACache", inPlace := ["internal/abi.NoEscape", "internal/bytealg.MakeNoZero", "slices.overlaps[int]", "internal/bytealg.IndexByteString"], unfollowed := true, recurses := true, named := ["encoding/binary.LittleEndian", "unicode/utf8.first", "unicode/utf8.acceptRanges", "math/bits.deBruijn64tab"], plainKeys := false, apart := false, laid := [("math/bits.deBruijn64tab", laid_math_bits_deBruijn64tab), ("unicode/utf8.acceptRanges", laid_unicode_utf8_acceptRanges), ("unicode/utf8.first", laid_unicode_utf8_first)] }
def LawS4193ACacheSaid : Prop := lawS4193ACacheRow.holds Ybaz.pinned (OpenSpec.ofChange lawS4193ACacheSpec)

/-- ITS FALSE NEIGHBOUR: 'it returns false'. Refute it at one input. -/
def lawS4193ACacheWrong : ChangeSpec := { name := "lawS4193ACache", fn := fun _ => fun
  | [d1, d2, d3] => { results := [.lit (.bool false)], args := [d1, d2, d3] }
  | _ => none }
def LawS4193ACacheWrongFalsely : Prop := lawS4193ACacheRow.holds Ybaz.pinned (OpenSpec.ofChange lawS4193ACacheWrong)

/-- 'austere-access.LawS4193BModel': WHATEVER THE INPUT: true; the input reads as it did. -/
def lawS4193BModelSpec : ChangeSpec := { name := "lawS4193BModel", vars := ["example.com/austere-access/austere-access.anySegmentsSegment"], fn := fun _ => fun
  | [d1, d2, g1] => { results := [.lit (.bool true)], args := [d1, d2], vars := [g1] }
  | _ => none }
def lawS4193BModelRow : OpenClaim := { program := "ybulkchuugreatdoor", sum := "c1465db8e4fc66824ae24472b51f874c89efbf7088c206c558e0363f31d2a3f8", func := "example.com/austere-access/austere-access.LawS4193BModel", spec := "lawS4193BModel", inPlace := ["internal/abi.NoEscape", "internal/bytealg.MakeNoZero"], unfollowed := true, recurses := true, named := ["internal/strconv.uint64pow10", "math/bits.deBruijn32tab", "math/bits.deBruijn64tab", "example.com/austere-access/austere-access.anySegmentsSegment"], plainKeys := false, apart := false, laid := [("math/bits.deBruijn32tab", laid_math_bits_deBruijn32tab), ("math/bits.deBruijn64tab", laid_math_bits_deBruijn64tab), ("internal/strconv.uint64pow10", laid_internal_strconv_uint64pow10), ("example.com/austere-access/austere-access.anySegmentsSegment", laid_example_com_austere_access_austere_access_anySegmentsSegment)] }
def LawS4193BModelSaid : Prop := lawS4193BModelRow.holds Ybaz.pinned (OpenSpec.ofChange lawS4193BModelSpec)

/-- ITS FALSE NEIGHBOUR: 'it returns false'. Refute it at one input. -/
def lawS4193BModelWrong : ChangeSpec := { name := "lawS4193BModel", vars := ["example.com/austere-access/austere-access.anySegmentsSegment"], fn := fun _ => fun
  | [d1, d2, g1] => { results := [.lit (.bool false)], args := [d1, d2], vars := [g1] }
  | _ => none }
def LawS4193BModelWrongFalsely : Prop := lawS4193BModelRow.holds Ybaz.pinned (OpenSpec.ofChange lawS4193BModelWrong)

end Rows
end Go.Proofs.YbulkchuuGreatDoor
