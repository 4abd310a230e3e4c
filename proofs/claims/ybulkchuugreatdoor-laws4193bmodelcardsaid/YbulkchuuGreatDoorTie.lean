/-
  DERIVED. GIVEN WITH THE SEED: THE PROGRAM's TIES (one call each: nine closed facts by the kernel) AND EACH ROW's TIE, after the 31st guide's Derived/Test/Toyas{Tie, Card}.lean. No idea stands in it: it is a product of the set-up. Laid BY PROGRAM, IN A SANDBOX (cutbox-door.mjs). By AI agents, Wed Nov 11 2026. No macro, syntax, notation, axiom, sorry.
-/
import Derived.Test.YbulkchuuGreatDoorRows
import Derived.LaidByTextLater
import Derived.SevenTiedAt
import Derived.LaidSub
import Derived.LaidOnce
namespace Go.Proofs.YbulkchuuGreatDoor
open Go
set_option maxRecDepth 100000
theorem seatTie1 : Ybaz.prog.laidByTextLater [("math/bits.deBruijn32tab", Rows.laid_math_bits_deBruijn32tab), ("math/bits.deBruijn64tab", Rows.laid_math_bits_deBruijn64tab), ("internal/strconv.uint64pow10", Rows.laid_internal_strconv_uint64pow10), ("unicode/utf8.acceptRanges", Rows.laid_unicode_utf8_acceptRanges), ("example.com/austere-access/austere-access.anySegmentsSegment", Rows.laid_example_com_austere_access_austere_access_anySegmentsSegment)] [.data, .data, .data, .data, .data] true :=
  Program.laidByTextLater_by_one 39 8 65 (by kernel_rfl) (by kernel_rfl) (by kernel_rfl) (by kernel_rfl) (by kernel_rfl) (by kernel_rfl) (fun _ _ => by kernel_rfl)
theorem pin_laid_unicode_utf8_first : Ybaz.pinned.checked.prog.pinnedFits "unicode/utf8.first" = true := by kernel_rfl
theorem noOwnUnsafe : Ybaz.pinned.checked.prog.headLifts.contains "ownunsafe" = false := by kernel_rfl
theorem fits1 : Ybaz.pinned.checked.prog.listedFits [("math/bits.deBruijn64tab", Rows.laid_math_bits_deBruijn64tab), ("unicode/utf8.acceptRanges", Rows.laid_unicode_utf8_acceptRanges), ("unicode/utf8.first", Rows.laid_unicode_utf8_first)] = true := by
  unfold Program.listedFits
  rw [noOwnUnsafe]
  kernel_rfl
theorem tie : Ybaz.prog.laidByTextLater [("math/bits.deBruijn64tab", Rows.laid_math_bits_deBruijn64tab), ("unicode/utf8.acceptRanges", Rows.laid_unicode_utf8_acceptRanges)] [.data, .data] true :=
  Program.laidByTextLater.sub seatTie1 ["math/bits.deBruijn64tab", "unicode/utf8.acceptRanges"] (by kernel_rfl) (by kernel_rfl)
theorem lawS4193AEmptyGlobs_row_tie : Rows.lawS4193AEmptyGlobsRow.laidByTextAt .later Ybaz.pinned [.data, .data, .pinned] true :=
  OpenClaim.laidByTextAt_pinned rfl rfl tie rfl rfl rfl rfl (fun y hy _e => by
    simp only [Rows.lawS4193AEmptyGlobsRow, List.zip_cons_cons, List.zip_nil_right, List.mem_cons, List.mem_nil_iff, or_false] at hy
    rcases hy with rfl | rfl | rfl
    · cases _e
    · cases _e
    · exact ⟨pin_laid_unicode_utf8_first, by kernel_rfl⟩) fits1
theorem lawS4193ACache_row_tie : Rows.lawS4193ACacheRow.laidByTextAt .later Ybaz.pinned [.data, .data, .pinned] true :=
  OpenClaim.laidByTextAt_pinned rfl rfl tie rfl rfl rfl rfl (fun y hy _e => by
    simp only [Rows.lawS4193ACacheRow, List.zip_cons_cons, List.zip_nil_right, List.mem_cons, List.mem_nil_iff, or_false] at hy
    rcases hy with rfl | rfl | rfl
    · cases _e
    · cases _e
    · exact ⟨pin_laid_unicode_utf8_first, by kernel_rfl⟩) fits1
theorem tie2 : Ybaz.prog.laidByTextLater [("math/bits.deBruijn32tab", Rows.laid_math_bits_deBruijn32tab), ("math/bits.deBruijn64tab", Rows.laid_math_bits_deBruijn64tab), ("internal/strconv.uint64pow10", Rows.laid_internal_strconv_uint64pow10), ("example.com/austere-access/austere-access.anySegmentsSegment", Rows.laid_example_com_austere_access_austere_access_anySegmentsSegment)] [.data, .data, .data, .data] true :=
  Program.laidByTextLater.sub seatTie1 ["math/bits.deBruijn32tab", "math/bits.deBruijn64tab", "internal/strconv.uint64pow10", "example.com/austere-access/austere-access.anySegmentsSegment"] (by kernel_rfl) (by kernel_rfl)
theorem lawS4193BModel_row_tie : Rows.lawS4193BModelRow.laidByTextAt .later Ybaz.pinned [.data, .data, .data, .data] true :=
  OpenClaim.laidByTextAt_later rfl rfl tie2 noOwnUnsafe
end Go.Proofs.YbulkchuuGreatDoor
