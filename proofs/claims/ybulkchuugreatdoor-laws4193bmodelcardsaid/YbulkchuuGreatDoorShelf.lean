/-
  DERIVED: THE SHELF's CONTRACTS AT THIS DUMP, IN PLAIN WORDS (tools/lay-plain.mjs out of 'YbazShelf.lean', which tools/lay-shelf.mjs wrote): THE SAME DECLARATIONS UNDER THE SAME NAMES: 'import', 'namespace', 'open', 'def', 'theorem' AND NOTHING ELSE: no command of the shelf's: FOR A HAND-IN. Each laying: the table of numbers ('.._ren') and one theorem, a field a fact of the dump's own or the kernel's comparison; each contract: ONE APPLICATION.
-/
import Derived.Shelf.Strings.Builder1
import Derived.Shelf.Strings.Builder2
import Derived.Shelf.Small.Utf8
import Derived.Shelf.Small.Bits
import Derived.Shelf.Small.Strs
import Derived.Shelf.Strings.BuilderF
import Derived.Shelf.Strconv.Itoa0
import Derived.Shelf.Strconv.Itoa1
import Derived.Shelf.LaysM
import Derived.Shelf.Strconv.Itoa2
import Derived.Shelf.Strconv.Itoa3
import Derived.Shelf.Strings.Search1
import Derived.Shelf.Strings.Prefix
import Derived.Shelf.Bits.Mul64
import Derived.Shelf.Strings.Repeat
import Derived.Shelf.Unicode.DecodeSlow
import Derived.Shelf.Unicode.DecodeAny
import Derived.Shelf.Slices.Reverse
import Derived.Shelf.Slices.Equal
import Derived.Ground.Names2Prog
import Derived.Shelf.Slices.Clone
import Derived.Shelf.Slices.CompactI
import Derived.Shelf.Slices.CompactS
import Derived.Shelf.Slices.SearchI
import Derived.Shelf.Slices.Cells
import Derived.Shelf.Slices.Empties
import Derived.Ground.SlgnProg
import Derived.Shelf.SlicesE.Equal
import Derived.Shelf.SlicesE.Compact
import Derived.Shelf.SlicesE.Clone
import Derived.Ground.SlgfProg
import Derived.Shelf.SlicesE.IndexFunc
import Derived.Shelf.SlicesE.DeleteFunc
import Derived.Ground.SlgmProg
import Derived.Shelf.SortM.Plain
import Derived.Shelf.SortM.SortNone
import Derived.Test.YbulkchuuGreatDoorProg
namespace Go.Proofs
open Go.Shelf
def Ybaz.lays170_ren : Go.Shelf.Ren := ⟨fun | 170 => 47 | n => n, fun | 70 => 167 | 3 => 3 | 0 => 0 | 72 => 169 | 37 => 54 | 5 => 5 | n => n, fun | n => n⟩
theorem Ybaz.lays170 : Go.Proofs.Lays.n170 Ybaz.prog Ybaz.lays170_ren := {
  mixed := by kernel_rfl
  f170 := Ybaz.func47.trans (congrArg some (by kernel_rfl))
  t0 := Ybaz.underlying0
  a0 := Ybaz.isAgg0
  z0 := Ybaz.sizeOf0
  v0 := Ybaz.zeroValue0
  t3 := Ybaz.underlying3
  a3 := Ybaz.isAgg3
  z3 := Ybaz.sizeOf3
  v3 := Ybaz.zeroValue3
  t37 := Ybaz.underlying54
  a37 := Ybaz.isAgg54
  z37 := Ybaz.sizeOf54
  v37 := Ybaz.zeroValue54
  t70 := Ybaz.underlying167
  a70 := Ybaz.isAgg167
  z70 := Ybaz.sizeOf167
  v70 := Ybaz.zeroValue167
  t72 := Ybaz.underlying169
  a72 := Ybaz.isAgg169
  z72 := Ybaz.sizeOf169
  v72 := Ybaz.zeroValue169 }
open Go.RowKit in
/-- (*strings.Builder).Len: "Len returns the number of accumulated bytes; b.Len() == len(b.String()).": the world is as it was. (LAID: no walk: one application.) -/
theorem Ybaz.Builder_Len (B b : Nat) (bs : List Value) (w : World) (h : Lib.IsBuilder 169 5 B b bs w) :
    Calls Ybaz.prog 47 #[.pointer (some ⟨b, 0, none⟩)] w fun e w' => e = .returned (.int .i64 bs.length) ∧ w' = w := Any.Builder_Len Ybaz.lays170 B b bs w h
def Ybaz.lays169_ren : Go.Shelf.Ren := ⟨fun | 169 => 48 | n => n, fun | 70 => 167 | 9 => 9 | 0 => 0 | 72 => 169 | 37 => 54 | 127 => 246 | 3 => 3 | 5 => 5 | n => n, fun | n => n⟩
theorem Ybaz.lays169 : Go.Proofs.Lays.n169 Ybaz.prog Ybaz.lays169_ren := {
  mixed := by kernel_rfl
  f169 := Ybaz.func48.trans (congrArg some (by kernel_rfl))
  t0 := Ybaz.underlying0
  a0 := Ybaz.isAgg0
  z0 := Ybaz.sizeOf0
  v0 := Ybaz.zeroValue0
  t3 := Ybaz.underlying3
  a3 := Ybaz.isAgg3
  z3 := Ybaz.sizeOf3
  v3 := Ybaz.zeroValue3
  t9 := Ybaz.underlying9
  a9 := Ybaz.isAgg9
  z9 := Ybaz.sizeOf9
  v9 := Ybaz.zeroValue9
  t37 := Ybaz.underlying54
  a37 := Ybaz.isAgg54
  z37 := Ybaz.sizeOf54
  v37 := Ybaz.zeroValue54
  t70 := Ybaz.underlying167
  a70 := Ybaz.isAgg167
  z70 := Ybaz.sizeOf167
  v70 := Ybaz.zeroValue167
  t72 := Ybaz.underlying169
  a72 := Ybaz.isAgg169
  z72 := Ybaz.sizeOf169
  v72 := Ybaz.zeroValue169
  t127 := Ybaz.underlying246
  a127 := Ybaz.isAgg246
  z127 := Ybaz.sizeOf246
  v127 := Ybaz.zeroValue246 }
theorem Ybaz.Builder_Extra_169 : Builder.Extra Ybaz.prog Ybaz.lays169_ren := {
  sizeBuilder := by kernel_rfl
  liesBuilder := by kernel_rfl
  t5 := Ybaz.underlying5
  a5 := Ybaz.isAgg5
  z5 := Ybaz.sizeOf5
  v5 := Ybaz.zeroValue5
  infoByte := by kernel_rfl
  cellsByte := by kernel_rfl
  sizeByte := by kernel_rfl
  neB5 := by decide }
open Go.RowKit in
/-- (*strings.Builder).String: "String returns the accumulated string.": OF A BUILDER THAT HOLDS AT LEAST ONE BYTE. ✋ THE MODEL FREEZES THOSE BYTES IN THE BUFFER (its String): a later write INTO them ends the model's run without an answer; a later append BEHIND them goes on. The statement's order of evaluation is drawn: one draw. (LAID: no walk: one application.) -/
theorem Ybaz.Builder_String (B b : Nat) (l : List UInt8) (w : World) (h : Lib.IsBuilder 169 5 B b (Lib.byteCells l) w) (h0 : l ≠ []) :
    Calls Ybaz.prog 48 #[.pointer (some ⟨b, 0, none⟩)] w fun e w' => e = .returned (.string ⟨l.toArray⟩) ∧ Below B w w' := Any.Builder_String Ybaz.lays169 Ybaz.Builder_Extra_169 B b l w h h0
open Go.RowKit in
/-- (*strings.Builder).String OF A BUILDER THAT HOLDS NO BYTE: the empty string. (Its buffer is nil, or a row of which it has taken nothing yet; where that row has NO capacity the model lays one new block for SliceData's 'some address'.) One draw. (LAID: no walk: one application.) -/
theorem Ybaz.Builder_String_empty (B b : Nat) (w : World) (h : Lib.IsBuilder 169 5 B b [] w) (hBw : B ≤ w.heap.size) :
    Calls Ybaz.prog 48 #[.pointer (some ⟨b, 0, none⟩)] w fun e w' => e = .returned (.string ⟨#[]⟩) ∧ Below B w w' := Any.Builder_String_empty Ybaz.lays169 Ybaz.Builder_Extra_169 B b w h hBw
open Go.RowKit in
/-- (*strings.Builder).String: "String returns the accumulated string.": WHATEVER THE BUILDER HOLDS. (LAID: no walk: one application.) -/
theorem Ybaz.Builder_String_any (B b : Nat) (l : List UInt8) (w : World) (h : Lib.IsBuilder 169 5 B b (Lib.byteCells l) w) (hBw : B ≤ w.heap.size) :
    Calls Ybaz.prog 48 #[.pointer (some ⟨b, 0, none⟩)] w fun e w' => e = .returned (.string ⟨l.toArray⟩) ∧ Below B w w' := Any.Builder_String_any Ybaz.lays169 Ybaz.Builder_Extra_169 B b l w h hBw
def Ybaz.lays241_ren : Go.Shelf.Ren := ⟨fun | 241 => 103 | 277 => 146 | n => n, fun | 70 => 167 | 3 => 3 | 0 => 0 | 72 => 169 | 37 => 54 | 5 => 5 | n => n, fun | n => n⟩
theorem Ybaz.lays241 : Go.Proofs.Lays.n241 Ybaz.prog Ybaz.lays241_ren := {
  mixed := by kernel_rfl
  f241 := Ybaz.func103.trans (congrArg some (by kernel_rfl))
  f277 := Ybaz.func146.trans (congrArg some (by kernel_rfl))
  t0 := Ybaz.underlying0
  a0 := Ybaz.isAgg0
  z0 := Ybaz.sizeOf0
  v0 := Ybaz.zeroValue0
  t3 := Ybaz.underlying3
  a3 := Ybaz.isAgg3
  z3 := Ybaz.sizeOf3
  v3 := Ybaz.zeroValue3
  t37 := Ybaz.underlying54
  a37 := Ybaz.isAgg54
  z37 := Ybaz.sizeOf54
  v37 := Ybaz.zeroValue54
  t70 := Ybaz.underlying167
  a70 := Ybaz.isAgg167
  z70 := Ybaz.sizeOf167
  v70 := Ybaz.zeroValue167
  t72 := Ybaz.underlying169
  a72 := Ybaz.isAgg169
  z72 := Ybaz.sizeOf169
  v72 := Ybaz.zeroValue169 }
theorem Ybaz.Builder_Extra_241 : Builder.Extra Ybaz.prog Ybaz.lays241_ren := {
  sizeBuilder := by kernel_rfl
  liesBuilder := by kernel_rfl
  t5 := Ybaz.underlying5
  a5 := Ybaz.isAgg5
  z5 := Ybaz.sizeOf5
  v5 := Ybaz.zeroValue5
  infoByte := by kernel_rfl
  cellsByte := by kernel_rfl
  sizeByte := by kernel_rfl
  neB5 := by decide }
open Go.RowKit in
/-- (*strings.Builder).grow (no doc but "grow copies the buffer to a new, larger buffer so that there are at least n bytes of capacity beyond len(b.buf)."): AT A BUILDER WITHOUT A BUFFER: a new row of whatever bytes for its buffer, none of them its own yet. Three draws. (LAID: no walk: one application.) -/
theorem Ybaz.Builder_grow_fresh (B b n : Nat) (w : World) (hB : B ≤ b) (hbk : w.heap[b]? = some (.cells #[.pointer (some ⟨b, 0, none⟩), .slice none 0 0] 169 (0, 0))) (hBw : B ≤ w.heap.size) (hn : n ≤ 281474976710656) :
    Calls Ybaz.prog 103 #[.pointer (some ⟨b, 0, none⟩), .int .i64 n] w fun e w' => e = .returned (.tuple #[]) ∧ (Lib.BuilderAt 169 5 B b (.pointer (some ⟨b, 0, none⟩)) [] w' ∧ Below B w w') := Any.Builder_grow_fresh Ybaz.lays241 Ybaz.Builder_Extra_241 B b n w hB hbk hBw hn
def Ybaz.lays165_ren : Go.Shelf.Ren := ⟨fun | 165 => 45 | 240 => 102 | 241 => 103 | 276 => 145 | 277 => 146 | n => n, fun | 70 => 167 | 3 => 3 | 0 => 0 | 4 => 4 | 9 => 9 | 20 => 20 | 72 => 169 | 37 => 54 | 164 => 95 | 5 => 5 | n => n, fun | n => n⟩
theorem Ybaz.lays165 : Go.Proofs.Lays.n165 Ybaz.prog Ybaz.lays165_ren := {
  mixed := by kernel_rfl
  f165 := Ybaz.func45.trans (congrArg some (by kernel_rfl))
  f240 := Ybaz.func102.trans (congrArg some (by kernel_rfl))
  f241 := Ybaz.func103.trans (congrArg some (by kernel_rfl))
  f276 := Ybaz.func145.trans (congrArg some (by kernel_rfl))
  f277 := Ybaz.func146.trans (congrArg some (by kernel_rfl))
  t0 := Ybaz.underlying0
  a0 := Ybaz.isAgg0
  z0 := Ybaz.sizeOf0
  v0 := Ybaz.zeroValue0
  t3 := Ybaz.underlying3
  a3 := Ybaz.isAgg3
  z3 := Ybaz.sizeOf3
  v3 := Ybaz.zeroValue3
  t4 := Ybaz.underlying4
  a4 := Ybaz.isAgg4
  z4 := Ybaz.sizeOf4
  v4 := Ybaz.zeroValue4
  t9 := Ybaz.underlying9
  a9 := Ybaz.isAgg9
  z9 := Ybaz.sizeOf9
  v9 := Ybaz.zeroValue9
  t20 := Ybaz.underlying20
  a20 := Ybaz.isAgg20
  z20 := Ybaz.sizeOf20
  v20 := Ybaz.zeroValue20
  t37 := Ybaz.underlying54
  a37 := Ybaz.isAgg54
  z37 := Ybaz.sizeOf54
  v37 := Ybaz.zeroValue54
  t70 := Ybaz.underlying167
  a70 := Ybaz.isAgg167
  z70 := Ybaz.sizeOf167
  v70 := Ybaz.zeroValue167
  t72 := Ybaz.underlying169
  a72 := Ybaz.isAgg169
  z72 := Ybaz.sizeOf169
  v72 := Ybaz.zeroValue169
  t164 := Ybaz.underlying95
  a164 := Ybaz.isAgg95
  z164 := Ybaz.sizeOf95
  v164 := Ybaz.zeroValue95 }
theorem Ybaz.Builder_Extra_165 : Builder.Extra Ybaz.prog Ybaz.lays165_ren := {
  sizeBuilder := by kernel_rfl
  liesBuilder := by kernel_rfl
  t5 := Ybaz.underlying5
  a5 := Ybaz.isAgg5
  z5 := Ybaz.sizeOf5
  v5 := Ybaz.zeroValue5
  infoByte := by kernel_rfl
  cellsByte := by kernel_rfl
  sizeByte := by kernel_rfl
  neB5 := by decide }
open Go.RowKit in
/-- (*strings.Builder).Grow AT A BUILDER THAT HAS NOT BEEN WRITTEN ('var b strings.Builder; b.Grow(n)'): "Grow grows b's capacity, if necessary, to guarantee space for another n bytes.": it holds no byte behind it as before it. (LAID: no walk: one application.) -/
theorem Ybaz.Builder_Grow_fresh (B b n : Nat) (w : World) (hB : B ≤ b) (hbk : w.heap[b]? = some (.cells #[.pointer none, .slice none 0 0] 169 (0, 0))) (hBw : B ≤ w.heap.size) (hn : n ≤ 281474976710656) :
    Calls Ybaz.prog 45 #[.pointer (some ⟨b, 0, none⟩), .int .i64 n] w fun e w' => e = .returned (.tuple #[]) ∧ (Lib.BuilderAt 169 5 B b (.pointer (some ⟨b, 0, none⟩)) [] w' ∧ Below B w w') := Any.Builder_Grow_fresh Ybaz.lays165 Ybaz.Builder_Extra_165 B b n w hB hbk hBw hn
def Ybaz.lays119_ren : Go.Shelf.Ren := ⟨fun | 119 => 71 | n => n, fun | 21 => 21 | 4 => 4 | n => n, fun | n => n⟩
theorem Ybaz.lays119 : Go.Proofs.Lays.n119 Ybaz.prog Ybaz.lays119_ren := {
  mixed := by kernel_rfl
  f119 := Ybaz.func71.trans (congrArg some (by kernel_rfl))
  t4 := Ybaz.underlying4
  a4 := Ybaz.isAgg4
  z4 := Ybaz.sizeOf4
  v4 := Ybaz.zeroValue4
  t21 := Ybaz.underlying21
  a21 := Ybaz.isAgg21
  z21 := Ybaz.sizeOf21
  v21 := Ybaz.zeroValue21 }
/-- utf8.ValidRune: "ValidRune reports whether r can be legally encoded as UTF-8. Code points that are out of range or a surrogate half are illegal.": IT RETURNS 'Lib.validRune r'; the world is as it was. (LAID: no walk: one application.) -/
theorem Ybaz.utf8_ValidRune (r : Int) (w : World) :
    Calls Ybaz.prog 71 #[.int .i32 r] w fun e w' => e = .returned (.bool (Lib.validRune r)) ∧ w' = w := Any.utf8_ValidRune Ybaz.lays119 r w
def Ybaz.lays120_ren : Go.Shelf.Ren := ⟨fun | 120 => 124 | n => n, fun | 5 => 5 | 4 => 4 | n => n, fun | n => n⟩
theorem Ybaz.lays120 : Go.Proofs.Lays.n120 Ybaz.prog Ybaz.lays120_ren := {
  mixed := by kernel_rfl
  f120 := Ybaz.func124.trans (congrArg some (by kernel_rfl))
  t4 := Ybaz.underlying4
  a4 := Ybaz.isAgg4
  z4 := Ybaz.sizeOf4
  v4 := Ybaz.zeroValue4
  t5 := Ybaz.underlying5
  a5 := Ybaz.isAgg5
  z5 := Ybaz.sizeOf5
  v5 := Ybaz.zeroValue5 }
/-- utf8.RuneStart: "RuneStart reports whether the byte could be the first byte of an encoded, possibly invalid rune. Second and subsequent bytes always have the top two bits set to 10.": IT RETURNS 'Lib.runeStart b'; the world is as it was. ('h0', 'h1': b is a byte: a caller has it of every byte that it was handed.) (LAID: no walk: one application.) -/
theorem Ybaz.utf8_RuneStart (b : Int) (w : World) (h0 : 0 ≤ b) (h1 : b < 256) :
    Calls Ybaz.prog 124 #[.int .u8 b] w fun e w' => e = .returned (.bool (Lib.runeStart b)) ∧ w' = w := Any.utf8_RuneStart Ybaz.lays120 b w h0 h1
def Ybaz.lays128_ren : Go.Shelf.Ren := ⟨fun | 128 => 97 | n => n, fun | 51 => 100 | 3 => 3 | 4 => 4 | 46 => 163 | 5 => 5 | 9 => 9 | n => n, fun | n => n⟩
theorem Ybaz.lays128 : Go.Proofs.Lays.n128 Ybaz.prog Ybaz.lays128_ren := {
  mixed := by kernel_rfl
  f128 := Ybaz.func97.trans (congrArg some (by kernel_rfl))
  t3 := Ybaz.underlying3
  a3 := Ybaz.isAgg3
  z3 := Ybaz.sizeOf3
  v3 := Ybaz.zeroValue3
  t4 := Ybaz.underlying4
  a4 := Ybaz.isAgg4
  z4 := Ybaz.sizeOf4
  v4 := Ybaz.zeroValue4
  t5 := Ybaz.underlying5
  a5 := Ybaz.isAgg5
  z5 := Ybaz.sizeOf5
  v5 := Ybaz.zeroValue5
  t9 := Ybaz.underlying9
  a9 := Ybaz.isAgg9
  z9 := Ybaz.sizeOf9
  v9 := Ybaz.zeroValue9
  t46 := Ybaz.underlying163
  a46 := Ybaz.isAgg163
  z46 := Ybaz.sizeOf163
  v46 := Ybaz.zeroValue163
  t51 := Ybaz.underlying100
  a51 := Ybaz.isAgg100
  z51 := Ybaz.sizeOf100
  v51 := Ybaz.zeroValue100 }
/-- bits.Len32: "Len32 returns the minimum number of bits required to represent x; the result is 0 for x == 0.": IT RETURNS 'Lib.bitLen x'; the world is as it was. ('h0', 'h1': x is a uint32.) (LAID: no walk: one application.) -/
theorem Ybaz.bits_Len32 (x : Int) (w : World) (h0 : 0 ≤ x) (h1 : x ≤ 4294967295) :
    Calls Ybaz.prog 97 #[.int .u32 x] w fun e w' => e = .returned (.int .i64 (Lib.bitLen x.toNat)) ∧ w' = w := Any.bits_Len32 Ybaz.lays128 x w h0 h1
def Ybaz.lays125_ren : Go.Shelf.Ren := ⟨fun | 125 => 42 | 128 => 97 | 129 => 98 | n => n, fun | 46 => 163 | 3 => 3 | 51 => 100 | 53 => 32 | 4 => 4 | 5 => 5 | 9 => 9 | n => n, fun | n => n⟩
theorem Ybaz.lays125 : Go.Proofs.Lays.n125 Ybaz.prog Ybaz.lays125_ren := {
  mixed := by kernel_rfl
  f125 := Ybaz.func42.trans (congrArg some (by kernel_rfl))
  f128 := Ybaz.func97.trans (congrArg some (by kernel_rfl))
  f129 := Ybaz.func98.trans (congrArg some (by kernel_rfl))
  t3 := Ybaz.underlying3
  a3 := Ybaz.isAgg3
  z3 := Ybaz.sizeOf3
  v3 := Ybaz.zeroValue3
  t4 := Ybaz.underlying4
  a4 := Ybaz.isAgg4
  z4 := Ybaz.sizeOf4
  v4 := Ybaz.zeroValue4
  t5 := Ybaz.underlying5
  a5 := Ybaz.isAgg5
  z5 := Ybaz.sizeOf5
  v5 := Ybaz.zeroValue5
  t9 := Ybaz.underlying9
  a9 := Ybaz.isAgg9
  z9 := Ybaz.sizeOf9
  v9 := Ybaz.zeroValue9
  t46 := Ybaz.underlying163
  a46 := Ybaz.isAgg163
  z46 := Ybaz.sizeOf163
  v46 := Ybaz.zeroValue163
  t51 := Ybaz.underlying100
  a51 := Ybaz.isAgg100
  z51 := Ybaz.sizeOf100
  v51 := Ybaz.zeroValue100
  t53 := Ybaz.underlying32
  a53 := Ybaz.isAgg32
  z53 := Ybaz.sizeOf32
  v53 := Ybaz.zeroValue32 }
/-- bits.Len: "Len returns the minimum number of bits required to represent x; the result is 0 for x == 0.": IT RETURNS 'Lib.bitLen x'; the world is as it was. (A uint has 64 bits in the model.) ITS CALLEE bits.Len64 IS MET BY ITS OWN CONTRACT OFF THE SHELF (lay that first). (LAID: no walk: one application.) -/
theorem Ybaz.bits_Len (x : Int) (w : World) (h0 : 0 ≤ x) (h1 : x ≤ 18446744073709551615) :
    Calls Ybaz.prog 42 #[.int .u64 x] w fun e w' => e = .returned (.int .i64 (Lib.bitLen x.toNat)) ∧ w' = w := Any.bits_Len Ybaz.lays125 x w h0 h1
def Ybaz.lays137_ren : Go.Shelf.Ren := ⟨fun | 137 => 125 | 217 => 160 | 266 => 201 | n => n, fun | 9 => 9 | 5 => 5 | 3 => 3 | n => n, fun | n => n⟩
theorem Ybaz.lays137 : Go.Proofs.Lays.n137 Ybaz.prog Ybaz.lays137_ren := {
  mixed := by kernel_rfl
  f137 := Ybaz.func125.trans (congrArg some (by kernel_rfl))
  f217 := Ybaz.func160.trans (congrArg some (by kernel_rfl))
  f266 := Ybaz.func201.trans (congrArg some (by kernel_rfl))
  t3 := Ybaz.underlying3
  a3 := Ybaz.isAgg3
  z3 := Ybaz.sizeOf3
  v3 := Ybaz.zeroValue3
  t5 := Ybaz.underlying5
  a5 := Ybaz.isAgg5
  z5 := Ybaz.sizeOf5
  v5 := Ybaz.zeroValue5
  t9 := Ybaz.underlying9
  a9 := Ybaz.isAgg9
  z9 := Ybaz.sizeOf9
  v9 := Ybaz.zeroValue9 }
open Go.RowKit in
/-- strings.IndexByte: "IndexByte returns the index of the first instance of c in s, or -1 if c is not present in s.": IT RETURNS 'Lib.indexByte s c'; the world is as it was. (LAID: no walk: one application.) -/
theorem Ybaz.strings_IndexByte (s : ByteArray) (c : Int) (w : World) :
    Calls Ybaz.prog 125 #[.string s, .int .u8 c] w fun e w' => e = .returned (.int .i64 (Lib.indexByte s.data.toList c.toNat.toUInt8)) ∧ w' = w := Any.strings_IndexByte Ybaz.lays137 s c w
open Go.RowKit in
/-- (*strings.Builder).Len: "Len returns the number of accumulated bytes; b.Len() == len(b.String()).": the world is as it was. (THE FORM '_f': 'Lib.IsBuilderF'.) (LAID: no walk: one application.) -/
theorem Ybaz.Builder_Len_f (B b : Nat) (bs : List Value) (w : World) (h : Lib.IsBuilderF 169 5 B b bs w) :
    Calls Ybaz.prog 47 #[.pointer (some ⟨b, 0, none⟩)] w fun e w' => e = .returned (.int .i64 bs.length) ∧ w' = w := Any.Builder_Len_f Ybaz.lays170 B b bs w h
open Go.RowKit in
/-- (*strings.Builder).String: "String returns the accumulated string.": OF A BUILDER THAT HOLDS AT LEAST ONE BYTE. ✋ THE MODEL FREEZES THOSE BYTES IN THE BUFFER (its String): a later write INTO them ends the model's run without an answer; a later append BEHIND them goes on. The statement's order of evaluation is drawn: one draw. THE FORM '_f': IT SAYS BESIDES THAT THE BUILDER IS A BUILDER STILL ('Lib.IsBuilderF', the same bytes): SO IT CAN BE WRITTEN ON: 'b.WriteString(b.String()[:k])'. (LAID: no walk: one application.) -/
theorem Ybaz.Builder_String_f (B b : Nat) (l : List UInt8) (w : World) (h : Lib.IsBuilderF 169 5 B b (Lib.byteCells l) w) (h0 : l ≠ []) :
    Calls Ybaz.prog 48 #[.pointer (some ⟨b, 0, none⟩)] w fun e w' => e = .returned (.string ⟨l.toArray⟩) ∧ (Lib.IsBuilderF 169 5 B b (Lib.byteCells l) w' ∧ Below B w w') := Any.Builder_String_f Ybaz.lays169 Ybaz.Builder_Extra_169 B b l w h h0
open Go.RowKit in
/-- (*strings.Builder).String OF A BUILDER THAT HOLDS NO BYTE: the empty string; THE FORM '_f': a builder still. (LAID: no walk: one application.) -/
theorem Ybaz.Builder_String_empty_f (B b : Nat) (w : World) (h : Lib.IsBuilderF 169 5 B b [] w) (hBw : B ≤ w.heap.size) :
    Calls Ybaz.prog 48 #[.pointer (some ⟨b, 0, none⟩)] w fun e w' => e = .returned (.string ⟨#[]⟩) ∧ (Lib.IsBuilderF 169 5 B b [] w' ∧ Below B w w') := Any.Builder_String_empty_f Ybaz.lays169 Ybaz.Builder_Extra_169 B b w h hBw
open Go.RowKit in
/-- (*strings.Builder).String: "String returns the accumulated string.": WHATEVER THE BUILDER HOLDS; THE FORM '_f': OF A BUILDER THAT MAY HAVE BEEN READ BEFORE; AND IT IS A BUILDER STILL, holding the same bytes: it can be written on. (LAID: no walk: one application.) -/
theorem Ybaz.Builder_String_any_f (B b : Nat) (l : List UInt8) (w : World) (h : Lib.IsBuilderF 169 5 B b (Lib.byteCells l) w) (hBw : B ≤ w.heap.size) :
    Calls Ybaz.prog 48 #[.pointer (some ⟨b, 0, none⟩)] w fun e w' => e = .returned (.string ⟨l.toArray⟩) ∧ (Lib.IsBuilderF 169 5 B b (Lib.byteCells l) w' ∧ Below B w w') := Any.Builder_String_any_f Ybaz.lays169 Ybaz.Builder_Extra_169 B b l w h hBw
def Ybaz.lays129_ren : Go.Shelf.Ren := ⟨fun | 129 => 98 | n => n, fun | 53 => 32 | 3 => 3 | 4 => 4 | 46 => 163 | 5 => 5 | 9 => 9 | n => n, fun | n => n⟩
theorem Ybaz.lays129 : Go.Proofs.Lays.n129 Ybaz.prog Ybaz.lays129_ren := {
  mixed := by kernel_rfl
  f129 := Ybaz.func98.trans (congrArg some (by kernel_rfl))
  t3 := Ybaz.underlying3
  a3 := Ybaz.isAgg3
  z3 := Ybaz.sizeOf3
  v3 := Ybaz.zeroValue3
  t4 := Ybaz.underlying4
  a4 := Ybaz.isAgg4
  z4 := Ybaz.sizeOf4
  v4 := Ybaz.zeroValue4
  t5 := Ybaz.underlying5
  a5 := Ybaz.isAgg5
  z5 := Ybaz.sizeOf5
  v5 := Ybaz.zeroValue5
  t9 := Ybaz.underlying9
  a9 := Ybaz.isAgg9
  z9 := Ybaz.sizeOf9
  v9 := Ybaz.zeroValue9
  t46 := Ybaz.underlying163
  a46 := Ybaz.isAgg163
  z46 := Ybaz.sizeOf163
  v46 := Ybaz.zeroValue163
  t53 := Ybaz.underlying32
  a53 := Ybaz.isAgg32
  z53 := Ybaz.sizeOf32
  v53 := Ybaz.zeroValue32 }
/-- bits.Len64: "Len64 returns the minimum number of bits required to represent x; the result is 0 for x == 0.": IT RETURNS 'Lib.bitLen x'; the world is as it was. ('h0', 'h1': x is a uint64.) (LAID: no walk: one application.) -/
theorem Ybaz.bits_Len64 (x : Int) (w : World) (h0 : 0 ≤ x) (h1 : x ≤ 18446744073709551615) :
    Calls Ybaz.prog 98 #[.int .u64 x] w fun e w' => e = .returned (.int .i64 (Lib.bitLen x.toNat)) ∧ w' = w := Any.bits_Len64 Ybaz.lays129 x w h0 h1
def Ybaz.lays317_ren : Go.Shelf.Ren := ⟨fun | 317 => 202 | n => n, fun | 3 => 3 | 46 => 163 | n => n, fun | n => n⟩
theorem Ybaz.lays317 : Go.Proofs.Lays.n317 Ybaz.prog Ybaz.lays317_ren := {
  mixed := by kernel_rfl
  f317 := Ybaz.func202.trans (congrArg some (by kernel_rfl))
  t3 := Ybaz.underlying3
  a3 := Ybaz.isAgg3
  z3 := Ybaz.sizeOf3
  v3 := Ybaz.zeroValue3
  t46 := Ybaz.underlying163
  a46 := Ybaz.isAgg163
  z46 := Ybaz.sizeOf163
  v46 := Ybaz.zeroValue163 }
open Go.Lib in
/-- internal/strconv.log10Pow2: "log10Pow2(x) returns ⌊log₁₀ 2**x⌋ = ⌊x * log₁₀ 2⌋.": '(x * 78913) >> 18', at an x up to 64 (a length in bits). The world is as it was. (LAID: no walk: one application.) -/
theorem Ybaz.internal_strconv_log10Pow2 (x : Nat) (h : x ≤ 64) (w : World) :
    Calls Ybaz.prog 202 #[.int .i64 x] w fun e w' => e = .returned (.int .i64 (Lib.l10 x)) ∧ w' = w := Any.internal_strconv_log10Pow2 Ybaz.lays317 x h w
def Ybaz.lays318_ren : Go.Shelf.Ren := ⟨fun | 318 => 203 | n => n, fun | 3 => 3 | 4 => 4 | n => n, fun | n => n⟩
theorem Ybaz.lays318 : Go.Proofs.Lays.n318 Ybaz.prog Ybaz.lays318_ren := {
  mixed := by kernel_rfl
  f318 := Ybaz.func203.trans (congrArg some (by kernel_rfl))
  t3 := Ybaz.underlying3
  a3 := Ybaz.isAgg3
  z3 := Ybaz.sizeOf3
  v3 := Ybaz.zeroValue3
  t4 := Ybaz.underlying4
  a4 := Ybaz.isAgg4
  z4 := Ybaz.sizeOf4
  v4 := Ybaz.zeroValue4 }
open Go.Lib in
/-- internal/strconv.bool2: "bool2 converts b to an integer: 1 for true, 0 for false." The world is as it was. (LAID: no walk: one application.) -/
theorem Ybaz.internal_strconv_bool2_int (b : Bool) (w : World) :
    Calls Ybaz.prog 203 #[.bool b] w fun e w' => e = .returned (.int .i64 (if b then 1 else 0)) ∧ w' = w := Any.internal_strconv_bool2_int Ybaz.lays318 b w
def Ybaz.lays283_ren : Go.Shelf.Ren := ⟨fun | 283 => 161 | n => n, fun | 3 => 3 | 9 => 9 | 4 => 4 | n => n, fun | n => n⟩
theorem Ybaz.lays283 : Go.Proofs.Lays.n283 Ybaz.prog Ybaz.lays283_ren := {
  mixed := by kernel_rfl
  f283 := Ybaz.func161.trans (congrArg some (by kernel_rfl))
  t3 := Ybaz.underlying3
  a3 := Ybaz.isAgg3
  z3 := Ybaz.sizeOf3
  v3 := Ybaz.zeroValue3
  t4 := Ybaz.underlying4
  a4 := Ybaz.isAgg4
  z4 := Ybaz.sizeOf4
  v4 := Ybaz.zeroValue4
  t9 := Ybaz.underlying9
  a9 := Ybaz.isAgg9
  z9 := Ybaz.sizeOf9
  v9 := Ybaz.zeroValue9 }
open Go.Lib in
/-- internal/strconv.small: "small returns the string for an i with 0 <= i < nSmalls.": i's decimal numeral. The world is as it was. (LAID: no walk: one application.) -/
theorem Ybaz.internal_strconv_small (i : Nat) (h : i < 100) (w : World) :
    Calls Ybaz.prog 161 #[.int .i64 i] w fun e w' => e = .returned (.string ⟨(Lib.decDigits i).toArray⟩) ∧ w' = w := Any.internal_strconv_small Ybaz.lays283 i h w
def Ybaz.laysM284_ren : Go.Shelf.Ren := ⟨fun | 284 => 162 | 129 => 98 | 317 => 202 | 318 => 203 | n => n, fun | 53 => 32 | 3 => 3 | 212 => 345 | 0 => 0 | 4 => 4 | 46 => 163 | 5 => 5 | 9 => 9 | n => n, fun | 17 => 4 | n => n⟩
theorem Ybaz.laysM284 : Go.Proofs.LaysM.n284 Ybaz.prog Ybaz.laysM284_ren := {
  mixed := by kernel_rfl
  f129 := Ybaz.func98.trans (congrArg some (by kernel_rfl))
  f284 := Ybaz.func162.trans (congrArg some (by kernel_rfl))
  f317 := Ybaz.func202.trans (congrArg some (by kernel_rfl))
  f318 := Ybaz.func203.trans (congrArg some (by kernel_rfl))
  t0 := Ybaz.underlying0
  a0 := Ybaz.isAgg0
  z0 := Ybaz.sizeOf0
  v0 := Ybaz.zeroValue0
  t3 := Ybaz.underlying3
  a3 := Ybaz.isAgg3
  z3 := Ybaz.sizeOf3
  v3 := Ybaz.zeroValue3
  t4 := Ybaz.underlying4
  a4 := Ybaz.isAgg4
  z4 := Ybaz.sizeOf4
  v4 := Ybaz.zeroValue4
  t5 := Ybaz.underlying5
  a5 := Ybaz.isAgg5
  z5 := Ybaz.sizeOf5
  v5 := Ybaz.zeroValue5
  t9 := Ybaz.underlying9
  a9 := Ybaz.isAgg9
  z9 := Ybaz.sizeOf9
  v9 := Ybaz.zeroValue9
  t46 := Ybaz.underlying163
  a46 := Ybaz.isAgg163
  z46 := Ybaz.sizeOf163
  v46 := Ybaz.zeroValue163
  t53 := Ybaz.underlying32
  a53 := Ybaz.isAgg32
  z53 := Ybaz.sizeOf32
  v53 := Ybaz.zeroValue32
  t212 := Ybaz.underlying345
  a212 := Ybaz.isAgg345
  z212 := Ybaz.sizeOf345
  v212 := Ybaz.zeroValue345
  g17 := by kernel_rfl
  i0 := by kernel_rfl
  i3 := by kernel_rfl
  i4 := by kernel_rfl
  i5 := by kernel_rfl
  i9 := by kernel_rfl
  i46 := by kernel_rfl
  i53 := by kernel_rfl
  i212 := by kernel_rfl
  m17 := by kernel_rfl }
open Go.Lib in
/-- internal/strconv.numDigits, at a d that is not 0: THE NUMBER OF d's DECIMAL DIGITS. The world is as it was. (LAID: no walk: one application.) -/
theorem Ybaz.internal_strconv_numDigits (u : Nat) (h1 : 1 ≤ u) (h2 : u < 18446744073709551616) (w : World) (htab : Lib.TabIs Ybaz.prog w "internal/strconv.uint64pow10" .u64 Lib.pow10Tab) :
    Calls Ybaz.prog 162 #[.int .u64 u] w fun e w' => e = .returned (.int .i64 (Lib.nDigits u)) ∧ w' = w := Any.internal_strconv_numDigits Ybaz.laysM284 u h1 h2 w htab
def Ybaz.lays285_ren : Go.Shelf.Ren := ⟨fun | 285 => 163 | n => n, fun | 37 => 54 | 53 => 32 | 3 => 3 | 4 => 4 | 51 => 100 | 9 => 9 | 5 => 5 | 0 => 0 | n => n, fun | n => n⟩
theorem Ybaz.lays285 : Go.Proofs.Lays.n285 Ybaz.prog Ybaz.lays285_ren := {
  mixed := by kernel_rfl
  f285 := Ybaz.func163.trans (congrArg some (by kernel_rfl))
  t0 := Ybaz.underlying0
  a0 := Ybaz.isAgg0
  z0 := Ybaz.sizeOf0
  v0 := Ybaz.zeroValue0
  t3 := Ybaz.underlying3
  a3 := Ybaz.isAgg3
  z3 := Ybaz.sizeOf3
  v3 := Ybaz.zeroValue3
  t4 := Ybaz.underlying4
  a4 := Ybaz.isAgg4
  z4 := Ybaz.sizeOf4
  v4 := Ybaz.zeroValue4
  t5 := Ybaz.underlying5
  a5 := Ybaz.isAgg5
  z5 := Ybaz.sizeOf5
  v5 := Ybaz.zeroValue5
  t9 := Ybaz.underlying9
  a9 := Ybaz.isAgg9
  z9 := Ybaz.sizeOf9
  v9 := Ybaz.zeroValue9
  t37 := Ybaz.underlying54
  a37 := Ybaz.isAgg54
  z37 := Ybaz.sizeOf54
  v37 := Ybaz.zeroValue54
  t51 := Ybaz.underlying100
  a51 := Ybaz.isAgg100
  z51 := Ybaz.sizeOf100
  v51 := Ybaz.zeroValue100
  t53 := Ybaz.underlying32
  a53 := Ybaz.isAgg32
  z53 := Ybaz.sizeOf32
  v53 := Ybaz.zeroValue32 }
open Go.RowKit Go.Sort Go.Lib in
/-- internal/strconv.formatBase10: "formatBase10 formats the decimal representation of u into a. The caller is responsible for ensuring that a is big enough to hold u. If a is too big, leading zeros will be filled in as needed.": THE ROW HOLDS u's DIGITS ('FmtInv .. 0 ..': every place t holds 'dg u (len - 1 - t)'); all else is as it was but for the count of draws. (LAID: no walk: one application.) -/
theorem Ybaz.internal_strconv_formatBase10 (blk off cap : Nat) (u : Nat) (d : Array UInt8) (w : World) (hH : Holds (fun (b : UInt8) => Value.int .u8 (b.toNat : Int)) w blk off d) (hu : u < 10 ^ d.size) (hu64 : u < 18446744073709551616) (hsz : d.size < 4611686018427387904) :
    Calls Ybaz.prog 163 #[.slice (some ⟨blk, off, none⟩) d.size cap, .int .u64 u] w fun e w' =>
      e = .returned (.tuple #[]) ∧ ∃ (n v' : Nat) (dk : Array UInt8), w' = (putRow (fun (b : UInt8) => Value.int .u8 (b.toNat : Int)) w blk off dk).drewN n ∧ FmtInv d.size u 0 v' dk := Any.internal_strconv_formatBase10 Ybaz.lays285 blk off cap u d w hH hu hu64 hsz
def Ybaz.laysM246_ren : Go.Shelf.Ren := ⟨fun | 246 => 126 | 283 => 161 | 284 => 162 | 285 => 163 | 286 => 164 | 129 => 98 | 317 => 202 | 318 => 203 | 319 => 204 | 320 => 205 | 337 => 227 | 338 => 111 | n => n, fun | 2 => 2 | 3 => 3 | 9 => 9 | 4 => 4 | 171 => 306 | 0 => 0 | 53 => 32 | 37 => 54 | 5 => 5 | 173 => 308 | 212 => 345 | 51 => 100 | 20 => 20 | 213 => 346 | 46 => 163 | 232 => 369 | 233 => 298 | n => n, fun | 17 => 4 | 18 => 7 | 19 => 2 | n => n⟩
theorem Ybaz.laysM246 : Go.Proofs.LaysM.n246 Ybaz.prog Ybaz.laysM246_ren := {
  mixed := by kernel_rfl
  f129 := Ybaz.func98.trans (congrArg some (by kernel_rfl))
  f246 := Ybaz.func126.trans (congrArg some (by kernel_rfl))
  f283 := Ybaz.func161.trans (congrArg some (by kernel_rfl))
  f284 := Ybaz.func162.trans (congrArg some (by kernel_rfl))
  f285 := Ybaz.func163.trans (congrArg some (by kernel_rfl))
  f286 := Ybaz.func164.trans (congrArg some (by kernel_rfl))
  f317 := Ybaz.func202.trans (congrArg some (by kernel_rfl))
  f318 := Ybaz.func203.trans (congrArg some (by kernel_rfl))
  f319 := Ybaz.func204.trans (congrArg some (by kernel_rfl))
  f320 := Ybaz.func205.trans (congrArg some (by kernel_rfl))
  f337 := Ybaz.func227.trans (congrArg some (by kernel_rfl))
  f338 := Ybaz.func111.trans (congrArg some (by kernel_rfl))
  t0 := Ybaz.underlying0
  a0 := Ybaz.isAgg0
  z0 := Ybaz.sizeOf0
  v0 := Ybaz.zeroValue0
  t2 := Ybaz.underlying2
  a2 := Ybaz.isAgg2
  z2 := Ybaz.sizeOf2
  v2 := Ybaz.zeroValue2
  t3 := Ybaz.underlying3
  a3 := Ybaz.isAgg3
  z3 := Ybaz.sizeOf3
  v3 := Ybaz.zeroValue3
  t4 := Ybaz.underlying4
  a4 := Ybaz.isAgg4
  z4 := Ybaz.sizeOf4
  v4 := Ybaz.zeroValue4
  t5 := Ybaz.underlying5
  a5 := Ybaz.isAgg5
  z5 := Ybaz.sizeOf5
  v5 := Ybaz.zeroValue5
  t9 := Ybaz.underlying9
  a9 := Ybaz.isAgg9
  z9 := Ybaz.sizeOf9
  v9 := Ybaz.zeroValue9
  t20 := Ybaz.underlying20
  a20 := Ybaz.isAgg20
  z20 := Ybaz.sizeOf20
  v20 := Ybaz.zeroValue20
  t37 := Ybaz.underlying54
  a37 := Ybaz.isAgg54
  z37 := Ybaz.sizeOf54
  v37 := Ybaz.zeroValue54
  t46 := Ybaz.underlying163
  a46 := Ybaz.isAgg163
  z46 := Ybaz.sizeOf163
  v46 := Ybaz.zeroValue163
  t51 := Ybaz.underlying100
  a51 := Ybaz.isAgg100
  z51 := Ybaz.sizeOf100
  v51 := Ybaz.zeroValue100
  t53 := Ybaz.underlying32
  a53 := Ybaz.isAgg32
  z53 := Ybaz.sizeOf32
  v53 := Ybaz.zeroValue32
  t171 := Ybaz.underlying306
  a171 := Ybaz.isAgg306
  z171 := Ybaz.sizeOf306
  v171 := Ybaz.zeroValue306
  t173 := Ybaz.underlying308
  a173 := Ybaz.isAgg308
  z173 := Ybaz.sizeOf308
  v173 := Ybaz.zeroValue308
  t212 := Ybaz.underlying345
  a212 := Ybaz.isAgg345
  z212 := Ybaz.sizeOf345
  v212 := Ybaz.zeroValue345
  t213 := Ybaz.underlying346
  a213 := Ybaz.isAgg346
  z213 := Ybaz.sizeOf346
  t232 := Ybaz.underlying369
  a232 := Ybaz.isAgg369
  z232 := Ybaz.sizeOf369
  v232 := Ybaz.zeroValue369
  t233 := Ybaz.underlying298
  a233 := Ybaz.isAgg298
  z233 := Ybaz.sizeOf298
  v233 := Ybaz.zeroValue298
  g17 := by kernel_rfl
  g18 := by kernel_rfl
  g19 := by kernel_rfl
  i0 := by kernel_rfl
  i2 := by kernel_rfl
  i3 := by kernel_rfl
  i4 := by kernel_rfl
  i5 := by kernel_rfl
  i9 := by kernel_rfl
  i20 := by kernel_rfl
  i37 := by kernel_rfl
  i46 := by kernel_rfl
  i51 := by kernel_rfl
  i53 := by kernel_rfl
  i171 := by kernel_rfl
  i173 := by kernel_rfl
  i212 := by kernel_rfl
  i232 := by kernel_rfl
  i233 := by kernel_rfl
  m17 := by kernel_rfl
  m18 := by kernel_rfl
  m19 := by kernel_rfl }
open Go.RowKit Go.Sort Go.Lib in
/-- internal/strconv.FormatInt: "FormatInt returns the string representation of i in the given base": AT BASE 10: i's decimal numeral, for every int64. The world behind the call: the world before it, new blocks behind the heap, draws. (LAID: no walk: one application.) -/
theorem Ybaz.internal_strconv_FormatInt_10 (n : Int) (h0 : -9223372036854775808 ≤ n) (h1 : n ≤ 9223372036854775807) (w : World) (htab : Lib.TabIs Ybaz.prog w "internal/strconv.uint64pow10" .u64 Lib.pow10Tab) :
    Calls Ybaz.prog 126 #[.int .i64 n, .int .i64 10] w fun e w' => e = .returned (.string ⟨(Lib.itoa n).toArray⟩) ∧ ∃ k os, w' = grow (w.drewN k) os := Any.internal_strconv_FormatInt_10 Ybaz.laysM246 n h0 h1 w htab
def Ybaz.lays246_ren : Go.Shelf.Ren := ⟨fun | 246 => 126 | 283 => 161 | 284 => 162 | 285 => 163 | 286 => 164 | 129 => 98 | 317 => 202 | 318 => 203 | 319 => 204 | 320 => 205 | 337 => 227 | 338 => 111 | n => n, fun | 2 => 2 | 3 => 3 | 9 => 9 | 4 => 4 | 171 => 306 | 0 => 0 | 53 => 32 | 37 => 54 | 5 => 5 | 173 => 308 | 212 => 345 | 51 => 100 | 20 => 20 | 213 => 346 | 46 => 163 | 232 => 369 | 233 => 298 | n => n, fun | 17 => 4 | 18 => 7 | 19 => 2 | n => n⟩
theorem Ybaz.lays246 : Go.Proofs.Lays.n246 Ybaz.prog Ybaz.lays246_ren := {
  mixed := by kernel_rfl
  f129 := Ybaz.func98.trans (congrArg some (by kernel_rfl))
  f246 := Ybaz.func126.trans (congrArg some (by kernel_rfl))
  f283 := Ybaz.func161.trans (congrArg some (by kernel_rfl))
  f284 := Ybaz.func162.trans (congrArg some (by kernel_rfl))
  f285 := Ybaz.func163.trans (congrArg some (by kernel_rfl))
  f286 := Ybaz.func164.trans (congrArg some (by kernel_rfl))
  f317 := Ybaz.func202.trans (congrArg some (by kernel_rfl))
  f318 := Ybaz.func203.trans (congrArg some (by kernel_rfl))
  f319 := Ybaz.func204.trans (congrArg some (by kernel_rfl))
  f320 := Ybaz.func205.trans (congrArg some (by kernel_rfl))
  f337 := Ybaz.func227.trans (congrArg some (by kernel_rfl))
  f338 := Ybaz.func111.trans (congrArg some (by kernel_rfl))
  t0 := Ybaz.underlying0
  a0 := Ybaz.isAgg0
  z0 := Ybaz.sizeOf0
  v0 := Ybaz.zeroValue0
  t2 := Ybaz.underlying2
  a2 := Ybaz.isAgg2
  z2 := Ybaz.sizeOf2
  v2 := Ybaz.zeroValue2
  t3 := Ybaz.underlying3
  a3 := Ybaz.isAgg3
  z3 := Ybaz.sizeOf3
  v3 := Ybaz.zeroValue3
  t4 := Ybaz.underlying4
  a4 := Ybaz.isAgg4
  z4 := Ybaz.sizeOf4
  v4 := Ybaz.zeroValue4
  t5 := Ybaz.underlying5
  a5 := Ybaz.isAgg5
  z5 := Ybaz.sizeOf5
  v5 := Ybaz.zeroValue5
  t9 := Ybaz.underlying9
  a9 := Ybaz.isAgg9
  z9 := Ybaz.sizeOf9
  v9 := Ybaz.zeroValue9
  t20 := Ybaz.underlying20
  a20 := Ybaz.isAgg20
  z20 := Ybaz.sizeOf20
  v20 := Ybaz.zeroValue20
  t37 := Ybaz.underlying54
  a37 := Ybaz.isAgg54
  z37 := Ybaz.sizeOf54
  v37 := Ybaz.zeroValue54
  t46 := Ybaz.underlying163
  a46 := Ybaz.isAgg163
  z46 := Ybaz.sizeOf163
  v46 := Ybaz.zeroValue163
  t51 := Ybaz.underlying100
  a51 := Ybaz.isAgg100
  z51 := Ybaz.sizeOf100
  v51 := Ybaz.zeroValue100
  t53 := Ybaz.underlying32
  a53 := Ybaz.isAgg32
  z53 := Ybaz.sizeOf32
  v53 := Ybaz.zeroValue32
  t171 := Ybaz.underlying306
  a171 := Ybaz.isAgg306
  z171 := Ybaz.sizeOf306
  v171 := Ybaz.zeroValue306
  t173 := Ybaz.underlying308
  a173 := Ybaz.isAgg308
  z173 := Ybaz.sizeOf308
  v173 := Ybaz.zeroValue308
  t212 := Ybaz.underlying345
  a212 := Ybaz.isAgg345
  z212 := Ybaz.sizeOf345
  v212 := Ybaz.zeroValue345
  t213 := Ybaz.underlying346
  a213 := Ybaz.isAgg346
  z213 := Ybaz.sizeOf346
  t232 := Ybaz.underlying369
  a232 := Ybaz.isAgg369
  z232 := Ybaz.sizeOf369
  v232 := Ybaz.zeroValue369
  t233 := Ybaz.underlying298
  a233 := Ybaz.isAgg298
  z233 := Ybaz.sizeOf298
  v233 := Ybaz.zeroValue298
  g17 := by kernel_rfl
  g18 := by kernel_rfl
  g19 := by kernel_rfl }
open Go.RowKit Go.Sort Go.Lib in
/-- THE ROAD WITHOUT THE TABLE: 0 <= i < 100: two constants are read, nothing is laid: no premise on the world, and the world is as it was. (LAID: no walk: one application.) -/
theorem Ybaz.internal_strconv_FormatInt_10_small (i : Nat) (hi : i < 100) (w : World) :
    Calls Ybaz.prog 126 #[.int .i64 i, .int .i64 10] w fun e w' => e = .returned (.string ⟨(Lib.decDigits i).toArray⟩) ∧ w' = w := Any.internal_strconv_FormatInt_10_small Ybaz.lays246 i hi w
def Ybaz.laysM243_ren : Go.Shelf.Ren := ⟨fun | 243 => 72 | 246 => 126 | 283 => 161 | 284 => 162 | 285 => 163 | 286 => 164 | 129 => 98 | 317 => 202 | 318 => 203 | 319 => 204 | 320 => 205 | 337 => 227 | 338 => 111 | n => n, fun | 3 => 3 | 9 => 9 | 2 => 2 | 4 => 4 | 171 => 306 | 0 => 0 | 53 => 32 | 37 => 54 | 5 => 5 | 173 => 308 | 212 => 345 | 51 => 100 | 20 => 20 | 213 => 346 | 46 => 163 | 232 => 369 | 233 => 298 | n => n, fun | 17 => 4 | 18 => 7 | 19 => 2 | n => n⟩
theorem Ybaz.laysM243 : Go.Proofs.LaysM.n243 Ybaz.prog Ybaz.laysM243_ren := {
  mixed := by kernel_rfl
  f129 := Ybaz.func98.trans (congrArg some (by kernel_rfl))
  f243 := Ybaz.func72.trans (congrArg some (by kernel_rfl))
  f246 := Ybaz.func126.trans (congrArg some (by kernel_rfl))
  f283 := Ybaz.func161.trans (congrArg some (by kernel_rfl))
  f284 := Ybaz.func162.trans (congrArg some (by kernel_rfl))
  f285 := Ybaz.func163.trans (congrArg some (by kernel_rfl))
  f286 := Ybaz.func164.trans (congrArg some (by kernel_rfl))
  f317 := Ybaz.func202.trans (congrArg some (by kernel_rfl))
  f318 := Ybaz.func203.trans (congrArg some (by kernel_rfl))
  f319 := Ybaz.func204.trans (congrArg some (by kernel_rfl))
  f320 := Ybaz.func205.trans (congrArg some (by kernel_rfl))
  f337 := Ybaz.func227.trans (congrArg some (by kernel_rfl))
  f338 := Ybaz.func111.trans (congrArg some (by kernel_rfl))
  t0 := Ybaz.underlying0
  a0 := Ybaz.isAgg0
  z0 := Ybaz.sizeOf0
  v0 := Ybaz.zeroValue0
  t2 := Ybaz.underlying2
  a2 := Ybaz.isAgg2
  z2 := Ybaz.sizeOf2
  v2 := Ybaz.zeroValue2
  t3 := Ybaz.underlying3
  a3 := Ybaz.isAgg3
  z3 := Ybaz.sizeOf3
  v3 := Ybaz.zeroValue3
  t4 := Ybaz.underlying4
  a4 := Ybaz.isAgg4
  z4 := Ybaz.sizeOf4
  v4 := Ybaz.zeroValue4
  t5 := Ybaz.underlying5
  a5 := Ybaz.isAgg5
  z5 := Ybaz.sizeOf5
  v5 := Ybaz.zeroValue5
  t9 := Ybaz.underlying9
  a9 := Ybaz.isAgg9
  z9 := Ybaz.sizeOf9
  v9 := Ybaz.zeroValue9
  t20 := Ybaz.underlying20
  a20 := Ybaz.isAgg20
  z20 := Ybaz.sizeOf20
  v20 := Ybaz.zeroValue20
  t37 := Ybaz.underlying54
  a37 := Ybaz.isAgg54
  z37 := Ybaz.sizeOf54
  v37 := Ybaz.zeroValue54
  t46 := Ybaz.underlying163
  a46 := Ybaz.isAgg163
  z46 := Ybaz.sizeOf163
  v46 := Ybaz.zeroValue163
  t51 := Ybaz.underlying100
  a51 := Ybaz.isAgg100
  z51 := Ybaz.sizeOf100
  v51 := Ybaz.zeroValue100
  t53 := Ybaz.underlying32
  a53 := Ybaz.isAgg32
  z53 := Ybaz.sizeOf32
  v53 := Ybaz.zeroValue32
  t171 := Ybaz.underlying306
  a171 := Ybaz.isAgg306
  z171 := Ybaz.sizeOf306
  v171 := Ybaz.zeroValue306
  t173 := Ybaz.underlying308
  a173 := Ybaz.isAgg308
  z173 := Ybaz.sizeOf308
  v173 := Ybaz.zeroValue308
  t212 := Ybaz.underlying345
  a212 := Ybaz.isAgg345
  z212 := Ybaz.sizeOf345
  v212 := Ybaz.zeroValue345
  t213 := Ybaz.underlying346
  a213 := Ybaz.isAgg346
  z213 := Ybaz.sizeOf346
  t232 := Ybaz.underlying369
  a232 := Ybaz.isAgg369
  z232 := Ybaz.sizeOf369
  v232 := Ybaz.zeroValue369
  t233 := Ybaz.underlying298
  a233 := Ybaz.isAgg298
  z233 := Ybaz.sizeOf298
  v233 := Ybaz.zeroValue298
  g17 := by kernel_rfl
  g18 := by kernel_rfl
  g19 := by kernel_rfl
  i0 := by kernel_rfl
  i2 := by kernel_rfl
  i3 := by kernel_rfl
  i4 := by kernel_rfl
  i5 := by kernel_rfl
  i9 := by kernel_rfl
  i20 := by kernel_rfl
  i37 := by kernel_rfl
  i46 := by kernel_rfl
  i51 := by kernel_rfl
  i53 := by kernel_rfl
  i171 := by kernel_rfl
  i173 := by kernel_rfl
  i212 := by kernel_rfl
  i232 := by kernel_rfl
  i233 := by kernel_rfl
  m17 := by kernel_rfl
  m18 := by kernel_rfl
  m19 := by kernel_rfl }
open Go.RowKit Go.Sort Go.Lib in
/-- internal/strconv.Itoa: "Itoa is equivalent to FormatInt(int64(i), 10).": i's decimal numeral, for every int. (LAID: no walk: one application.) -/
theorem Ybaz.internal_strconv_Itoa (n : Int) (h0 : -9223372036854775808 ≤ n) (h1 : n ≤ 9223372036854775807) (w : World) (htab : Lib.TabIs Ybaz.prog w "internal/strconv.uint64pow10" .u64 Lib.pow10Tab) :
    Calls Ybaz.prog 72 #[.int .i64 n] w fun e w' => e = .returned (.string ⟨(Lib.itoa n).toArray⟩) ∧ ∃ k os, w' = grow (w.drewN k) os := Any.internal_strconv_Itoa Ybaz.laysM243 n h0 h1 w htab
def Ybaz.lays243_ren : Go.Shelf.Ren := ⟨fun | 243 => 72 | 246 => 126 | 283 => 161 | 284 => 162 | 285 => 163 | 286 => 164 | 129 => 98 | 317 => 202 | 318 => 203 | 319 => 204 | 320 => 205 | 337 => 227 | 338 => 111 | n => n, fun | 3 => 3 | 9 => 9 | 2 => 2 | 4 => 4 | 171 => 306 | 0 => 0 | 53 => 32 | 37 => 54 | 5 => 5 | 173 => 308 | 212 => 345 | 51 => 100 | 20 => 20 | 213 => 346 | 46 => 163 | 232 => 369 | 233 => 298 | n => n, fun | 17 => 4 | 18 => 7 | 19 => 2 | n => n⟩
theorem Ybaz.lays243 : Go.Proofs.Lays.n243 Ybaz.prog Ybaz.lays243_ren := {
  mixed := by kernel_rfl
  f129 := Ybaz.func98.trans (congrArg some (by kernel_rfl))
  f243 := Ybaz.func72.trans (congrArg some (by kernel_rfl))
  f246 := Ybaz.func126.trans (congrArg some (by kernel_rfl))
  f283 := Ybaz.func161.trans (congrArg some (by kernel_rfl))
  f284 := Ybaz.func162.trans (congrArg some (by kernel_rfl))
  f285 := Ybaz.func163.trans (congrArg some (by kernel_rfl))
  f286 := Ybaz.func164.trans (congrArg some (by kernel_rfl))
  f317 := Ybaz.func202.trans (congrArg some (by kernel_rfl))
  f318 := Ybaz.func203.trans (congrArg some (by kernel_rfl))
  f319 := Ybaz.func204.trans (congrArg some (by kernel_rfl))
  f320 := Ybaz.func205.trans (congrArg some (by kernel_rfl))
  f337 := Ybaz.func227.trans (congrArg some (by kernel_rfl))
  f338 := Ybaz.func111.trans (congrArg some (by kernel_rfl))
  t0 := Ybaz.underlying0
  a0 := Ybaz.isAgg0
  z0 := Ybaz.sizeOf0
  v0 := Ybaz.zeroValue0
  t2 := Ybaz.underlying2
  a2 := Ybaz.isAgg2
  z2 := Ybaz.sizeOf2
  v2 := Ybaz.zeroValue2
  t3 := Ybaz.underlying3
  a3 := Ybaz.isAgg3
  z3 := Ybaz.sizeOf3
  v3 := Ybaz.zeroValue3
  t4 := Ybaz.underlying4
  a4 := Ybaz.isAgg4
  z4 := Ybaz.sizeOf4
  v4 := Ybaz.zeroValue4
  t5 := Ybaz.underlying5
  a5 := Ybaz.isAgg5
  z5 := Ybaz.sizeOf5
  v5 := Ybaz.zeroValue5
  t9 := Ybaz.underlying9
  a9 := Ybaz.isAgg9
  z9 := Ybaz.sizeOf9
  v9 := Ybaz.zeroValue9
  t20 := Ybaz.underlying20
  a20 := Ybaz.isAgg20
  z20 := Ybaz.sizeOf20
  v20 := Ybaz.zeroValue20
  t37 := Ybaz.underlying54
  a37 := Ybaz.isAgg54
  z37 := Ybaz.sizeOf54
  v37 := Ybaz.zeroValue54
  t46 := Ybaz.underlying163
  a46 := Ybaz.isAgg163
  z46 := Ybaz.sizeOf163
  v46 := Ybaz.zeroValue163
  t51 := Ybaz.underlying100
  a51 := Ybaz.isAgg100
  z51 := Ybaz.sizeOf100
  v51 := Ybaz.zeroValue100
  t53 := Ybaz.underlying32
  a53 := Ybaz.isAgg32
  z53 := Ybaz.sizeOf32
  v53 := Ybaz.zeroValue32
  t171 := Ybaz.underlying306
  a171 := Ybaz.isAgg306
  z171 := Ybaz.sizeOf306
  v171 := Ybaz.zeroValue306
  t173 := Ybaz.underlying308
  a173 := Ybaz.isAgg308
  z173 := Ybaz.sizeOf308
  v173 := Ybaz.zeroValue308
  t212 := Ybaz.underlying345
  a212 := Ybaz.isAgg345
  z212 := Ybaz.sizeOf345
  v212 := Ybaz.zeroValue345
  t213 := Ybaz.underlying346
  a213 := Ybaz.isAgg346
  z213 := Ybaz.sizeOf346
  t232 := Ybaz.underlying369
  a232 := Ybaz.isAgg369
  z232 := Ybaz.sizeOf369
  v232 := Ybaz.zeroValue369
  t233 := Ybaz.underlying298
  a233 := Ybaz.isAgg298
  z233 := Ybaz.sizeOf298
  v233 := Ybaz.zeroValue298
  g17 := by kernel_rfl
  g18 := by kernel_rfl
  g19 := by kernel_rfl }
open Go.RowKit Go.Sort Go.Lib in
/-- THE ROAD WITHOUT THE TABLE: 0 <= i < 100. (LAID: no walk: one application.) -/
theorem Ybaz.internal_strconv_Itoa_small (i : Nat) (hi : i < 100) (w : World) :
    Calls Ybaz.prog 72 #[.int .i64 i] w fun e w' => e = .returned (.string ⟨(Lib.decDigits i).toArray⟩) ∧ w' = w := Any.internal_strconv_Itoa_small Ybaz.lays243 i hi w
def Ybaz.laysM171_ren : Go.Shelf.Ren := ⟨fun | 171 => 26 | 243 => 72 | 246 => 126 | 283 => 161 | 284 => 162 | 285 => 163 | 286 => 164 | 129 => 98 | 317 => 202 | 318 => 203 | 319 => 204 | 320 => 205 | 337 => 227 | 338 => 111 | n => n, fun | 3 => 3 | 9 => 9 | 2 => 2 | 4 => 4 | 171 => 306 | 0 => 0 | 53 => 32 | 37 => 54 | 5 => 5 | 173 => 308 | 212 => 345 | 51 => 100 | 20 => 20 | 213 => 346 | 46 => 163 | 232 => 369 | 233 => 298 | n => n, fun | 17 => 4 | 18 => 7 | 19 => 2 | n => n⟩
theorem Ybaz.laysM171 : Go.Proofs.LaysM.n171 Ybaz.prog Ybaz.laysM171_ren := {
  mixed := by kernel_rfl
  f129 := Ybaz.func98.trans (congrArg some (by kernel_rfl))
  f171 := Ybaz.func26.trans (congrArg some (by kernel_rfl))
  f243 := Ybaz.func72.trans (congrArg some (by kernel_rfl))
  f246 := Ybaz.func126.trans (congrArg some (by kernel_rfl))
  f283 := Ybaz.func161.trans (congrArg some (by kernel_rfl))
  f284 := Ybaz.func162.trans (congrArg some (by kernel_rfl))
  f285 := Ybaz.func163.trans (congrArg some (by kernel_rfl))
  f286 := Ybaz.func164.trans (congrArg some (by kernel_rfl))
  f317 := Ybaz.func202.trans (congrArg some (by kernel_rfl))
  f318 := Ybaz.func203.trans (congrArg some (by kernel_rfl))
  f319 := Ybaz.func204.trans (congrArg some (by kernel_rfl))
  f320 := Ybaz.func205.trans (congrArg some (by kernel_rfl))
  f337 := Ybaz.func227.trans (congrArg some (by kernel_rfl))
  f338 := Ybaz.func111.trans (congrArg some (by kernel_rfl))
  t0 := Ybaz.underlying0
  a0 := Ybaz.isAgg0
  z0 := Ybaz.sizeOf0
  v0 := Ybaz.zeroValue0
  t2 := Ybaz.underlying2
  a2 := Ybaz.isAgg2
  z2 := Ybaz.sizeOf2
  v2 := Ybaz.zeroValue2
  t3 := Ybaz.underlying3
  a3 := Ybaz.isAgg3
  z3 := Ybaz.sizeOf3
  v3 := Ybaz.zeroValue3
  t4 := Ybaz.underlying4
  a4 := Ybaz.isAgg4
  z4 := Ybaz.sizeOf4
  v4 := Ybaz.zeroValue4
  t5 := Ybaz.underlying5
  a5 := Ybaz.isAgg5
  z5 := Ybaz.sizeOf5
  v5 := Ybaz.zeroValue5
  t9 := Ybaz.underlying9
  a9 := Ybaz.isAgg9
  z9 := Ybaz.sizeOf9
  v9 := Ybaz.zeroValue9
  t20 := Ybaz.underlying20
  a20 := Ybaz.isAgg20
  z20 := Ybaz.sizeOf20
  v20 := Ybaz.zeroValue20
  t37 := Ybaz.underlying54
  a37 := Ybaz.isAgg54
  z37 := Ybaz.sizeOf54
  v37 := Ybaz.zeroValue54
  t46 := Ybaz.underlying163
  a46 := Ybaz.isAgg163
  z46 := Ybaz.sizeOf163
  v46 := Ybaz.zeroValue163
  t51 := Ybaz.underlying100
  a51 := Ybaz.isAgg100
  z51 := Ybaz.sizeOf100
  v51 := Ybaz.zeroValue100
  t53 := Ybaz.underlying32
  a53 := Ybaz.isAgg32
  z53 := Ybaz.sizeOf32
  v53 := Ybaz.zeroValue32
  t171 := Ybaz.underlying306
  a171 := Ybaz.isAgg306
  z171 := Ybaz.sizeOf306
  v171 := Ybaz.zeroValue306
  t173 := Ybaz.underlying308
  a173 := Ybaz.isAgg308
  z173 := Ybaz.sizeOf308
  v173 := Ybaz.zeroValue308
  t212 := Ybaz.underlying345
  a212 := Ybaz.isAgg345
  z212 := Ybaz.sizeOf345
  v212 := Ybaz.zeroValue345
  t213 := Ybaz.underlying346
  a213 := Ybaz.isAgg346
  z213 := Ybaz.sizeOf346
  t232 := Ybaz.underlying369
  a232 := Ybaz.isAgg369
  z232 := Ybaz.sizeOf369
  v232 := Ybaz.zeroValue369
  t233 := Ybaz.underlying298
  a233 := Ybaz.isAgg298
  z233 := Ybaz.sizeOf298
  v233 := Ybaz.zeroValue298
  g17 := by kernel_rfl
  g18 := by kernel_rfl
  g19 := by kernel_rfl
  i0 := by kernel_rfl
  i2 := by kernel_rfl
  i3 := by kernel_rfl
  i4 := by kernel_rfl
  i5 := by kernel_rfl
  i9 := by kernel_rfl
  i20 := by kernel_rfl
  i37 := by kernel_rfl
  i46 := by kernel_rfl
  i51 := by kernel_rfl
  i53 := by kernel_rfl
  i171 := by kernel_rfl
  i173 := by kernel_rfl
  i212 := by kernel_rfl
  i232 := by kernel_rfl
  i233 := by kernel_rfl
  m17 := by kernel_rfl
  m18 := by kernel_rfl
  m19 := by kernel_rfl }
open Go.RowKit Go.Sort Go.Lib in
/-- strconv.Itoa: "Itoa is equivalent to FormatInt(int64(i), 10).": i's DECIMAL NUMERAL ('Lib.itoa': a '-' where i is negative, then the digits), FOR EVERY int. The world behind the call: the world before it, new blocks behind the heap (the library's 'var a [24]byte'), draws. (LAID: no walk: one application.) -/
theorem Ybaz.strconv_Itoa (n : Int) (h0 : -9223372036854775808 ≤ n) (h1 : n ≤ 9223372036854775807) (w : World) (htab : Lib.TabIs Ybaz.prog w "internal/strconv.uint64pow10" .u64 Lib.pow10Tab) :
    Calls Ybaz.prog 26 #[.int .i64 n] w fun e w' => e = .returned (.string ⟨(Lib.itoa n).toArray⟩) ∧ ∃ k os, w' = grow (w.drewN k) os := Any.strconv_Itoa Ybaz.laysM171 n h0 h1 w htab
def Ybaz.lays171_ren : Go.Shelf.Ren := ⟨fun | 171 => 26 | 243 => 72 | 246 => 126 | 283 => 161 | 284 => 162 | 285 => 163 | 286 => 164 | 129 => 98 | 317 => 202 | 318 => 203 | 319 => 204 | 320 => 205 | 337 => 227 | 338 => 111 | n => n, fun | 3 => 3 | 9 => 9 | 2 => 2 | 4 => 4 | 171 => 306 | 0 => 0 | 53 => 32 | 37 => 54 | 5 => 5 | 173 => 308 | 212 => 345 | 51 => 100 | 20 => 20 | 213 => 346 | 46 => 163 | 232 => 369 | 233 => 298 | n => n, fun | 17 => 4 | 18 => 7 | 19 => 2 | n => n⟩
theorem Ybaz.lays171 : Go.Proofs.Lays.n171 Ybaz.prog Ybaz.lays171_ren := {
  mixed := by kernel_rfl
  f129 := Ybaz.func98.trans (congrArg some (by kernel_rfl))
  f171 := Ybaz.func26.trans (congrArg some (by kernel_rfl))
  f243 := Ybaz.func72.trans (congrArg some (by kernel_rfl))
  f246 := Ybaz.func126.trans (congrArg some (by kernel_rfl))
  f283 := Ybaz.func161.trans (congrArg some (by kernel_rfl))
  f284 := Ybaz.func162.trans (congrArg some (by kernel_rfl))
  f285 := Ybaz.func163.trans (congrArg some (by kernel_rfl))
  f286 := Ybaz.func164.trans (congrArg some (by kernel_rfl))
  f317 := Ybaz.func202.trans (congrArg some (by kernel_rfl))
  f318 := Ybaz.func203.trans (congrArg some (by kernel_rfl))
  f319 := Ybaz.func204.trans (congrArg some (by kernel_rfl))
  f320 := Ybaz.func205.trans (congrArg some (by kernel_rfl))
  f337 := Ybaz.func227.trans (congrArg some (by kernel_rfl))
  f338 := Ybaz.func111.trans (congrArg some (by kernel_rfl))
  t0 := Ybaz.underlying0
  a0 := Ybaz.isAgg0
  z0 := Ybaz.sizeOf0
  v0 := Ybaz.zeroValue0
  t2 := Ybaz.underlying2
  a2 := Ybaz.isAgg2
  z2 := Ybaz.sizeOf2
  v2 := Ybaz.zeroValue2
  t3 := Ybaz.underlying3
  a3 := Ybaz.isAgg3
  z3 := Ybaz.sizeOf3
  v3 := Ybaz.zeroValue3
  t4 := Ybaz.underlying4
  a4 := Ybaz.isAgg4
  z4 := Ybaz.sizeOf4
  v4 := Ybaz.zeroValue4
  t5 := Ybaz.underlying5
  a5 := Ybaz.isAgg5
  z5 := Ybaz.sizeOf5
  v5 := Ybaz.zeroValue5
  t9 := Ybaz.underlying9
  a9 := Ybaz.isAgg9
  z9 := Ybaz.sizeOf9
  v9 := Ybaz.zeroValue9
  t20 := Ybaz.underlying20
  a20 := Ybaz.isAgg20
  z20 := Ybaz.sizeOf20
  v20 := Ybaz.zeroValue20
  t37 := Ybaz.underlying54
  a37 := Ybaz.isAgg54
  z37 := Ybaz.sizeOf54
  v37 := Ybaz.zeroValue54
  t46 := Ybaz.underlying163
  a46 := Ybaz.isAgg163
  z46 := Ybaz.sizeOf163
  v46 := Ybaz.zeroValue163
  t51 := Ybaz.underlying100
  a51 := Ybaz.isAgg100
  z51 := Ybaz.sizeOf100
  v51 := Ybaz.zeroValue100
  t53 := Ybaz.underlying32
  a53 := Ybaz.isAgg32
  z53 := Ybaz.sizeOf32
  v53 := Ybaz.zeroValue32
  t171 := Ybaz.underlying306
  a171 := Ybaz.isAgg306
  z171 := Ybaz.sizeOf306
  v171 := Ybaz.zeroValue306
  t173 := Ybaz.underlying308
  a173 := Ybaz.isAgg308
  z173 := Ybaz.sizeOf308
  v173 := Ybaz.zeroValue308
  t212 := Ybaz.underlying345
  a212 := Ybaz.isAgg345
  z212 := Ybaz.sizeOf345
  v212 := Ybaz.zeroValue345
  t213 := Ybaz.underlying346
  a213 := Ybaz.isAgg346
  z213 := Ybaz.sizeOf346
  t232 := Ybaz.underlying369
  a232 := Ybaz.isAgg369
  z232 := Ybaz.sizeOf369
  v232 := Ybaz.zeroValue369
  t233 := Ybaz.underlying298
  a233 := Ybaz.isAgg298
  z233 := Ybaz.sizeOf298
  v233 := Ybaz.zeroValue298
  g17 := by kernel_rfl
  g18 := by kernel_rfl
  g19 := by kernel_rfl }
open Go.RowKit Go.Sort Go.Lib in
/-- THE ROAD WITHOUT THE TABLE: 0 <= i < 100: NO PREMISE ON THE WORLD, AND THE WORLD IS AS IT WAS: a row that keeps its argument in that range need list no table ('laid = []'). (LAID: no walk: one application.) -/
theorem Ybaz.strconv_Itoa_small (i : Nat) (hi : i < 100) (w : World) :
    Calls Ybaz.prog 26 #[.int .i64 i] w fun e w' => e = .returned (.string ⟨(Lib.decDigits i).toArray⟩) ∧ w' = w := Any.strconv_Itoa_small Ybaz.lays171 i hi w
def Ybaz.lays217_ren : Go.Shelf.Ren := ⟨fun | 217 => 160 | 266 => 201 | n => n, fun | 9 => 9 | 5 => 5 | 3 => 3 | n => n, fun | n => n⟩
theorem Ybaz.lays217 : Go.Proofs.Lays.n217 Ybaz.prog Ybaz.lays217_ren := {
  mixed := by kernel_rfl
  f217 := Ybaz.func160.trans (congrArg some (by kernel_rfl))
  f266 := Ybaz.func201.trans (congrArg some (by kernel_rfl))
  t3 := Ybaz.underlying3
  a3 := Ybaz.isAgg3
  z3 := Ybaz.sizeOf3
  v3 := Ybaz.zeroValue3
  t5 := Ybaz.underlying5
  a5 := Ybaz.isAgg5
  z5 := Ybaz.sizeOf5
  v5 := Ybaz.zeroValue5
  t9 := Ybaz.underlying9
  a9 := Ybaz.isAgg9
  z9 := Ybaz.sizeOf9
  v9 := Ybaz.zeroValue9 }
open Go.RowKit Go.Lib in
/-- internal/stringslite.IndexByte (what strings.IndexByte calls): IT RETURNS 'Lib.indexByte s c'; the world is as it was. (LAID: no walk: one application.) -/
theorem Ybaz.stringslite_IndexByte (s : ByteArray) (c : Int) (w : World) :
    Calls Ybaz.prog 160 #[.string s, .int .u8 c] w fun e w' => e = .returned (.int .i64 (Lib.indexByte s.data.toList c.toNat.toUInt8)) ∧ w' = w := Any.stringslite_IndexByte Ybaz.lays217 s c w
def Ybaz.lays206_ren : Go.Shelf.Ren := ⟨fun | 206 => 101 | n => n, fun | 9 => 9 | 4 => 4 | 3 => 3 | n => n, fun | n => n⟩
theorem Ybaz.lays206 : Go.Proofs.Lays.n206 Ybaz.prog Ybaz.lays206_ren := {
  mixed := by kernel_rfl
  f206 := Ybaz.func101.trans (congrArg some (by kernel_rfl))
  t3 := Ybaz.underlying3
  a3 := Ybaz.isAgg3
  z3 := Ybaz.sizeOf3
  v3 := Ybaz.zeroValue3
  t4 := Ybaz.underlying4
  a4 := Ybaz.isAgg4
  z4 := Ybaz.sizeOf4
  v4 := Ybaz.zeroValue4
  t9 := Ybaz.underlying9
  a9 := Ybaz.isAgg9
  z9 := Ybaz.sizeOf9
  v9 := Ybaz.zeroValue9 }
open Go.RowKit Go.Lib in
/-- internal/stringslite.HasPrefix (what strings.HasPrefix calls). (LAID: no walk: one application.) -/
theorem Ybaz.stringslite_HasPrefix (s p : ByteArray) (w : World) :
    Calls Ybaz.prog 101 #[.string s, .string p] w fun e w' => e = .returned (.bool (Lib.hasPrefix s.data.toList p.data.toList)) ∧ w' = w := Any.stringslite_HasPrefix Ybaz.lays206 s p w
def Ybaz.lays99_ren : Go.Shelf.Ren := ⟨fun | 99 => 44 | 206 => 101 | n => n, fun | 9 => 9 | 4 => 4 | 3 => 3 | n => n, fun | n => n⟩
theorem Ybaz.lays99 : Go.Proofs.Lays.n99 Ybaz.prog Ybaz.lays99_ren := {
  mixed := by kernel_rfl
  f99 := Ybaz.func44.trans (congrArg some (by kernel_rfl))
  f206 := Ybaz.func101.trans (congrArg some (by kernel_rfl))
  t3 := Ybaz.underlying3
  a3 := Ybaz.isAgg3
  z3 := Ybaz.sizeOf3
  v3 := Ybaz.zeroValue3
  t4 := Ybaz.underlying4
  a4 := Ybaz.isAgg4
  z4 := Ybaz.sizeOf4
  v4 := Ybaz.zeroValue4
  t9 := Ybaz.underlying9
  a9 := Ybaz.isAgg9
  z9 := Ybaz.sizeOf9
  v9 := Ybaz.zeroValue9 }
open Go.RowKit Go.Lib in
/-- strings.HasPrefix: "HasPrefix reports whether the string s begins with prefix.": IT RETURNS 'Lib.hasPrefix s prefix'; the world is as it was. (LAID: no walk: one application.) -/
theorem Ybaz.strings_HasPrefix (s p : ByteArray) (w : World) :
    Calls Ybaz.prog 44 #[.string s, .string p] w fun e w' => e = .returned (.bool (Lib.hasPrefix s.data.toList p.data.toList)) ∧ w' = w := Any.strings_HasPrefix Ybaz.lays99 s p w
def Ybaz.lays264_ren : Go.Shelf.Ren := ⟨fun | 264 => 100 | n => n, fun | 53 => 32 | 46 => 163 | n => n, fun | n => n⟩
theorem Ybaz.lays264 : Go.Proofs.Lays.n264 Ybaz.prog Ybaz.lays264_ren := {
  mixed := by kernel_rfl
  f264 := Ybaz.func100.trans (congrArg some (by kernel_rfl))
  t46 := Ybaz.underlying163
  a46 := Ybaz.isAgg163
  z46 := Ybaz.sizeOf163
  v46 := Ybaz.zeroValue163
  t53 := Ybaz.underlying32
  a53 := Ybaz.isAgg32
  z53 := Ybaz.sizeOf32
  v53 := Ybaz.zeroValue32 }
open Go.RowKit Go.Lib in
theorem Ybaz.bits_Mul64 (x y : Nat) (hx : x < 18446744073709551616) (hy : y < 18446744073709551616) (w : World) :
    Calls Ybaz.prog 100 #[.int .u64 x, .int .u64 y] w fun e w' => e = .returned (.tuple #[.int .u64 ((x * y / 18446744073709551616 : Nat) : Int), .int .u64 ((x * y % 18446744073709551616 : Nat) : Int)]) ∧ w' = w := Any.bits_Mul64 Ybaz.lays264 x y hx hy w
def Ybaz.lays212_ren : Go.Shelf.Ren := ⟨fun | 212 => 43 | 263 => 99 | 264 => 100 | n => n, fun | 46 => 163 | 51 => 100 | 146 => 242 | 53 => 32 | 148 => 244 | n => n, fun | n => n⟩
theorem Ybaz.lays212 : Go.Proofs.Lays.n212 Ybaz.prog Ybaz.lays212_ren := {
  mixed := by kernel_rfl
  f212 := Ybaz.func43.trans (congrArg some (by kernel_rfl))
  f263 := Ybaz.func99.trans (congrArg some (by kernel_rfl))
  f264 := Ybaz.func100.trans (congrArg some (by kernel_rfl))
  t46 := Ybaz.underlying163
  a46 := Ybaz.isAgg163
  z46 := Ybaz.sizeOf163
  v46 := Ybaz.zeroValue163
  t51 := Ybaz.underlying100
  a51 := Ybaz.isAgg100
  z51 := Ybaz.sizeOf100
  v51 := Ybaz.zeroValue100
  t53 := Ybaz.underlying32
  a53 := Ybaz.isAgg32
  z53 := Ybaz.sizeOf32
  v53 := Ybaz.zeroValue32
  t146 := Ybaz.underlying242
  a146 := Ybaz.isAgg242
  z146 := Ybaz.sizeOf242
  v146 := Ybaz.zeroValue242
  t148 := Ybaz.underlying244
  a148 := Ybaz.isAgg244
  z148 := Ybaz.sizeOf244
  v148 := Ybaz.zeroValue244 }
open Go.RowKit Go.Lib in
/-- math/bits.Mul: "Mul returns the full-width product of x and y": on a machine of 64 bits: Mul64's. (LAID: no walk: one application.) -/
theorem Ybaz.bits_Mul (x y : Nat) (hx : x < 18446744073709551616) (hy : y < 18446744073709551616) (w : World) :
    Calls Ybaz.prog 43 #[.int .u64 x, .int .u64 y] w fun e w' => e = .returned (.tuple #[.int .u64 ((x * y / 18446744073709551616 : Nat) : Int), .int .u64 ((x * y % 18446744073709551616 : Nat) : Int)]) ∧ w' = w := Any.bits_Mul Ybaz.lays212 x y hx hy w
def Ybaz.lays105_ren : Go.Shelf.Ren := ⟨fun | 105 => 17 | 212 => 43 | 99 => 44 | 165 => 45 | 166 => 46 | 170 => 47 | 169 => 48 | 263 => 99 | 264 => 100 | 206 => 101 | 240 => 102 | 241 => 103 | 276 => 145 | 277 => 146 | n => n, fun | 9 => 9 | 3 => 3 | 4 => 4 | 20 => 20 | 0 => 0 | 46 => 163 | 109 => 164 | 5 => 5 | 72 => 169 | 76 => 173 | 51 => 100 | 146 => 242 | 53 => 32 | 148 => 244 | 70 => 167 | 37 => 54 | 75 => 172 | 127 => 246 | 164 => 95 | 80 => 149 | n => n, fun | n => n⟩
theorem Ybaz.lays105 : Go.Proofs.Lays.n105 Ybaz.prog Ybaz.lays105_ren := {
  mixed := by kernel_rfl
  f99 := Ybaz.func44.trans (congrArg some (by kernel_rfl))
  f105 := Ybaz.func17.trans (congrArg some (by kernel_rfl))
  f165 := Ybaz.func45.trans (congrArg some (by kernel_rfl))
  f166 := Ybaz.func46.trans (congrArg some (by kernel_rfl))
  f169 := Ybaz.func48.trans (congrArg some (by kernel_rfl))
  f170 := Ybaz.func47.trans (congrArg some (by kernel_rfl))
  f206 := Ybaz.func101.trans (congrArg some (by kernel_rfl))
  f212 := Ybaz.func43.trans (congrArg some (by kernel_rfl))
  f240 := Ybaz.func102.trans (congrArg some (by kernel_rfl))
  f241 := Ybaz.func103.trans (congrArg some (by kernel_rfl))
  f263 := Ybaz.func99.trans (congrArg some (by kernel_rfl))
  f264 := Ybaz.func100.trans (congrArg some (by kernel_rfl))
  f276 := Ybaz.func145.trans (congrArg some (by kernel_rfl))
  f277 := Ybaz.func146.trans (congrArg some (by kernel_rfl))
  t0 := Ybaz.underlying0
  a0 := Ybaz.isAgg0
  z0 := Ybaz.sizeOf0
  v0 := Ybaz.zeroValue0
  t3 := Ybaz.underlying3
  a3 := Ybaz.isAgg3
  z3 := Ybaz.sizeOf3
  v3 := Ybaz.zeroValue3
  t4 := Ybaz.underlying4
  a4 := Ybaz.isAgg4
  z4 := Ybaz.sizeOf4
  v4 := Ybaz.zeroValue4
  t5 := Ybaz.underlying5
  a5 := Ybaz.isAgg5
  z5 := Ybaz.sizeOf5
  v5 := Ybaz.zeroValue5
  t9 := Ybaz.underlying9
  a9 := Ybaz.isAgg9
  z9 := Ybaz.sizeOf9
  v9 := Ybaz.zeroValue9
  t20 := Ybaz.underlying20
  a20 := Ybaz.isAgg20
  z20 := Ybaz.sizeOf20
  v20 := Ybaz.zeroValue20
  t37 := Ybaz.underlying54
  a37 := Ybaz.isAgg54
  z37 := Ybaz.sizeOf54
  v37 := Ybaz.zeroValue54
  t46 := Ybaz.underlying163
  a46 := Ybaz.isAgg163
  z46 := Ybaz.sizeOf163
  v46 := Ybaz.zeroValue163
  t51 := Ybaz.underlying100
  a51 := Ybaz.isAgg100
  z51 := Ybaz.sizeOf100
  v51 := Ybaz.zeroValue100
  t53 := Ybaz.underlying32
  a53 := Ybaz.isAgg32
  z53 := Ybaz.sizeOf32
  v53 := Ybaz.zeroValue32
  t70 := Ybaz.underlying167
  a70 := Ybaz.isAgg167
  z70 := Ybaz.sizeOf167
  v70 := Ybaz.zeroValue167
  t72 := Ybaz.underlying169
  a72 := Ybaz.isAgg169
  z72 := Ybaz.sizeOf169
  v72 := Ybaz.zeroValue169
  t75 := Ybaz.underlying172
  a75 := Ybaz.isAgg172
  z75 := Ybaz.sizeOf172
  v75 := Ybaz.zeroValue172
  t76 := Ybaz.underlying173
  a76 := Ybaz.isAgg173
  z76 := Ybaz.sizeOf173
  v76 := Ybaz.zeroValue173
  t109 := Ybaz.underlying164
  a109 := Ybaz.isAgg164
  z109 := Ybaz.sizeOf164
  v109 := Ybaz.zeroValue164
  t127 := Ybaz.underlying246
  a127 := Ybaz.isAgg246
  z127 := Ybaz.sizeOf246
  v127 := Ybaz.zeroValue246
  t146 := Ybaz.underlying242
  a146 := Ybaz.isAgg242
  z146 := Ybaz.sizeOf242
  v146 := Ybaz.zeroValue242
  t148 := Ybaz.underlying244
  a148 := Ybaz.isAgg244
  z148 := Ybaz.sizeOf244
  v148 := Ybaz.zeroValue244
  t164 := Ybaz.underlying95
  a164 := Ybaz.isAgg95
  z164 := Ybaz.sizeOf95
  v164 := Ybaz.zeroValue95 }
theorem Ybaz.Builder_Extra_105 : Builder.Extra Ybaz.prog Ybaz.lays105_ren := {
  sizeBuilder := by kernel_rfl
  liesBuilder := by kernel_rfl
  t5 := Ybaz.underlying5
  a5 := Ybaz.isAgg5
  z5 := Ybaz.sizeOf5
  v5 := Ybaz.zeroValue5
  infoByte := by kernel_rfl
  cellsByte := by kernel_rfl
  sizeByte := by kernel_rfl
  neB5 := by decide }
open Go.RowKit Go.Lib in
/-- THE MAIN CASE: at least two copies of a string that is not empty. (LAID: no walk: one application.) -/
theorem Ybaz.strings_Repeat_main (s : ByteArray) (c : Nat) (w : World) (hc2 : 2 ≤ c) (hc : c ≤ 9223372036854775807) (hlen : s.size * c ≤ 140737488355328) (h0 : 0 < s.size) :
    Calls Ybaz.prog 17 #[.string s, .int .i64 c] w fun e w' => e = .returned (.string ⟨(Lib.repeatL s.data.toList c).toArray⟩) ∧ Below w.heap.size w w' := Any.strings_Repeat_main Ybaz.lays105 Ybaz.Builder_Extra_105 s c w hc2 hc hlen h0
open Go.RowKit Go.Lib in
theorem Ybaz.strings_Repeat_zero (s : ByteArray) (w : World) :
    Calls Ybaz.prog 17 #[.string s, .int .i64 0] w fun e w' => e = .returned (.string ⟨#[]⟩) ∧ w' = w := Any.strings_Repeat_zero Ybaz.lays105 s w
open Go.RowKit Go.Lib in
theorem Ybaz.strings_Repeat_one (s : ByteArray) (w : World) :
    Calls Ybaz.prog 17 #[.string s, .int .i64 1] w fun e w' => e = .returned (.string s) ∧ w' = w := Any.strings_Repeat_one Ybaz.lays105 s w
open Go.RowKit Go.Lib in
/-- Copies of the empty string. (LAID: no walk: one application.) -/
theorem Ybaz.strings_Repeat_empty (s : ByteArray) (c : Nat) (w : World) (hc2 : 2 ≤ c) (hc : c ≤ 9223372036854775807) (h0 : s.size = 0) :
    Calls Ybaz.prog 17 #[.string s, .int .i64 c] w fun e w' => e = .returned (.string ⟨#[]⟩) ∧ w' = w := Any.strings_Repeat_empty Ybaz.lays105 s c w hc2 hc h0
open Go.RowKit Go.Lib in
/-- count < 0: "It panics if count is negative". (LAID: no walk: one application.) -/
theorem Ybaz.strings_Repeat_negative (s : ByteArray) (c : Int) (w : World) (hc : c < 0) :
    Calls Ybaz.prog 17 #[.string s, .int .i64 c] w fun e w' => e = .panicked [{ v := repeatPanic Ybaz.lays105_ren "strings: negative Repeat count", recovered := false }] ∧ w' = w := Any.strings_Repeat_negative Ybaz.lays105 s c w hc
open Go.RowKit Go.Lib in
/-- len(s) * count is no int: ".. or if the result of (len(s) * count) overflows". (LAID: no walk: one application.) -/
theorem Ybaz.strings_Repeat_overflow (s : ByteArray) (c : Nat) (w : World) (hc : c ≤ 9223372036854775807) (hs : s.size ≤ 9223372036854775807) (hbig : 9223372036854775807 < s.size * c) :
    Calls Ybaz.prog 17 #[.string s, .int .i64 c] w fun e w' => e = .panicked [{ v := repeatPanic Ybaz.lays105_ren "strings: Repeat output length overflow", recovered := false }] ∧ w' = w := Any.strings_Repeat_overflow Ybaz.lays105 s c w hc hs hbig
open Go.RowKit Go.Lib in
/-- **strings.Repeat: count ≥ 0, the result within one allocation: count copies of s.** (LAID: no walk: one application.) -/
theorem Ybaz.strings_Repeat (s : ByteArray) (c : Nat) (w : World) (hc : c ≤ 9223372036854775807) (hlen : s.size * c ≤ 140737488355328) :
    Calls Ybaz.prog 17 #[.string s, .int .i64 c] w fun e w' => e = .returned (.string ⟨(Lib.repeatL s.data.toList c).toArray⟩) ∧ Below w.heap.size w w' := Any.strings_Repeat Ybaz.lays105 Ybaz.Builder_Extra_105 s c w hc hlen
def Ybaz.lays260_ren : Go.Shelf.Ren := ⟨fun | 260 => 185 | n => n, fun | 9 => 9 | 21 => 21 | 3 => 3 | 4 => 4 | 5 => 5 | 119 => 359 | 0 => 0 | 46 => 163 | 139 => 362 | 138 => 361 | n => n, fun | 3 => 5 | 4 => 6 | n => n⟩
theorem Ybaz.lays260 : Go.Proofs.Lays.n260 Ybaz.prog Ybaz.lays260_ren := {
  mixed := by kernel_rfl
  f260 := Ybaz.func185.trans (congrArg some (by kernel_rfl))
  t0 := Ybaz.underlying0
  a0 := Ybaz.isAgg0
  z0 := Ybaz.sizeOf0
  v0 := Ybaz.zeroValue0
  t3 := Ybaz.underlying3
  a3 := Ybaz.isAgg3
  z3 := Ybaz.sizeOf3
  v3 := Ybaz.zeroValue3
  t4 := Ybaz.underlying4
  a4 := Ybaz.isAgg4
  z4 := Ybaz.sizeOf4
  v4 := Ybaz.zeroValue4
  t5 := Ybaz.underlying5
  a5 := Ybaz.isAgg5
  z5 := Ybaz.sizeOf5
  v5 := Ybaz.zeroValue5
  t9 := Ybaz.underlying9
  a9 := Ybaz.isAgg9
  z9 := Ybaz.sizeOf9
  v9 := Ybaz.zeroValue9
  t21 := Ybaz.underlying21
  a21 := Ybaz.isAgg21
  z21 := Ybaz.sizeOf21
  v21 := Ybaz.zeroValue21
  t46 := Ybaz.underlying163
  a46 := Ybaz.isAgg163
  z46 := Ybaz.sizeOf163
  v46 := Ybaz.zeroValue163
  t119 := Ybaz.underlying359
  a119 := Ybaz.isAgg359
  z119 := Ybaz.sizeOf359
  t138 := Ybaz.underlying361
  a138 := Ybaz.isAgg361
  z138 := Ybaz.sizeOf361
  v138 := Ybaz.zeroValue361
  t139 := Ybaz.underlying362
  a139 := Ybaz.isAgg362
  z139 := Ybaz.sizeOf362
  v139 := Ybaz.zeroValue362
  g3 := by kernel_rfl
  g4 := by kernel_rfl }
open Go.RowKit Go.Lib in
theorem Ybaz.utf8_decodeRuneInStringSlow (s : ByteArray) (w : World) (hT : Lib.Utf8Tabs 5 6 w) :
    Calls Ybaz.prog 185 #[.string s] w fun e w' => e = .returned (.tuple #[.int .i32 (Lib.decodeGo s).1, .int .i64 (Lib.decodeGo s).2]) ∧ Below w.heap.size w w' := Any.utf8_decodeRuneInStringSlow Ybaz.lays260 s w hT
def Ybaz.lays197_ren : Go.Shelf.Ren := ⟨fun | 197 => 147 | 260 => 185 | n => n, fun | 9 => 9 | 21 => 21 | 3 => 3 | 4 => 4 | 5 => 5 | 105 => 292 | 119 => 359 | 0 => 0 | 46 => 163 | 139 => 362 | 138 => 361 | n => n, fun | 3 => 5 | 4 => 6 | n => n⟩
theorem Ybaz.lays197 : Go.Proofs.Lays.n197 Ybaz.prog Ybaz.lays197_ren := {
  mixed := by kernel_rfl
  f197 := Ybaz.func147.trans (congrArg some (by kernel_rfl))
  f260 := Ybaz.func185.trans (congrArg some (by kernel_rfl))
  t0 := Ybaz.underlying0
  a0 := Ybaz.isAgg0
  z0 := Ybaz.sizeOf0
  v0 := Ybaz.zeroValue0
  t3 := Ybaz.underlying3
  a3 := Ybaz.isAgg3
  z3 := Ybaz.sizeOf3
  v3 := Ybaz.zeroValue3
  t4 := Ybaz.underlying4
  a4 := Ybaz.isAgg4
  z4 := Ybaz.sizeOf4
  v4 := Ybaz.zeroValue4
  t5 := Ybaz.underlying5
  a5 := Ybaz.isAgg5
  z5 := Ybaz.sizeOf5
  v5 := Ybaz.zeroValue5
  t9 := Ybaz.underlying9
  a9 := Ybaz.isAgg9
  z9 := Ybaz.sizeOf9
  v9 := Ybaz.zeroValue9
  t21 := Ybaz.underlying21
  a21 := Ybaz.isAgg21
  z21 := Ybaz.sizeOf21
  v21 := Ybaz.zeroValue21
  t46 := Ybaz.underlying163
  a46 := Ybaz.isAgg163
  z46 := Ybaz.sizeOf163
  v46 := Ybaz.zeroValue163
  t105 := Ybaz.underlying292
  a105 := Ybaz.isAgg292
  z105 := Ybaz.sizeOf292
  v105 := Ybaz.zeroValue292
  t119 := Ybaz.underlying359
  a119 := Ybaz.isAgg359
  z119 := Ybaz.sizeOf359
  t138 := Ybaz.underlying361
  a138 := Ybaz.isAgg361
  z138 := Ybaz.sizeOf361
  v138 := Ybaz.zeroValue361
  t139 := Ybaz.underlying362
  a139 := Ybaz.isAgg362
  z139 := Ybaz.sizeOf362
  v139 := Ybaz.zeroValue362
  g3 := by kernel_rfl
  g4 := by kernel_rfl }
open Go.RowKit Go.Lib in
/-- **unicode/utf8.DecodeRuneInString AT EVERY STRING.** (LAID: no walk: one application.) -/
theorem Ybaz.utf8_DecodeRuneInString (s : ByteArray) (w : World) (hT : Lib.Utf8Tabs 5 6 w) :
    Calls Ybaz.prog 147 #[.string s] w fun e w' => e = .returned (.tuple #[.int .i32 (Lib.decodeGo s).1, .int .i64 (Lib.decodeGo s).2]) ∧ Below w.heap.size w w' := Any.utf8_DecodeRuneInString Ybaz.lays197 s w hT
def Ybaz.lays112_ren : Go.Shelf.Ren := ⟨fun | 112 => 222 | n => n, fun | 28 => 23 | 3 => 3 | 4 => 4 | 0 => 0 | n => n, fun | n => n⟩
theorem Ybaz.lays112 : Go.Proofs.Lays.n112 Ybaz.prog Ybaz.lays112_ren := {
  mixed := by kernel_rfl
  f112 := Ybaz.func222.trans (congrArg some (by kernel_rfl))
  t0 := Ybaz.underlying0
  a0 := Ybaz.isAgg0
  z0 := Ybaz.sizeOf0
  v0 := Ybaz.zeroValue0
  t3 := Ybaz.underlying3
  a3 := Ybaz.isAgg3
  z3 := Ybaz.sizeOf3
  v3 := Ybaz.zeroValue3
  t4 := Ybaz.underlying4
  a4 := Ybaz.isAgg4
  z4 := Ybaz.sizeOf4
  v4 := Ybaz.zeroValue4
  t28 := Ybaz.underlying23
  a28 := Ybaz.isAgg23
  z28 := Ybaz.sizeOf23
  v28 := Ybaz.zeroValue23 }
open Go.RowKit Go.Lib Go.Sort in
/-- slices.Reverse at []int, over an array: Go's loop from the two ends inward is walked; it makes 'Sort.reverseLoop 0 (len - 1)', which is 'Array.reverse' (Derived/Lib/SlicesMore.lean). (LAID: no walk: one application.) -/
theorem Ybaz.slices_Reverse_int_arr (blk off cap : Nat) (d : Array Int) (w : World) (hH : Holds encI w blk off d) (hsz : d.size ≤ 9223372036854775807) :
    Calls Ybaz.prog 222 #[.slice (some ⟨blk, off, none⟩) d.size cap] w fun e w' => e = .returned (.tuple #[]) ∧ ∃ n, w' = putRow encI (Sort.ahead w n) blk off d.reverse := Any.slices_Reverse_int_arr Ybaz.lays112 blk off cap d w hH hsz
open Go.RowKit Go.Lib Go.Sort in
/-- slices.Reverse at []int: "Reverse reverses the elements of the slice in place.": THE SLICE's CELLS HOLD 'zs.reverse' BEHIND THE CALL; all else is as it was, but for the count of draws (the exchange 's[i], s[j] = s[j], s[i]' draws its order, once a round). IN THE WORDS OF slices.Sort's CONTRACT: 'Holds': the cells hold zs and none is frozen; 'putRow': the world with those cells holding another array. A slice of length 0 that is not nil is among them ('zs = []'); nil: '.._nil'. (LAID: no walk: one application.) -/
theorem Ybaz.slices_Reverse_int (blk off cap : Nat) (zs : List Int) (w : World) (hH : Holds (Value.int .i64) w blk off zs.toArray) (hsz : zs.length ≤ 9223372036854775807) :
    Calls Ybaz.prog 222 #[.slice (some ⟨blk, off, none⟩) zs.length cap] w fun e w' => e = .returned (.tuple #[]) ∧ ∃ n, w' = putRow (Value.int .i64) (Sort.ahead w n) blk off zs.reverse.toArray := Any.slices_Reverse_int Ybaz.lays112 blk off cap zs w hH hsz
open Go.RowKit Go.Lib Go.Sort in
/-- The same at a slice of length 0, a nil one too: nothing is read, nothing written, nothing drawn. (LAID: no walk: one application.) -/
theorem Ybaz.slices_Reverse_int_empty (a : Option Addr) (cap : Nat) (w : World) :
    Calls Ybaz.prog 222 #[.slice a 0 cap] w fun e w' => e = .returned (.tuple #[]) ∧ w' = w := Any.slices_Reverse_int_empty Ybaz.lays112 a cap w
def Ybaz.lays193_ren : Go.Shelf.Ren := ⟨fun | 193 => 10 | n => n, fun | 31 => 22 | 9 => 9 | 4 => 4 | 3 => 3 | 0 => 0 | n => n, fun | n => n⟩
theorem Ybaz.lays193 : Go.Proofs.Lays.n193 Ybaz.prog Ybaz.lays193_ren := {
  mixed := by kernel_rfl
  f193 := Ybaz.func10.trans (congrArg some (by kernel_rfl))
  t0 := Ybaz.underlying0
  a0 := Ybaz.isAgg0
  z0 := Ybaz.sizeOf0
  v0 := Ybaz.zeroValue0
  t3 := Ybaz.underlying3
  a3 := Ybaz.isAgg3
  z3 := Ybaz.sizeOf3
  v3 := Ybaz.zeroValue3
  t4 := Ybaz.underlying4
  a4 := Ybaz.isAgg4
  z4 := Ybaz.sizeOf4
  v4 := Ybaz.zeroValue4
  t9 := Ybaz.underlying9
  a9 := Ybaz.isAgg9
  z9 := Ybaz.sizeOf9
  v9 := Ybaz.zeroValue9
  t31 := Ybaz.underlying22
  a31 := Ybaz.isAgg22
  z31 := Ybaz.sizeOf22
  v31 := Ybaz.zeroValue22 }
open Go.RowKit Go.Lib in
/-- slices.Equal at []string: "Equal reports whether two slices are equal: the same length and all elements equal. If the lengths are different, Equal returns false. Otherwise, the elements are compared in increasing index order, and the comparison stops at the first unequal pair. Empty and nil slices are considered equal.": IT RETURNS WHETHER THE TWO LISTS OF ELEMENTS ARE ONE; the world is as it was but for the count of draws (the test 's1[i] != s2[i]' has two reads, whose order the model draws, once a round). 'xs', 'ys': what the cells behind the two addresses hold (the spare capacity too, if you have it); 'xs.take n', 'ys.take m': the elements. THE TWO SLICES MAY OVERLAP. (LAID: no walk: one application.) -/
theorem Ybaz.slices_Equal_string (b1 o1 n c b2 o2 m d : Nat) (xs ys : List ByteArray) (w : World) (hx : n ≤ xs.length) (hy : m ≤ ys.length) (hbig : n ≤ 9223372036854775807) (hbig2 : m ≤ 9223372036854775807) (hc1 : ∀ j, j < xs.length → w.cell? ⟨b1, o1 + j, none⟩ = some (.string (xs.getD j ByteArray.empty))) (hc2 : ∀ j, j < ys.length → w.cell? ⟨b2, o2 + j, none⟩ = some (.string (ys.getD j ByteArray.empty))) :
    Calls Ybaz.prog 10 #[.slice (some ⟨b1, o1, none⟩) n c, .slice (some ⟨b2, o2, none⟩) m d] w fun e w' => e = .returned (.bool (decide (xs.take n = ys.take m))) ∧ ∃ q, w' = w.drewN q := Any.slices_Equal_string Ybaz.lays193 b1 o1 n c b2 o2 m d xs ys w hx hy hbig hbig2 hc1 hc2
open Go.RowKit Go.Lib in
/-- The same where the first is of length 0 (a nil one too): no cell is asked for. (LAID: no walk: one application.) -/
theorem Ybaz.slices_Equal_string_empty (a1 a2 : Option Addr) (c m d : Nat) (w : World) (hbig2 : m ≤ 9223372036854775807) :
    Calls Ybaz.prog 10 #[.slice a1 0 c, .slice a2 m d] w fun e w' => e = .returned (.bool (decide (m = 0))) ∧ w' = w := Any.slices_Equal_string_empty Ybaz.lays193 a1 a2 c m d w hbig2
def Ybaz.laysNm215_ren : Go.Shelf.Ren := ⟨fun | 15 => 116 | n => n, fun | 22 => 23 | 3 => 3 | 4 => 4 | n => n, fun | n => n⟩
theorem Ybaz.laysNm215 : Go.Proofs.Lays2.n15 Ybaz.prog Ybaz.laysNm215_ren := {
  mixed := by kernel_rfl
  f15 := Ybaz.func116.trans (congrArg some (by kernel_rfl))
  t3 := Ybaz.underlying3
  a3 := Ybaz.isAgg3
  z3 := Ybaz.sizeOf3
  v3 := Ybaz.zeroValue3
  t4 := Ybaz.underlying4
  a4 := Ybaz.isAgg4
  z4 := Ybaz.sizeOf4
  v4 := Ybaz.zeroValue4
  t22 := Ybaz.underlying23
  a22 := Ybaz.isAgg23
  z22 := Ybaz.sizeOf23
  v22 := Ybaz.zeroValue23
  i3 := by kernel_rfl }
open Go.RowKit Go.Lib in
/-- slices.Clone at []int: "Clone returns a copy of the slice. The elements are copied using assignment, so this is a shallow clone. The result may have additional unused capacity. The result preserves the nilness of s.": OF A SLICE THAT IS NOT nil IT RETURNS A SLICE THAT IS NOT nil, OF THE SAME ELEMENTS, IN MEMORY OF THE CALL's OWN: in the how-to's words (6f): 'w'.ownsRow B e 1 v' n cells': v' begins at the head of a row among the blocks from B on (B: the heap's size at the call), not frozen, whose first cells are the elements · 'Below B w w'': below B all is as it was. The capacity is whatever the run-time gives. 'zs': what the cells behind the slice's address hold; 'zs.take n': its elements. (LAID: no walk: one application.) -/
theorem Ybaz.slices_Clone_int (b off n c : Nat) (zs : List Int) (w : World) (hz : n ≤ zs.length) (hbig : n * 8 ≤ 140737488355328) (hc : ∀ j, j < zs.length → w.cell? ⟨b, off + j, none⟩ = some (.int .i64 (zs.getD j 0))) :
    Calls Ybaz.prog 116 #[.slice (some ⟨b, off, none⟩) n c] w fun e w' => ∃ v', e = .returned v' ∧ w'.ownsRow w.heap.size 3 1 v' n ((zs.take n).map (Value.int .i64)) ∧ v' ≠ .slice none 0 0 ∧ Below w.heap.size w w' := Any.slices_Clone_int Ybaz.laysNm215 b off n c zs w hz hbig hc
open Go.RowKit Go.Lib in
/-- The same at nil: nil comes back; the world is as it was. (LAID: no walk: one application.) -/
theorem Ybaz.slices_Clone_int_nil (n c : Nat) (w : World) :
    Calls Ybaz.prog 116 #[.slice none n c] w fun e w' => e = .returned (.slice none 0 0) ∧ w' = w := Any.slices_Clone_int_nil Ybaz.laysNm215 n c w
def Ybaz.laysNm216_ren : Go.Shelf.Ren := ⟨fun | 16 => 27 | n => n, fun | 24 => 22 | 9 => 9 | 4 => 4 | n => n, fun | n => n⟩
theorem Ybaz.laysNm216 : Go.Proofs.Lays2.n16 Ybaz.prog Ybaz.laysNm216_ren := {
  mixed := by kernel_rfl
  f16 := Ybaz.func27.trans (congrArg some (by kernel_rfl))
  t4 := Ybaz.underlying4
  a4 := Ybaz.isAgg4
  z4 := Ybaz.sizeOf4
  v4 := Ybaz.zeroValue4
  t9 := Ybaz.underlying9
  a9 := Ybaz.isAgg9
  z9 := Ybaz.sizeOf9
  v9 := Ybaz.zeroValue9
  t24 := Ybaz.underlying22
  a24 := Ybaz.isAgg22
  z24 := Ybaz.sizeOf22
  v24 := Ybaz.zeroValue22
  i9 := by kernel_rfl }
open Go.RowKit Go.Lib in
/-- slices.Clone at []string: "Clone returns a copy of the slice. The elements are copied using assignment, so this is a shallow clone. The result may have additional unused capacity. The result preserves the nilness of s.": OF A SLICE THAT IS NOT nil IT RETURNS A SLICE THAT IS NOT nil, OF THE SAME ELEMENTS, IN MEMORY OF THE CALL's OWN: in the how-to's words (6f): 'w'.ownsRow B e 1 v' n cells': v' begins at the head of a row among the blocks from B on (B: the heap's size at the call), not frozen, whose first cells are the elements · 'Below B w w'': below B all is as it was. The capacity is whatever the run-time gives. 'zs': what the cells behind the slice's address hold; 'zs.take n': its elements. (LAID: no walk: one application.) -/
theorem Ybaz.slices_Clone_string (b off n c : Nat) (zs : List ByteArray) (w : World) (hz : n ≤ zs.length) (hbig : n * 16 ≤ 140737488355328) (hc : ∀ j, j < zs.length → w.cell? ⟨b, off + j, none⟩ = some (.string (zs.getD j ByteArray.empty))) :
    Calls Ybaz.prog 27 #[.slice (some ⟨b, off, none⟩) n c] w fun e w' => ∃ v', e = .returned v' ∧ w'.ownsRow w.heap.size 9 1 v' n ((zs.take n).map (Value.string)) ∧ v' ≠ .slice none 0 0 ∧ Below w.heap.size w w' := Any.slices_Clone_string Ybaz.laysNm216 b off n c zs w hz hbig hc
open Go.RowKit Go.Lib in
/-- The same at nil: nil comes back; the world is as it was. (LAID: no walk: one application.) -/
theorem Ybaz.slices_Clone_string_nil (n c : Nat) (w : World) :
    Calls Ybaz.prog 27 #[.slice none n c] w fun e w' => e = .returned (.slice none 0 0) ∧ w' = w := Any.slices_Clone_string_nil Ybaz.laysNm216 n c w
open Go.RowKit Go.Lib in
/-- The same at a slice of length 0 that is not nil, WHATEVER ITS ADDRESS (no cell is asked for): a slice that is not nil and owns nothing comes back. (LAID: no walk: one application.) -/
theorem Ybaz.slices_Clone_int_zero (a : Addr) (c : Nat) (w : World) :
    Calls Ybaz.prog 116 #[.slice (some a) 0 c] w fun e w' => ∃ v', e = .returned v' ∧ w'.ownsRow w.heap.size 3 1 v' 0 [] ∧ v' ≠ .slice none 0 0 ∧ Below w.heap.size w w' := Any.slices_Clone_int_zero Ybaz.laysNm215 a c w
open Go.RowKit Go.Lib in
/-- The same at a slice of length 0 that is not nil, WHATEVER ITS ADDRESS (no cell is asked for): a slice that is not nil and owns nothing comes back. (LAID: no walk: one application.) -/
theorem Ybaz.slices_Clone_string_zero (a : Addr) (c : Nat) (w : World) :
    Calls Ybaz.prog 27 #[.slice (some a) 0 c] w fun e w' => ∃ v', e = .returned v' ∧ w'.ownsRow w.heap.size 9 1 v' 0 [] ∧ v' ≠ .slice none 0 0 ∧ Below w.heap.size w w' := Any.slices_Clone_string_zero Ybaz.laysNm216 a c w
def Ybaz.laysNm220_ren : Go.Shelf.Ren := ⟨fun | 20 => 38 | n => n, fun | 22 => 23 | 3 => 3 | 4 => 4 | 0 => 0 | n => n, fun | n => n⟩
theorem Ybaz.laysNm220 : Go.Proofs.Lays2.n20 Ybaz.prog Ybaz.laysNm220_ren := {
  mixed := by kernel_rfl
  f20 := Ybaz.func38.trans (congrArg some (by kernel_rfl))
  t0 := Ybaz.underlying0
  a0 := Ybaz.isAgg0
  z0 := Ybaz.sizeOf0
  v0 := Ybaz.zeroValue0
  t3 := Ybaz.underlying3
  a3 := Ybaz.isAgg3
  z3 := Ybaz.sizeOf3
  v3 := Ybaz.zeroValue3
  t4 := Ybaz.underlying4
  a4 := Ybaz.isAgg4
  z4 := Ybaz.sizeOf4
  v4 := Ybaz.zeroValue4
  t22 := Ybaz.underlying23
  a22 := Ybaz.isAgg23
  z22 := Ybaz.sizeOf23
  v22 := Ybaz.zeroValue23
  i3 := by kernel_rfl }
open Go.RowKit Go.Lib Go.Sort in
/-- slices.Compact at []int, over an array: the library's two loops are walked. (LAID: no walk: one application.) -/
theorem Ybaz.slices_Compact_int_arr (blk off cap : Nat) (d : Array Int) (w : World) (hH : Holds encI w blk off d) (hsz : d.size ≤ 9223372036854775807) (hcap : d.size ≤ cap) :
    Calls Ybaz.prog 38 #[.slice (some ⟨blk, off, none⟩) d.size cap] w fun e w' => e = .returned (.slice (some ⟨blk, off, none⟩) (compactUpTo d d.size).length cap) ∧ ∃ q, w' = putRow encI (Sort.ahead w q) blk off (compactUpTo d d.size ++ List.replicate (d.size - (compactUpTo d d.size).length) 0).toArray := Any.slices_Compact_int_arr Ybaz.laysNm220 blk off cap d w hH hsz hcap
open Go.RowKit Go.Lib Go.Sort in
/-- slices.Compact at []int: "Compact replaces consecutive runs of equal elements with a single copy. This is like the uniq command found on Unix. Compact modifies the contents of the slice s and returns the modified slice, which may have a smaller length. Compact zeroes the elements between the new length and the original length. The result preserves the nilness of s.": IT RETURNS THE SLICE CUT TO 'Lib.compact zs'; ITS CELLS HOLD 'Lib.compact zs', THEN ZERO VALUES up to the old length; all else is as it was, but for the count of draws. IN THE WORDS OF slices.Sort's CONTRACT ('Holds', 'putRow'): so the everyday 'slices.Sort(xs); xs = slices.Compact(xs)' goes from the one contract to the other. It asks 'zs.length ≤ cap' (every slice's: the reslicing 's[:k]' looks at it). Length 0, nil: '.._empty'. (LAID: no walk: one application.) -/
theorem Ybaz.slices_Compact_int (blk off cap : Nat) (zs : List Int) (w : World) (hH : Holds (Value.int .i64) w blk off zs.toArray) (hsz : zs.length ≤ 9223372036854775807) (hcap : zs.length ≤ cap) :
    Calls Ybaz.prog 38 #[.slice (some ⟨blk, off, none⟩) zs.length cap] w fun e w' => e = .returned (.slice (some ⟨blk, off, none⟩) (Lib.compact zs).length cap) ∧ ∃ q, w' = putRow (Value.int .i64) (Sort.ahead w q) blk off (Lib.compact zs ++ List.replicate (zs.length - (Lib.compact zs).length) 0).toArray := Any.slices_Compact_int Ybaz.laysNm220 blk off cap zs w hH hsz hcap
open Go.RowKit Go.Lib Go.Sort in
/-- The same at a slice of length 0, a nil one too: it comes back as it is. (LAID: no walk: one application.) -/
theorem Ybaz.slices_Compact_int_empty (a : Option Addr) (cap : Nat) (w : World) :
    Calls Ybaz.prog 38 #[.slice a 0 cap] w fun e w' => e = .returned (.slice a 0 cap) ∧ w' = w := Any.slices_Compact_int_empty Ybaz.laysNm220 a cap w
def Ybaz.lays194_ren : Go.Shelf.Ren := ⟨fun | 194 => 16 | n => n, fun | 31 => 22 | 9 => 9 | 3 => 3 | 4 => 4 | 0 => 0 | n => n, fun | n => n⟩
theorem Ybaz.lays194 : Go.Proofs.Lays.n194 Ybaz.prog Ybaz.lays194_ren := {
  mixed := by kernel_rfl
  f194 := Ybaz.func16.trans (congrArg some (by kernel_rfl))
  t0 := Ybaz.underlying0
  a0 := Ybaz.isAgg0
  z0 := Ybaz.sizeOf0
  v0 := Ybaz.zeroValue0
  t3 := Ybaz.underlying3
  a3 := Ybaz.isAgg3
  z3 := Ybaz.sizeOf3
  v3 := Ybaz.zeroValue3
  t4 := Ybaz.underlying4
  a4 := Ybaz.isAgg4
  z4 := Ybaz.sizeOf4
  v4 := Ybaz.zeroValue4
  t9 := Ybaz.underlying9
  a9 := Ybaz.isAgg9
  z9 := Ybaz.sizeOf9
  v9 := Ybaz.zeroValue9
  t31 := Ybaz.underlying22
  a31 := Ybaz.isAgg22
  z31 := Ybaz.sizeOf22
  v31 := Ybaz.zeroValue22 }
open Go.RowKit Go.Lib Go.Sort in
/-- slices.Compact at []string, over an array: the library's two loops are walked. (LAID: no walk: one application.) -/
theorem Ybaz.slices_Compact_string_arr (blk off cap : Nat) (d : Array (List UInt8)) (w : World) (hH : Holds encStr w blk off d) (hsz : d.size ≤ 9223372036854775807) (hcap : d.size ≤ cap) :
    Calls Ybaz.prog 16 #[.slice (some ⟨blk, off, none⟩) d.size cap] w fun e w' => e = .returned (.slice (some ⟨blk, off, none⟩) (compactUpTo d d.size).length cap) ∧ ∃ q, w' = putRow encStr (Sort.ahead w q) blk off (compactUpTo d d.size ++ List.replicate (d.size - (compactUpTo d d.size).length) []).toArray := Any.slices_Compact_string_arr Ybaz.lays194 blk off cap d w hH hsz hcap
open Go.RowKit Go.Lib Go.Sort in
/-- slices.Compact at []string: "Compact replaces consecutive runs of equal elements with a single copy. This is like the uniq command found on Unix. Compact modifies the contents of the slice s and returns the modified slice, which may have a smaller length. Compact zeroes the elements between the new length and the original length. The result preserves the nilness of s.": IT RETURNS THE SLICE CUT TO 'Lib.compact zs'; ITS CELLS HOLD 'Lib.compact zs', THEN ZERO VALUES up to the old length; all else is as it was, but for the count of draws. IN THE WORDS OF slices.Sort's CONTRACT ('Holds', 'putRow'): so the everyday 'slices.Sort(xs); xs = slices.Compact(xs)' goes from the one contract to the other. It asks 'zs.length ≤ cap' (every slice's: the reslicing 's[:k]' looks at it). Length 0, nil: '.._empty'. (LAID: no walk: one application.) -/
theorem Ybaz.slices_Compact_string (blk off cap : Nat) (zs : List (List UInt8)) (w : World) (hH : Holds encStr w blk off zs.toArray) (hsz : zs.length ≤ 9223372036854775807) (hcap : zs.length ≤ cap) :
    Calls Ybaz.prog 16 #[.slice (some ⟨blk, off, none⟩) zs.length cap] w fun e w' => e = .returned (.slice (some ⟨blk, off, none⟩) (Lib.compact zs).length cap) ∧ ∃ q, w' = putRow encStr (Sort.ahead w q) blk off (Lib.compact zs ++ List.replicate (zs.length - (Lib.compact zs).length) []).toArray := Any.slices_Compact_string Ybaz.lays194 blk off cap zs w hH hsz hcap
open Go.RowKit Go.Lib Go.Sort in
/-- The same at a slice of length 0, a nil one too: it comes back as it is. (LAID: no walk: one application.) -/
theorem Ybaz.slices_Compact_string_empty (a : Option Addr) (cap : Nat) (w : World) :
    Calls Ybaz.prog 16 #[.slice a 0 cap] w fun e w' => e = .returned (.slice a 0 cap) ∧ w' = w := Any.slices_Compact_string_empty Ybaz.lays194 a cap w
def Ybaz.laysNm237_ren : Go.Shelf.Ren := ⟨fun | 37 => 186 | n => n, fun | 3 => 3 | 4 => 4 | n => n, fun | n => n⟩
theorem Ybaz.laysNm237 : Go.Proofs.Lays2.n37 Ybaz.prog Ybaz.laysNm237_ren := {
  mixed := by kernel_rfl
  f37 := Ybaz.func186.trans (congrArg some (by kernel_rfl))
  t3 := Ybaz.underlying3
  a3 := Ybaz.isAgg3
  z3 := Ybaz.sizeOf3
  v3 := Ybaz.zeroValue3
  t4 := Ybaz.underlying4
  a4 := Ybaz.isAgg4
  z4 := Ybaz.sizeOf4
  v4 := Ybaz.zeroValue4 }
open Go.RowKit Go.Lib in
/-- cmp.isNaN[int]: 'x != x': false. (LAID: no walk: one application.) -/
theorem Ybaz.cmp_isNaN_int2 (x : Int) (w : World) :
    Calls Ybaz.prog 186 #[.int .i64 x] w fun e w' => e = .returned (.bool false) ∧ w' = w := Any.cmp_isNaN_int2 Ybaz.laysNm237 x w
def Ybaz.laysNm232_ren : Go.Shelf.Ren := ⟨fun | 32 => 150 | n => n, fun | 3 => 3 | 4 => 4 | n => n, fun | n => n⟩
theorem Ybaz.laysNm232 : Go.Proofs.Lays2.n32 Ybaz.prog Ybaz.laysNm232_ren := {
  mixed := by kernel_rfl
  f32 := Ybaz.func150.trans (congrArg some (by kernel_rfl))
  t3 := Ybaz.underlying3
  a3 := Ybaz.isAgg3
  z3 := Ybaz.sizeOf3
  v3 := Ybaz.zeroValue3
  t4 := Ybaz.underlying4
  a4 := Ybaz.isAgg4
  z4 := Ybaz.sizeOf4
  v4 := Ybaz.zeroValue4 }
open Go.RowKit Go.Lib in
/-- slices.isNaN[int]: 'x != x': false. (LAID: no walk: one application.) -/
theorem Ybaz.slices_isNaN_int2 (x : Int) (w : World) :
    Calls Ybaz.prog 150 #[.int .i64 x] w fun e w' => e = .returned (.bool false) ∧ w' = w := Any.slices_isNaN_int2 Ybaz.laysNm232 x w
def Ybaz.laysNm231_ren : Go.Shelf.Ren := ⟨fun | 31 => 149 | 37 => 186 | n => n, fun | 3 => 3 | 4 => 4 | n => n, fun | n => n⟩
theorem Ybaz.laysNm231 : Go.Proofs.Lays2.n31 Ybaz.prog Ybaz.laysNm231_ren := {
  mixed := by kernel_rfl
  f31 := Ybaz.func149.trans (congrArg some (by kernel_rfl))
  f37 := Ybaz.func186.trans (congrArg some (by kernel_rfl))
  t3 := Ybaz.underlying3
  a3 := Ybaz.isAgg3
  z3 := Ybaz.sizeOf3
  v3 := Ybaz.zeroValue3
  t4 := Ybaz.underlying4
  a4 := Ybaz.isAgg4
  z4 := Ybaz.sizeOf4
  v4 := Ybaz.zeroValue4 }
open Go.RowKit Go.Lib in
/-- cmp.Less[int]: "Less reports whether x is less than y.": 'x < y'; the world is as it was. (LAID: no walk: one application.) -/
theorem Ybaz.cmp_Less_int2 (x y : Int) (w : World) :
    Calls Ybaz.prog 149 #[.int .i64 x, .int .i64 y] w fun e w' => e = .returned (.bool (decide (x < y))) ∧ w' = w := Any.cmp_Less_int2 Ybaz.laysNm231 x y w
def Ybaz.laysNm225_ren : Go.Shelf.Ren := ⟨fun | 25 => 107 | 31 => 149 | 32 => 150 | 37 => 186 | n => n, fun | 22 => 23 | 3 => 3 | 4 => 4 | 40 => 163 | 0 => 0 | n => n, fun | n => n⟩
theorem Ybaz.laysNm225 : Go.Proofs.Lays2.n25 Ybaz.prog Ybaz.laysNm225_ren := {
  mixed := by kernel_rfl
  f25 := Ybaz.func107.trans (congrArg some (by kernel_rfl))
  f31 := Ybaz.func149.trans (congrArg some (by kernel_rfl))
  f32 := Ybaz.func150.trans (congrArg some (by kernel_rfl))
  f37 := Ybaz.func186.trans (congrArg some (by kernel_rfl))
  t0 := Ybaz.underlying0
  a0 := Ybaz.isAgg0
  z0 := Ybaz.sizeOf0
  v0 := Ybaz.zeroValue0
  t3 := Ybaz.underlying3
  a3 := Ybaz.isAgg3
  z3 := Ybaz.sizeOf3
  v3 := Ybaz.zeroValue3
  t4 := Ybaz.underlying4
  a4 := Ybaz.isAgg4
  z4 := Ybaz.sizeOf4
  v4 := Ybaz.zeroValue4
  t22 := Ybaz.underlying23
  a22 := Ybaz.isAgg23
  z22 := Ybaz.sizeOf23
  v22 := Ybaz.zeroValue23
  t40 := Ybaz.underlying163
  a40 := Ybaz.isAgg163
  z40 := Ybaz.sizeOf163
  v40 := Ybaz.zeroValue163 }
open Go.RowKit Go.Lib in
/-- slices.BinarySearch at []int: "BinarySearch searches for target in a sorted slice and returns the earliest position where target is found, or the position where target would appear in the sort order; it also returns a bool saying whether the target is really found in the slice. The slice must be sorted in increasing order.": OF A SORTED SLICE IT RETURNS how many elements are less than the target, and whether the target is among the elements; the world is as it was but for the count of draws. 'zs': what the cells behind the slice's address hold; 'zs.take n': its elements. (Of a slice that is not sorted: no contract here.) (LAID: no walk: one application.) -/
theorem Ybaz.slices_BinarySearch_int (b off n c : Nat) (zs : List Int) (x : Int) (w : World) (hz : n ≤ zs.length) (hbig : n < 4611686018427387904) (hc : ∀ j, j < zs.length → w.cell? ⟨b, off + j, none⟩ = some (.int .i64 (zs.getD j 0))) (hs : (zs.take n).Pairwise (· ≤ ·)) :
    Calls Ybaz.prog 107 #[.slice (some ⟨b, off, none⟩) n c, .int .i64 x] w fun e w' => e = .returned (.tuple #[.int .i64 ((zs.take n).countP (· < x) : Nat), .bool ((zs.take n).contains x)]) ∧ ∃ q, w' = w.drewN q := Any.slices_BinarySearch_int Ybaz.laysNm225 b off n c zs x w hz hbig hc hs
open Go.RowKit Go.Lib Go.Sort in
/-- slices.Reverse at []int, of an argument: the n cells hold the elements in reverse. (LAID: no walk: one application.) -/
theorem Ybaz.slices_Reverse_int_cells (b off n c : Nat) (zs : List Int) (w : World) (hz : n ≤ zs.length) (hbig : n ≤ 9223372036854775807) (hc : ∀ j, j < zs.length → w.cell? ⟨b, off + j, none⟩ = some (.int .i64 (zs.getD j 0))) (hf : ∀ j, j < n → w.frozen? ⟨b, off + j, none⟩ = false) :
    Calls Ybaz.prog 222 #[.slice (some ⟨b, off, none⟩) n c] w fun e w' => e = .returned (.tuple #[]) ∧ ∃ q, w' = (w.drewN q).setCells b off ((zs.take n).reverse.map (Value.int .i64)) := Any.slices_Reverse_int_cells Ybaz.lays112 b off n c zs w hz hbig hc hf
open Go.RowKit Go.Lib Go.Sort in
/-- slices.Compact at []int, of an argument: the slice cut to 'Lib.compact (elements)'; the n cells hold that, then zeros. (LAID: no walk: one application.) -/
theorem Ybaz.slices_Compact_int_cells (b off n c : Nat) (zs : List Int) (w : World) (hz : n ≤ zs.length) (hbig : n ≤ 9223372036854775807) (hcap : n ≤ c) (hc : ∀ j, j < zs.length → w.cell? ⟨b, off + j, none⟩ = some (.int .i64 (zs.getD j 0))) (hf : ∀ j, j < n → w.frozen? ⟨b, off + j, none⟩ = false) :
    Calls Ybaz.prog 38 #[.slice (some ⟨b, off, none⟩) n c] w fun e w' => e = .returned (.slice (some ⟨b, off, none⟩) (Lib.compact (zs.take n)).length c) ∧ ∃ q, w' = (w.drewN q).setCells b off ((Lib.compact (zs.take n) ++ List.replicate (n - (Lib.compact (zs.take n)).length) 0).map (Value.int .i64)) := Any.slices_Compact_int_cells Ybaz.laysNm220 b off n c zs w hz hbig hcap hc hf
open Go.RowKit Go.Lib Go.Sort in
/-- slices.Compact at []string, of an argument. (LAID: no walk: one application.) -/
theorem Ybaz.slices_Compact_string_cells (b off n c : Nat) (Sx : Nat → ByteArray) (w : World) (hbig : n ≤ 9223372036854775807) (hcap : n ≤ c) (hc : ∀ i, i < n → w.cell? ⟨b, off + i, none⟩ = some (.string (Sx i))) (hf : ∀ j, j < n → w.frozen? ⟨b, off + j, none⟩ = false) :
    Calls Ybaz.prog 16 #[.slice (some ⟨b, off, none⟩) n c] w fun e w' => e = .returned (.slice (some ⟨b, off, none⟩) (Lib.compact (Lib.strsOf Sx n)).length c) ∧ ∃ q, w' = (w.drewN q).setCells b off ((Lib.compact (Lib.strsOf Sx n) ++ List.replicate (n - (Lib.compact (Lib.strsOf Sx n)).length) []).map encStr) := Any.slices_Compact_string_cells Ybaz.lays194 b off n c Sx w hbig hcap hc hf
open Go.RowKit Go.Lib in
/-- slices.BinarySearch at []int of no element: position 0, not found; the world is as it was. (LAID: no walk: one application.) -/
theorem Ybaz.slices_BinarySearch_int_empty (a : Option Addr) (c : Nat) (x : Int) (w : World) :
    Calls Ybaz.prog 107 #[.slice a 0 c, .int .i64 x] w fun e w' => e = .returned (.tuple #[.int .i64 0, .bool false]) ∧ w' = w := Any.slices_BinarySearch_int_empty Ybaz.laysNm225 a c x w
def Ybaz.laysSlE33_f10_ren : Go.Shelf.Ren := ⟨fun | 33 => 10 | n => n, fun | 22 => 22 | 23 => 9 | 4 => 4 | 3 => 3 | 0 => 0 | n => n, fun | n => n⟩
theorem Ybaz.laysSlE33_f10 : Go.Proofs.SlLaysE.n33 Ybaz.prog Ybaz.laysSlE33_f10_ren := {
  mixed := by kernel_rfl
  f33 := ⟨Ybaz.f10.name, by decide, Ybaz.func10.trans (congrArg some (by kernel_rfl))⟩
  t0 := Ybaz.underlying0
  a0 := Ybaz.isAgg0
  z0 := Ybaz.sizeOf0
  v0 := Ybaz.zeroValue0
  t3 := Ybaz.underlying3
  a3 := Ybaz.isAgg3
  z3 := Ybaz.sizeOf3
  v3 := Ybaz.zeroValue3
  t4 := Ybaz.underlying4
  a4 := Ybaz.isAgg4
  z4 := Ybaz.sizeOf4
  v4 := Ybaz.zeroValue4
  t22 := Ybaz.underlying22
  a22 := Ybaz.isAgg22
  z22 := Ybaz.sizeOf22
  v22 := Ybaz.zeroValue22
  a23 := Ybaz.isAgg9
  z23 := Ybaz.sizeOf9 }
open Go.RowKit Go.Lib in
/-- slices.Equal: "Equal reports whether two slices are equal: the same length and all elements equal. .. Empty and nil slices are considered equal. Floating point NaNs are not considered equal.": IT RETURNS 'Lib.allEq eq (the one's elements) (the other's)'; the world is as it was but for the count of draws. (LAID AT THE INSTANCE 'slices.Equal[[]string,string]': no walk: one application.) -/
theorem Ybaz.slices_Equal_f10 {α : Type} [Inhabited α] (enc : α → Value) (eq : α → α → Bool) (hne : NeqAt Ybaz.prog 9 enc eq) (b1 o1 n c b2 o2 m d : Nat) (xs ys : List α) (w : World) (hx : n ≤ xs.length) (hy : m ≤ ys.length) (hbig : n ≤ 9223372036854775807) (hbig2 : m ≤ 9223372036854775807) (hc1 : ∀ j, j < xs.length → w.cell? ⟨b1, o1 + j, none⟩ = some (enc xs[j]!)) (hc2 : ∀ j, j < ys.length → w.cell? ⟨b2, o2 + j, none⟩ = some (enc ys[j]!)) :
    Calls Ybaz.prog 10 #[.slice (some ⟨b1, o1, none⟩) n c, .slice (some ⟨b2, o2, none⟩) m d] w fun e w' => e = .returned (.bool (Lib.allEq eq (xs.take n) (ys.take m))) ∧ ∃ q, w' = w.drewN q := AnyE.slices_Equal Ybaz.laysSlE33_f10 enc eq hne b1 o1 n c b2 o2 m d xs ys w hx hy hbig hbig2 hc1 hc2
def Ybaz.laysSlE33_f18_ren : Go.Shelf.Ren := ⟨fun | 33 => 18 | n => n, fun | 22 => 77 | 23 => 21 | 4 => 4 | 3 => 3 | 0 => 0 | n => n, fun | n => n⟩
theorem Ybaz.laysSlE33_f18 : Go.Proofs.SlLaysE.n33 Ybaz.prog Ybaz.laysSlE33_f18_ren := {
  mixed := by kernel_rfl
  f33 := ⟨Ybaz.f18.name, by decide, Ybaz.func18.trans (congrArg some (by kernel_rfl))⟩
  t0 := Ybaz.underlying0
  a0 := Ybaz.isAgg0
  z0 := Ybaz.sizeOf0
  v0 := Ybaz.zeroValue0
  t3 := Ybaz.underlying3
  a3 := Ybaz.isAgg3
  z3 := Ybaz.sizeOf3
  v3 := Ybaz.zeroValue3
  t4 := Ybaz.underlying4
  a4 := Ybaz.isAgg4
  z4 := Ybaz.sizeOf4
  v4 := Ybaz.zeroValue4
  t22 := Ybaz.underlying77
  a22 := Ybaz.isAgg77
  z22 := Ybaz.sizeOf77
  v22 := Ybaz.zeroValue77
  a23 := Ybaz.isAgg21
  z23 := Ybaz.sizeOf21 }
open Go.RowKit Go.Lib in
/-- slices.Equal: "Equal reports whether two slices are equal: the same length and all elements equal. .. Empty and nil slices are considered equal. Floating point NaNs are not considered equal.": IT RETURNS 'Lib.allEq eq (the one's elements) (the other's)'; the world is as it was but for the count of draws. (LAID AT THE INSTANCE 'slices.Equal[[]int32,int32]': no walk: one application.) -/
theorem Ybaz.slices_Equal_f18 {α : Type} [Inhabited α] (enc : α → Value) (eq : α → α → Bool) (hne : NeqAt Ybaz.prog 21 enc eq) (b1 o1 n c b2 o2 m d : Nat) (xs ys : List α) (w : World) (hx : n ≤ xs.length) (hy : m ≤ ys.length) (hbig : n ≤ 9223372036854775807) (hbig2 : m ≤ 9223372036854775807) (hc1 : ∀ j, j < xs.length → w.cell? ⟨b1, o1 + j, none⟩ = some (enc xs[j]!)) (hc2 : ∀ j, j < ys.length → w.cell? ⟨b2, o2 + j, none⟩ = some (enc ys[j]!)) :
    Calls Ybaz.prog 18 #[.slice (some ⟨b1, o1, none⟩) n c, .slice (some ⟨b2, o2, none⟩) m d] w fun e w' => e = .returned (.bool (Lib.allEq eq (xs.take n) (ys.take m))) ∧ ∃ q, w' = w.drewN q := AnyE.slices_Equal Ybaz.laysSlE33_f18 enc eq hne b1 o1 n c b2 o2 m d xs ys w hx hy hbig hbig2 hc1 hc2
def Ybaz.laysSlE43_f16_ren : Go.Shelf.Ren := ⟨fun | 43 => 16 | n => n, fun | 22 => 22 | 23 => 9 | 3 => 3 | 4 => 4 | 0 => 0 | n => n, fun | n => n⟩
theorem Ybaz.laysSlE43_f16 : Go.Proofs.SlLaysE.n43 Ybaz.prog Ybaz.laysSlE43_f16_ren := {
  mixed := by kernel_rfl
  f43 := ⟨Ybaz.f16.name, by decide, Ybaz.func16.trans (congrArg some (by kernel_rfl))⟩
  t0 := Ybaz.underlying0
  a0 := Ybaz.isAgg0
  z0 := Ybaz.sizeOf0
  v0 := Ybaz.zeroValue0
  t3 := Ybaz.underlying3
  a3 := Ybaz.isAgg3
  z3 := Ybaz.sizeOf3
  v3 := Ybaz.zeroValue3
  t4 := Ybaz.underlying4
  a4 := Ybaz.isAgg4
  z4 := Ybaz.sizeOf4
  v4 := Ybaz.zeroValue4
  t22 := Ybaz.underlying22
  a22 := Ybaz.isAgg22
  z22 := Ybaz.sizeOf22
  v22 := Ybaz.zeroValue22
  a23 := Ybaz.isAgg9
  z23 := Ybaz.sizeOf9 }
open Go.RowKit Go.Lib Go.Sort in
/-- slices.Compact: "Compact replaces consecutive runs of equal elements with a single copy. .. Compact zeroes the elements between the new length and the original length.": IT RETURNS THE SLICE CUT TO 'compactUpTo d d.size'; ITS CELLS HOLD THAT, THEN ZERO VALUES up to the old length; the library's two loops are walked. (LAID AT THE INSTANCE 'slices.Compact[[]string,string]': no walk: one application.) -/
theorem Ybaz.slices_Compact_f16 {α : Type} [Inhabited α] [DecidableEq α] (enc : α → Value) (hO : OneCell enc) (heq : EqlAt Ybaz.prog 9 enc (fun x y => decide (x = y))) (hne : NeqAt Ybaz.prog 9 enc (fun x y => decide (x = y))) (zr : α) (v23 : ∀ w, (zeroValue 9).run Ybaz.prog w = .ok (enc zr) w) (blk off cap : Nat) (d : Array α) (w : World) (hH : Holds enc w blk off d) (hsz : d.size ≤ 9223372036854775807) (hcap : d.size ≤ cap) :
    Calls Ybaz.prog 16 #[.slice (some ⟨blk, off, none⟩) d.size cap] w fun e w' => e = .returned (.slice (some ⟨blk, off, none⟩) (compactUpTo d d.size).length cap) ∧ ∃ q, w' = putRow enc (Sort.ahead w q) blk off (compactUpTo d d.size ++ List.replicate (d.size - (compactUpTo d d.size).length) zr).toArray := AnyE.slices_Compact Ybaz.laysSlE43_f16 enc hO heq hne zr v23 blk off cap d w hH hsz hcap
def Ybaz.laysSlE43_f38_ren : Go.Shelf.Ren := ⟨fun | 43 => 38 | n => n, fun | 22 => 23 | 23 => 3 | 3 => 3 | 4 => 4 | 0 => 0 | n => n, fun | n => n⟩
theorem Ybaz.laysSlE43_f38 : Go.Proofs.SlLaysE.n43 Ybaz.prog Ybaz.laysSlE43_f38_ren := {
  mixed := by kernel_rfl
  f43 := ⟨Ybaz.f38.name, by decide, Ybaz.func38.trans (congrArg some (by kernel_rfl))⟩
  t0 := Ybaz.underlying0
  a0 := Ybaz.isAgg0
  z0 := Ybaz.sizeOf0
  v0 := Ybaz.zeroValue0
  t3 := Ybaz.underlying3
  a3 := Ybaz.isAgg3
  z3 := Ybaz.sizeOf3
  v3 := Ybaz.zeroValue3
  t4 := Ybaz.underlying4
  a4 := Ybaz.isAgg4
  z4 := Ybaz.sizeOf4
  v4 := Ybaz.zeroValue4
  t22 := Ybaz.underlying23
  a22 := Ybaz.isAgg23
  z22 := Ybaz.sizeOf23
  v22 := Ybaz.zeroValue23
  a23 := Ybaz.isAgg3
  z23 := Ybaz.sizeOf3 }
open Go.RowKit Go.Lib Go.Sort in
/-- slices.Compact: "Compact replaces consecutive runs of equal elements with a single copy. .. Compact zeroes the elements between the new length and the original length.": IT RETURNS THE SLICE CUT TO 'compactUpTo d d.size'; ITS CELLS HOLD THAT, THEN ZERO VALUES up to the old length; the library's two loops are walked. (LAID AT THE INSTANCE 'slices.Compact[[]int,int]': no walk: one application.) -/
theorem Ybaz.slices_Compact_f38 {α : Type} [Inhabited α] [DecidableEq α] (enc : α → Value) (hO : OneCell enc) (heq : EqlAt Ybaz.prog 3 enc (fun x y => decide (x = y))) (hne : NeqAt Ybaz.prog 3 enc (fun x y => decide (x = y))) (zr : α) (v23 : ∀ w, (zeroValue 3).run Ybaz.prog w = .ok (enc zr) w) (blk off cap : Nat) (d : Array α) (w : World) (hH : Holds enc w blk off d) (hsz : d.size ≤ 9223372036854775807) (hcap : d.size ≤ cap) :
    Calls Ybaz.prog 38 #[.slice (some ⟨blk, off, none⟩) d.size cap] w fun e w' => e = .returned (.slice (some ⟨blk, off, none⟩) (compactUpTo d d.size).length cap) ∧ ∃ q, w' = putRow enc (Sort.ahead w q) blk off (compactUpTo d d.size ++ List.replicate (d.size - (compactUpTo d d.size).length) zr).toArray := AnyE.slices_Compact Ybaz.laysSlE43_f38 enc hO heq hne zr v23 blk off cap d w hH hsz hcap
def Ybaz.laysSlE041_f27_ren : Go.Shelf.Ren := ⟨fun | 41 => 27 | n => n, fun | 22 => 22 | 23 => 9 | 4 => 4 | n => n, fun | n => n⟩
theorem Ybaz.laysSlE041_f27 : Go.Proofs.SlLaysE0.n41 Ybaz.prog Ybaz.laysSlE041_f27_ren := {
  mixed := by kernel_rfl
  f41 := ⟨Ybaz.f27.name, by decide, Ybaz.func27.trans (congrArg some (by kernel_rfl))⟩
  t4 := Ybaz.underlying4
  a4 := Ybaz.isAgg4
  z4 := Ybaz.sizeOf4
  v4 := Ybaz.zeroValue4
  t22 := Ybaz.underlying22
  a22 := Ybaz.isAgg22
  z22 := Ybaz.sizeOf22
  v22 := Ybaz.zeroValue22 }
open Go.RowKit Go.Lib in
/-- slices.Clone: "Clone returns a copy of the slice. The elements are copied using assignment, so this is a shallow clone. The result may have additional unused capacity. The result preserves the nilness of s.": OF A SLICE THAT IS NOT nil IT RETURNS A SLICE THAT IS NOT nil, OF THE SAME CELLS, IN MEMORY OF THE CALL's OWN ('ownsRow': the how-to's 6f); below the heap's size at the call all is as it was. (LAID AT THE INSTANCE 'slices.Clone[[]string,string]': no walk: one application.) -/
theorem Ybaz.slices_Clone_f27 (i0 : TypeInfo) (z : Value) (size bytes : Nat) (hi : Ybaz.prog.info? 9 = some i0) (hz0 : i0.zero = some z) (hz1 : i0.size = size) (hz2 : i0.bytes = bytes) (hzs : z.cells.size = size) (hsz : 0 < size) (z23 : ∀ w, (Go.sizeOf 9).run Ybaz.prog w = .ok size w) (b off n c : Nat) (news : List Value) (w : World) (hl : news.length = n * size) (hn : n ≤ maxLen) (hbig : n * bytes ≤ 140737488355328) (hc : ∀ j u, news[j]? = some u → w.cell? ⟨b, off + j, none⟩ = some u) (h1 : ∀ u ∈ news, u.oneCell' = true) :
    Calls Ybaz.prog 27 #[.slice (some ⟨b, off, none⟩) n c] w fun e w' => ∃ v', e = .returned v' ∧ w'.ownsRow w.heap.size 9 size v' n news ∧ v' ≠ .slice none 0 0 ∧ Below w.heap.size w w' := AnyE.slices_Clone Ybaz.laysSlE041_f27 i0 z size bytes hi hz0 hz1 hz2 hzs hsz z23 b off n c news w hl hn hbig hc h1
def Ybaz.laysSlE041_f36_ren : Go.Shelf.Ren := ⟨fun | 41 => 36 | n => n, fun | 22 => 77 | 23 => 21 | 4 => 4 | n => n, fun | n => n⟩
theorem Ybaz.laysSlE041_f36 : Go.Proofs.SlLaysE0.n41 Ybaz.prog Ybaz.laysSlE041_f36_ren := {
  mixed := by kernel_rfl
  f41 := ⟨Ybaz.f36.name, by decide, Ybaz.func36.trans (congrArg some (by kernel_rfl))⟩
  t4 := Ybaz.underlying4
  a4 := Ybaz.isAgg4
  z4 := Ybaz.sizeOf4
  v4 := Ybaz.zeroValue4
  t22 := Ybaz.underlying77
  a22 := Ybaz.isAgg77
  z22 := Ybaz.sizeOf77
  v22 := Ybaz.zeroValue77 }
open Go.RowKit Go.Lib in
/-- slices.Clone: "Clone returns a copy of the slice. The elements are copied using assignment, so this is a shallow clone. The result may have additional unused capacity. The result preserves the nilness of s.": OF A SLICE THAT IS NOT nil IT RETURNS A SLICE THAT IS NOT nil, OF THE SAME CELLS, IN MEMORY OF THE CALL's OWN ('ownsRow': the how-to's 6f); below the heap's size at the call all is as it was. (LAID AT THE INSTANCE 'slices.Clone[[]int32,int32]': no walk: one application.) -/
theorem Ybaz.slices_Clone_f36 (i0 : TypeInfo) (z : Value) (size bytes : Nat) (hi : Ybaz.prog.info? 21 = some i0) (hz0 : i0.zero = some z) (hz1 : i0.size = size) (hz2 : i0.bytes = bytes) (hzs : z.cells.size = size) (hsz : 0 < size) (z23 : ∀ w, (Go.sizeOf 21).run Ybaz.prog w = .ok size w) (b off n c : Nat) (news : List Value) (w : World) (hl : news.length = n * size) (hn : n ≤ maxLen) (hbig : n * bytes ≤ 140737488355328) (hc : ∀ j u, news[j]? = some u → w.cell? ⟨b, off + j, none⟩ = some u) (h1 : ∀ u ∈ news, u.oneCell' = true) :
    Calls Ybaz.prog 36 #[.slice (some ⟨b, off, none⟩) n c] w fun e w' => ∃ v', e = .returned v' ∧ w'.ownsRow w.heap.size 21 size v' n news ∧ v' ≠ .slice none 0 0 ∧ Below w.heap.size w w' := AnyE.slices_Clone Ybaz.laysSlE041_f36 i0 z size bytes hi hz0 hz1 hz2 hzs hsz z23 b off n c news w hl hn hbig hc h1
def Ybaz.laysSlE041_f116_ren : Go.Shelf.Ren := ⟨fun | 41 => 116 | n => n, fun | 22 => 23 | 23 => 3 | 4 => 4 | n => n, fun | n => n⟩
theorem Ybaz.laysSlE041_f116 : Go.Proofs.SlLaysE0.n41 Ybaz.prog Ybaz.laysSlE041_f116_ren := {
  mixed := by kernel_rfl
  f41 := ⟨Ybaz.f116.name, by decide, Ybaz.func116.trans (congrArg some (by kernel_rfl))⟩
  t4 := Ybaz.underlying4
  a4 := Ybaz.isAgg4
  z4 := Ybaz.sizeOf4
  v4 := Ybaz.zeroValue4
  t22 := Ybaz.underlying23
  a22 := Ybaz.isAgg23
  z22 := Ybaz.sizeOf23
  v22 := Ybaz.zeroValue23 }
open Go.RowKit Go.Lib in
/-- slices.Clone: "Clone returns a copy of the slice. The elements are copied using assignment, so this is a shallow clone. The result may have additional unused capacity. The result preserves the nilness of s.": OF A SLICE THAT IS NOT nil IT RETURNS A SLICE THAT IS NOT nil, OF THE SAME CELLS, IN MEMORY OF THE CALL's OWN ('ownsRow': the how-to's 6f); below the heap's size at the call all is as it was. (LAID AT THE INSTANCE 'slices.Clone[[]int,int]': no walk: one application.) -/
theorem Ybaz.slices_Clone_f116 (i0 : TypeInfo) (z : Value) (size bytes : Nat) (hi : Ybaz.prog.info? 3 = some i0) (hz0 : i0.zero = some z) (hz1 : i0.size = size) (hz2 : i0.bytes = bytes) (hzs : z.cells.size = size) (hsz : 0 < size) (z23 : ∀ w, (Go.sizeOf 3).run Ybaz.prog w = .ok size w) (b off n c : Nat) (news : List Value) (w : World) (hl : news.length = n * size) (hn : n ≤ maxLen) (hbig : n * bytes ≤ 140737488355328) (hc : ∀ j u, news[j]? = some u → w.cell? ⟨b, off + j, none⟩ = some u) (h1 : ∀ u ∈ news, u.oneCell' = true) :
    Calls Ybaz.prog 116 #[.slice (some ⟨b, off, none⟩) n c] w fun e w' => ∃ v', e = .returned v' ∧ w'.ownsRow w.heap.size 3 size v' n news ∧ v' ≠ .slice none 0 0 ∧ Below w.heap.size w w' := AnyE.slices_Clone Ybaz.laysSlE041_f116 i0 z size bytes hi hz0 hz1 hz2 hzs hsz z23 b off n c news w hl hn hbig hc h1
open Go.RowKit Go.Lib in
/-- The same at nil: nil comes back; the world is as it was; nothing is asked of the element's type. (LAID AT THE INSTANCE 'slices.Clone[[]string,string]': no walk: one application.) -/
theorem Ybaz.slices_Clone_nil_f27 (n c : Nat) (w : World) :
    Calls Ybaz.prog 27 #[.slice none n c] w fun e w' => e = .returned (.slice none 0 0) ∧ w' = w := AnyE.slices_Clone_nil Ybaz.laysSlE041_f27 n c w
open Go.RowKit Go.Lib in
/-- The same at nil: nil comes back; the world is as it was; nothing is asked of the element's type. (LAID AT THE INSTANCE 'slices.Clone[[]int32,int32]': no walk: one application.) -/
theorem Ybaz.slices_Clone_nil_f36 (n c : Nat) (w : World) :
    Calls Ybaz.prog 36 #[.slice none n c] w fun e w' => e = .returned (.slice none 0 0) ∧ w' = w := AnyE.slices_Clone_nil Ybaz.laysSlE041_f36 n c w
open Go.RowKit Go.Lib in
/-- The same at nil: nil comes back; the world is as it was; nothing is asked of the element's type. (LAID AT THE INSTANCE 'slices.Clone[[]int,int]': no walk: one application.) -/
theorem Ybaz.slices_Clone_nil_f116 (n c : Nat) (w : World) :
    Calls Ybaz.prog 116 #[.slice none n c] w fun e w' => e = .returned (.slice none 0 0) ∧ w' = w := AnyE.slices_Clone_nil Ybaz.laysSlE041_f116 n c w
def Ybaz.laysSlH6_f79_ren : Go.Shelf.Ren := ⟨fun | 6 => 79 | n => n, fun | 22 => 77 | 23 => 21 | 25 => 153 | 3 => 3 | 0 => 0 | 4 => 4 | n => n, fun | n => n⟩
theorem Ybaz.laysSlH6_f79 : Go.Proofs.SlLaysH.n6 Ybaz.prog Ybaz.laysSlH6_f79_ren := {
  mixed := by kernel_rfl
  f6 := ⟨Ybaz.f79.name, by decide, Ybaz.func79.trans (congrArg some (by kernel_rfl))⟩
  t0 := Ybaz.underlying0
  a0 := Ybaz.isAgg0
  z0 := Ybaz.sizeOf0
  v0 := Ybaz.zeroValue0
  t3 := Ybaz.underlying3
  a3 := Ybaz.isAgg3
  z3 := Ybaz.sizeOf3
  v3 := Ybaz.zeroValue3
  t4 := Ybaz.underlying4
  a4 := Ybaz.isAgg4
  z4 := Ybaz.sizeOf4
  v4 := Ybaz.zeroValue4
  t22 := Ybaz.underlying77
  a22 := Ybaz.isAgg77
  z22 := Ybaz.sizeOf77
  v22 := Ybaz.zeroValue77
  a23 := Ybaz.isAgg21
  z23 := Ybaz.sizeOf21
  t25 := Ybaz.underlying153
  a25 := Ybaz.isAgg153
  z25 := Ybaz.sizeOf153
  v25 := Ybaz.zeroValue153 }
open Go.RowKit Go.Lib in
/-- slices.IndexFunc: "IndexFunc returns the first index i satisfying f(s[i]), or -1 if none do." (LAID AT THE INSTANCE 'slices.IndexFunc[[]int32,int32]': no walk: one application.) -/
theorem Ybaz.slices_IndexFunc_f79 {α : Type} [Inhabited α] (enc : α → Value) (p : α → Bool) (g : Nat) (lb : Array Value) (eg : ∀ args w, (callFunc g args).run Ybaz.prog w = .ok (.enter g args) w) (b off n c : Nat) (zs : List α) (w : World) (hp : PredAt Ybaz.prog g lb enc p w) (hz : n ≤ zs.length) (hbig : n ≤ 9223372036854775807) (hc : ∀ j, j < zs.length → w.cell? ⟨b, off + j, none⟩ = some (enc zs[j]!)) :
    Calls Ybaz.prog 79 #[.slice (some ⟨b, off, none⟩) n c, .func (.func g) #[] lb] w fun e w' => e = .returned (.int .i64 (Lib.idxBy (fun _ y => p y) (zs.take n) default)) ∧ ∃ q, w' = w.drewN q := AnyE.slices_IndexFunc Ybaz.laysSlH6_f79 enc p g lb eg b off n c zs w hp hz hbig hc
def Ybaz.laysSlH6_f153_ren : Go.Shelf.Ren := ⟨fun | 6 => 153 | n => n, fun | 22 => 34 | 23 => 23 | 25 => 260 | 3 => 3 | 0 => 0 | 4 => 4 | n => n, fun | n => n⟩
theorem Ybaz.laysSlH6_f153 : Go.Proofs.SlLaysH.n6 Ybaz.prog Ybaz.laysSlH6_f153_ren := {
  mixed := by kernel_rfl
  f6 := ⟨Ybaz.f153.name, by decide, Ybaz.func153.trans (congrArg some (by kernel_rfl))⟩
  t0 := Ybaz.underlying0
  a0 := Ybaz.isAgg0
  z0 := Ybaz.sizeOf0
  v0 := Ybaz.zeroValue0
  t3 := Ybaz.underlying3
  a3 := Ybaz.isAgg3
  z3 := Ybaz.sizeOf3
  v3 := Ybaz.zeroValue3
  t4 := Ybaz.underlying4
  a4 := Ybaz.isAgg4
  z4 := Ybaz.sizeOf4
  v4 := Ybaz.zeroValue4
  t22 := Ybaz.underlying34
  a22 := Ybaz.isAgg34
  z22 := Ybaz.sizeOf34
  v22 := Ybaz.zeroValue34
  a23 := Ybaz.isAgg23
  z23 := Ybaz.sizeOf23
  t25 := Ybaz.underlying260
  a25 := Ybaz.isAgg260
  z25 := Ybaz.sizeOf260
  v25 := Ybaz.zeroValue260 }
open Go.RowKit Go.Lib in
/-- slices.IndexFunc: "IndexFunc returns the first index i satisfying f(s[i]), or -1 if none do." (LAID AT THE INSTANCE 'slices.IndexFunc[[][]int,[]int]': no walk: one application.) -/
theorem Ybaz.slices_IndexFunc_f153 {α : Type} [Inhabited α] (enc : α → Value) (p : α → Bool) (g : Nat) (lb : Array Value) (eg : ∀ args w, (callFunc g args).run Ybaz.prog w = .ok (.enter g args) w) (b off n c : Nat) (zs : List α) (w : World) (hp : PredAt Ybaz.prog g lb enc p w) (hz : n ≤ zs.length) (hbig : n ≤ 9223372036854775807) (hc : ∀ j, j < zs.length → w.cell? ⟨b, off + j, none⟩ = some (enc zs[j]!)) :
    Calls Ybaz.prog 153 #[.slice (some ⟨b, off, none⟩) n c, .func (.func g) #[] lb] w fun e w' => e = .returned (.int .i64 (Lib.idxBy (fun _ y => p y) (zs.take n) default)) ∧ ∃ q, w' = w.drewN q := AnyE.slices_IndexFunc Ybaz.laysSlH6_f153 enc p g lb eg b off n c zs w hp hz hbig hc
def Ybaz.laysSlH6_f154_ren : Go.Shelf.Ren := ⟨fun | 6 => 154 | n => n, fun | 22 => 23 | 23 => 3 | 25 => 232 | 3 => 3 | 0 => 0 | 4 => 4 | n => n, fun | n => n⟩
theorem Ybaz.laysSlH6_f154 : Go.Proofs.SlLaysH.n6 Ybaz.prog Ybaz.laysSlH6_f154_ren := {
  mixed := by kernel_rfl
  f6 := ⟨Ybaz.f154.name, by decide, Ybaz.func154.trans (congrArg some (by kernel_rfl))⟩
  t0 := Ybaz.underlying0
  a0 := Ybaz.isAgg0
  z0 := Ybaz.sizeOf0
  v0 := Ybaz.zeroValue0
  t3 := Ybaz.underlying3
  a3 := Ybaz.isAgg3
  z3 := Ybaz.sizeOf3
  v3 := Ybaz.zeroValue3
  t4 := Ybaz.underlying4
  a4 := Ybaz.isAgg4
  z4 := Ybaz.sizeOf4
  v4 := Ybaz.zeroValue4
  t22 := Ybaz.underlying23
  a22 := Ybaz.isAgg23
  z22 := Ybaz.sizeOf23
  v22 := Ybaz.zeroValue23
  a23 := Ybaz.isAgg3
  z23 := Ybaz.sizeOf3
  t25 := Ybaz.underlying232
  a25 := Ybaz.isAgg232
  z25 := Ybaz.sizeOf232
  v25 := Ybaz.zeroValue232 }
open Go.RowKit Go.Lib in
/-- slices.IndexFunc: "IndexFunc returns the first index i satisfying f(s[i]), or -1 if none do." (LAID AT THE INSTANCE 'slices.IndexFunc[[]int,int]': no walk: one application.) -/
theorem Ybaz.slices_IndexFunc_f154 {α : Type} [Inhabited α] (enc : α → Value) (p : α → Bool) (g : Nat) (lb : Array Value) (eg : ∀ args w, (callFunc g args).run Ybaz.prog w = .ok (.enter g args) w) (b off n c : Nat) (zs : List α) (w : World) (hp : PredAt Ybaz.prog g lb enc p w) (hz : n ≤ zs.length) (hbig : n ≤ 9223372036854775807) (hc : ∀ j, j < zs.length → w.cell? ⟨b, off + j, none⟩ = some (enc zs[j]!)) :
    Calls Ybaz.prog 154 #[.slice (some ⟨b, off, none⟩) n c, .func (.func g) #[] lb] w fun e w' => e = .returned (.int .i64 (Lib.idxBy (fun _ y => p y) (zs.take n) default)) ∧ ∃ q, w' = w.drewN q := AnyE.slices_IndexFunc Ybaz.laysSlH6_f154 enc p g lb eg b off n c zs w hp hz hbig hc
open Go.RowKit Go.Lib in
/-- The same at a slice of length 0, a nil one too: the predicate is not called: nothing is asked of it. (LAID AT THE INSTANCE 'slices.IndexFunc[[]int32,int32]': no walk: one application.) -/
theorem Ybaz.slices_IndexFunc_empty_f79 {α : Type} [Inhabited α] (a : Option Addr) (c : Nat) (fv : Value) (w : World) :
    Calls Ybaz.prog 79 #[.slice a 0 c, fv] w fun e w' => e = .returned (.int .i64 (-1)) ∧ w' = w := AnyE.slices_IndexFunc_empty Ybaz.laysSlH6_f79 a c fv w
open Go.RowKit Go.Lib in
/-- The same at a slice of length 0, a nil one too: the predicate is not called: nothing is asked of it. (LAID AT THE INSTANCE 'slices.IndexFunc[[][]int,[]int]': no walk: one application.) -/
theorem Ybaz.slices_IndexFunc_empty_f153 {α : Type} [Inhabited α] (a : Option Addr) (c : Nat) (fv : Value) (w : World) :
    Calls Ybaz.prog 153 #[.slice a 0 c, fv] w fun e w' => e = .returned (.int .i64 (-1)) ∧ w' = w := AnyE.slices_IndexFunc_empty Ybaz.laysSlH6_f153 a c fv w
open Go.RowKit Go.Lib in
/-- The same at a slice of length 0, a nil one too: the predicate is not called: nothing is asked of it. (LAID AT THE INSTANCE 'slices.IndexFunc[[]int,int]': no walk: one application.) -/
theorem Ybaz.slices_IndexFunc_empty_f154 {α : Type} [Inhabited α] (a : Option Addr) (c : Nat) (fv : Value) (w : World) :
    Calls Ybaz.prog 154 #[.slice a 0 c, fv] w fun e w' => e = .returned (.int .i64 (-1)) ∧ w' = w := AnyE.slices_IndexFunc_empty Ybaz.laysSlH6_f154 a c fv w
def Ybaz.laysSlH8_f112_ren : Go.Shelf.Ren := ⟨fun | 8 => 112 | 6 => 153 | n => n, fun | 22 => 34 | 23 => 23 | 25 => 260 | 4 => 4 | 3 => 3 | 0 => 0 | n => n, fun | n => n⟩
theorem Ybaz.laysSlH8_f112 : Go.Proofs.SlLaysH.n8 Ybaz.prog Ybaz.laysSlH8_f112_ren := {
  mixed := by kernel_rfl
  f6 := ⟨Ybaz.f153.name, by decide, Ybaz.func153.trans (congrArg some (by kernel_rfl))⟩
  f8 := ⟨Ybaz.f112.name, by decide, Ybaz.func112.trans (congrArg some (by kernel_rfl))⟩
  t0 := Ybaz.underlying0
  a0 := Ybaz.isAgg0
  z0 := Ybaz.sizeOf0
  v0 := Ybaz.zeroValue0
  t3 := Ybaz.underlying3
  a3 := Ybaz.isAgg3
  z3 := Ybaz.sizeOf3
  v3 := Ybaz.zeroValue3
  t4 := Ybaz.underlying4
  a4 := Ybaz.isAgg4
  z4 := Ybaz.sizeOf4
  v4 := Ybaz.zeroValue4
  t22 := Ybaz.underlying34
  a22 := Ybaz.isAgg34
  z22 := Ybaz.sizeOf34
  v22 := Ybaz.zeroValue34
  a23 := Ybaz.isAgg23
  z23 := Ybaz.sizeOf23
  t25 := Ybaz.underlying260
  a25 := Ybaz.isAgg260
  z25 := Ybaz.sizeOf260
  v25 := Ybaz.zeroValue260 }
open Go.RowKit Go.Lib in
/-- slices.ContainsFunc: "ContainsFunc reports whether at least one element e of s satisfies f(e).": ITS CALLEE slices.IndexFunc IS MET BY ITS OWN CONTRACT. (LAID AT THE INSTANCE 'slices.ContainsFunc[[][]int,[]int]': no walk: one application.) -/
theorem Ybaz.slices_ContainsFunc_f112 {α : Type} [Inhabited α] (enc : α → Value) (p : α → Bool) (g : Nat) (lb : Array Value) (eg : ∀ args w, (callFunc g args).run Ybaz.prog w = .ok (.enter g args) w) (b off n c : Nat) (zs : List α) (w : World) (hp : PredAt Ybaz.prog g lb enc p w) (hz : n ≤ zs.length) (hbig : n ≤ 9223372036854775807) (hc : ∀ j, j < zs.length → w.cell? ⟨b, off + j, none⟩ = some (enc zs[j]!)) :
    Calls Ybaz.prog 112 #[.slice (some ⟨b, off, none⟩) n c, .func (.func g) #[] lb] w fun e w' => e = .returned (.bool ((zs.take n).any p)) ∧ ∃ q, w' = w.drewN q := AnyE.slices_ContainsFunc Ybaz.laysSlH8_f112 enc p g lb eg b off n c zs w hp hz hbig hc
def Ybaz.laysSlH8_f114_ren : Go.Shelf.Ren := ⟨fun | 8 => 114 | 6 => 154 | n => n, fun | 22 => 23 | 23 => 3 | 25 => 232 | 4 => 4 | 3 => 3 | 0 => 0 | n => n, fun | n => n⟩
theorem Ybaz.laysSlH8_f114 : Go.Proofs.SlLaysH.n8 Ybaz.prog Ybaz.laysSlH8_f114_ren := {
  mixed := by kernel_rfl
  f6 := ⟨Ybaz.f154.name, by decide, Ybaz.func154.trans (congrArg some (by kernel_rfl))⟩
  f8 := ⟨Ybaz.f114.name, by decide, Ybaz.func114.trans (congrArg some (by kernel_rfl))⟩
  t0 := Ybaz.underlying0
  a0 := Ybaz.isAgg0
  z0 := Ybaz.sizeOf0
  v0 := Ybaz.zeroValue0
  t3 := Ybaz.underlying3
  a3 := Ybaz.isAgg3
  z3 := Ybaz.sizeOf3
  v3 := Ybaz.zeroValue3
  t4 := Ybaz.underlying4
  a4 := Ybaz.isAgg4
  z4 := Ybaz.sizeOf4
  v4 := Ybaz.zeroValue4
  t22 := Ybaz.underlying23
  a22 := Ybaz.isAgg23
  z22 := Ybaz.sizeOf23
  v22 := Ybaz.zeroValue23
  a23 := Ybaz.isAgg3
  z23 := Ybaz.sizeOf3
  t25 := Ybaz.underlying232
  a25 := Ybaz.isAgg232
  z25 := Ybaz.sizeOf232
  v25 := Ybaz.zeroValue232 }
open Go.RowKit Go.Lib in
/-- slices.ContainsFunc: "ContainsFunc reports whether at least one element e of s satisfies f(e).": ITS CALLEE slices.IndexFunc IS MET BY ITS OWN CONTRACT. (LAID AT THE INSTANCE 'slices.ContainsFunc[[]int,int]': no walk: one application.) -/
theorem Ybaz.slices_ContainsFunc_f114 {α : Type} [Inhabited α] (enc : α → Value) (p : α → Bool) (g : Nat) (lb : Array Value) (eg : ∀ args w, (callFunc g args).run Ybaz.prog w = .ok (.enter g args) w) (b off n c : Nat) (zs : List α) (w : World) (hp : PredAt Ybaz.prog g lb enc p w) (hz : n ≤ zs.length) (hbig : n ≤ 9223372036854775807) (hc : ∀ j, j < zs.length → w.cell? ⟨b, off + j, none⟩ = some (enc zs[j]!)) :
    Calls Ybaz.prog 114 #[.slice (some ⟨b, off, none⟩) n c, .func (.func g) #[] lb] w fun e w' => e = .returned (.bool ((zs.take n).any p)) ∧ ∃ q, w' = w.drewN q := AnyE.slices_ContainsFunc Ybaz.laysSlH8_f114 enc p g lb eg b off n c zs w hp hz hbig hc
open Go.RowKit Go.Lib in
/-- The same at a slice of length 0, a nil one too. (LAID AT THE INSTANCE 'slices.ContainsFunc[[][]int,[]int]': no walk: one application.) -/
theorem Ybaz.slices_ContainsFunc_empty_f112 {α : Type} [Inhabited α] (a : Option Addr) (c : Nat) (fv : Value) (w : World) :
    Calls Ybaz.prog 112 #[.slice a 0 c, fv] w fun e w' => e = .returned (.bool false) ∧ w' = w := AnyE.slices_ContainsFunc_empty Ybaz.laysSlH8_f112 a c fv w
open Go.RowKit Go.Lib in
/-- The same at a slice of length 0, a nil one too. (LAID AT THE INSTANCE 'slices.ContainsFunc[[]int,int]': no walk: one application.) -/
theorem Ybaz.slices_ContainsFunc_empty_f114 {α : Type} [Inhabited α] (a : Option Addr) (c : Nat) (fv : Value) (w : World) :
    Calls Ybaz.prog 114 #[.slice a 0 c, fv] w fun e w' => e = .returned (.bool false) ∧ w' = w := AnyE.slices_ContainsFunc_empty Ybaz.laysSlH8_f114 a c fv w
def Ybaz.laysSlH10_f34_ren : Go.Shelf.Ren := ⟨fun | 10 => 34 | 6 => 79 | n => n, fun | 22 => 77 | 23 => 21 | 25 => 153 | 3 => 3 | 4 => 4 | 0 => 0 | n => n, fun | n => n⟩
theorem Ybaz.laysSlH10_f34 : Go.Proofs.SlLaysH.n10 Ybaz.prog Ybaz.laysSlH10_f34_ren := {
  mixed := by kernel_rfl
  f6 := ⟨Ybaz.f79.name, by decide, Ybaz.func79.trans (congrArg some (by kernel_rfl))⟩
  f10 := ⟨Ybaz.f34.name, by decide, Ybaz.func34.trans (congrArg some (by kernel_rfl))⟩
  t0 := Ybaz.underlying0
  a0 := Ybaz.isAgg0
  z0 := Ybaz.sizeOf0
  v0 := Ybaz.zeroValue0
  t3 := Ybaz.underlying3
  a3 := Ybaz.isAgg3
  z3 := Ybaz.sizeOf3
  v3 := Ybaz.zeroValue3
  t4 := Ybaz.underlying4
  a4 := Ybaz.isAgg4
  z4 := Ybaz.sizeOf4
  v4 := Ybaz.zeroValue4
  t22 := Ybaz.underlying77
  a22 := Ybaz.isAgg77
  z22 := Ybaz.sizeOf77
  v22 := Ybaz.zeroValue77
  a23 := Ybaz.isAgg21
  z23 := Ybaz.sizeOf21
  t25 := Ybaz.underlying153
  a25 := Ybaz.isAgg153
  z25 := Ybaz.sizeOf153
  v25 := Ybaz.zeroValue153 }
open Go.RowKit Go.Lib Go.Sort in
theorem Ybaz.slices_DeleteFunc_f34 {α : Type} [Inhabited α] (enc : α → Value) (hO : OneCell enc) (p : α → Bool) (g : Nat) (lb : Array Value) (eg : ∀ args w, (callFunc g args).run Ybaz.prog w = .ok (.enter g args) w) (zr : α) (v23 : ∀ w, (zeroValue 21).run Ybaz.prog w = .ok (enc zr) w) (blk off cap : Nat) (d : Array α) (w : World) (hp : PredAt Ybaz.prog g lb enc p w) (hpo : PredOver Ybaz.prog g lb enc p blk off d.size w) (hH : Holds enc w blk off d) (hsz : d.size ≤ 9223372036854775807) (hcap : d.size ≤ cap) :
    Calls Ybaz.prog 34 #[.slice (some ⟨blk, off, none⟩) d.size cap, .func (.func g) #[] lb] w fun e w' => e = .returned (.slice (some ⟨blk, off, none⟩) (d.toList.filter fun x => !p x).length cap) ∧ ∃ q, w' = putRow enc (Sort.ahead w q) blk off ((d.toList.filter fun x => !p x) ++ List.replicate (d.size - (d.toList.filter fun x => !p x).length) zr).toArray := AnyE.slices_DeleteFunc Ybaz.laysSlH10_f34 enc hO p g lb eg zr v23 blk off cap d w hp hpo hH hsz hcap
def Ybaz.laysSlH10_f121_ren : Go.Shelf.Ren := ⟨fun | 10 => 121 | 6 => 154 | n => n, fun | 22 => 23 | 23 => 3 | 25 => 232 | 3 => 3 | 4 => 4 | 0 => 0 | n => n, fun | n => n⟩
theorem Ybaz.laysSlH10_f121 : Go.Proofs.SlLaysH.n10 Ybaz.prog Ybaz.laysSlH10_f121_ren := {
  mixed := by kernel_rfl
  f6 := ⟨Ybaz.f154.name, by decide, Ybaz.func154.trans (congrArg some (by kernel_rfl))⟩
  f10 := ⟨Ybaz.f121.name, by decide, Ybaz.func121.trans (congrArg some (by kernel_rfl))⟩
  t0 := Ybaz.underlying0
  a0 := Ybaz.isAgg0
  z0 := Ybaz.sizeOf0
  v0 := Ybaz.zeroValue0
  t3 := Ybaz.underlying3
  a3 := Ybaz.isAgg3
  z3 := Ybaz.sizeOf3
  v3 := Ybaz.zeroValue3
  t4 := Ybaz.underlying4
  a4 := Ybaz.isAgg4
  z4 := Ybaz.sizeOf4
  v4 := Ybaz.zeroValue4
  t22 := Ybaz.underlying23
  a22 := Ybaz.isAgg23
  z22 := Ybaz.sizeOf23
  v22 := Ybaz.zeroValue23
  a23 := Ybaz.isAgg3
  z23 := Ybaz.sizeOf3
  t25 := Ybaz.underlying232
  a25 := Ybaz.isAgg232
  z25 := Ybaz.sizeOf232
  v25 := Ybaz.zeroValue232 }
open Go.RowKit Go.Lib Go.Sort in
theorem Ybaz.slices_DeleteFunc_f121 {α : Type} [Inhabited α] (enc : α → Value) (hO : OneCell enc) (p : α → Bool) (g : Nat) (lb : Array Value) (eg : ∀ args w, (callFunc g args).run Ybaz.prog w = .ok (.enter g args) w) (zr : α) (v23 : ∀ w, (zeroValue 3).run Ybaz.prog w = .ok (enc zr) w) (blk off cap : Nat) (d : Array α) (w : World) (hp : PredAt Ybaz.prog g lb enc p w) (hpo : PredOver Ybaz.prog g lb enc p blk off d.size w) (hH : Holds enc w blk off d) (hsz : d.size ≤ 9223372036854775807) (hcap : d.size ≤ cap) :
    Calls Ybaz.prog 121 #[.slice (some ⟨blk, off, none⟩) d.size cap, .func (.func g) #[] lb] w fun e w' => e = .returned (.slice (some ⟨blk, off, none⟩) (d.toList.filter fun x => !p x).length cap) ∧ ∃ q, w' = putRow enc (Sort.ahead w q) blk off ((d.toList.filter fun x => !p x) ++ List.replicate (d.size - (d.toList.filter fun x => !p x).length) zr).toArray := AnyE.slices_DeleteFunc Ybaz.laysSlH10_f121 enc hO p g lb eg zr v23 blk off cap d w hp hpo hH hsz hcap
def Ybaz.laysSlM5_f86_ren : Go.Shelf.Ren := ⟨fun | 5 => 86 | 8 => 42 | 7 => 138 | 19 => 97 | 20 => 98 | 10 => 176 | 11 => 177 | 12 => 178 | 13 => 179 | 14 => 180 | 15 => 181 | 16 => 149 | 17 => 182 | 18 => 183 | 30 => 219 | 31 => 140 | 32 => 141 | 33 => 220 | 34 => 221 | 35 => 186 | 40 => 232 | n => n, fun | 23 => 23 | 25 => 3 | 3 => 3 | 32 => 163 | 22 => 23 | 0 => 0 | 44 => 100 | 46 => 32 | 4 => 4 | 36 => 235 | 35 => 234 | 41 => 238 | 5 => 5 | 9 => 9 | 53 => 284 | 57 => 288 | 63 => 330 | 64 => 331 | n => n, fun | n => n⟩
theorem Ybaz.laysSlM5_f86 : Go.Proofs.SlLaysM.n5 Ybaz.prog Ybaz.laysSlM5_f86_ren := {
  mixed := by kernel_rfl
  f5 := ⟨Ybaz.f86.name, by decide, Ybaz.func86.trans (congrArg some (by kernel_rfl))⟩
  f7 := ⟨Ybaz.f138.name, by decide, Ybaz.func138.trans (congrArg some (by kernel_rfl))⟩
  f8 := Ybaz.func42.trans (congrArg some (by kernel_rfl))
  f10 := ⟨Ybaz.f176.name, by decide, Ybaz.func176.trans (congrArg some (by kernel_rfl))⟩
  f11 := ⟨Ybaz.f177.name, by decide, Ybaz.func177.trans (congrArg some (by kernel_rfl))⟩
  f12 := ⟨Ybaz.f178.name, by decide, Ybaz.func178.trans (congrArg some (by kernel_rfl))⟩
  f13 := ⟨Ybaz.f179.name, by decide, Ybaz.func179.trans (congrArg some (by kernel_rfl))⟩
  f14 := ⟨Ybaz.f180.name, by decide, Ybaz.func180.trans (congrArg some (by kernel_rfl))⟩
  f15 := ⟨Ybaz.f181.name, by decide, Ybaz.func181.trans (congrArg some (by kernel_rfl))⟩
  f16 := ⟨Ybaz.f149.name, by decide, Ybaz.func149.trans (congrArg some (by kernel_rfl))⟩
  f17 := ⟨Ybaz.f182.name, by decide, Ybaz.func182.trans (congrArg some (by kernel_rfl))⟩
  f18 := ⟨Ybaz.f183.name, by decide, Ybaz.func183.trans (congrArg some (by kernel_rfl))⟩
  f19 := Ybaz.func97.trans (congrArg some (by kernel_rfl))
  f20 := Ybaz.func98.trans (congrArg some (by kernel_rfl))
  f30 := ⟨Ybaz.f219.name, by decide, Ybaz.func219.trans (congrArg some (by kernel_rfl))⟩
  f31 := Ybaz.func140.trans (congrArg some (by kernel_rfl))
  f32 := Ybaz.func141.trans (congrArg some (by kernel_rfl))
  f33 := ⟨Ybaz.f220.name, by decide, Ybaz.func220.trans (congrArg some (by kernel_rfl))⟩
  f34 := ⟨Ybaz.f221.name, by decide, Ybaz.func221.trans (congrArg some (by kernel_rfl))⟩
  f35 := ⟨Ybaz.f186.name, by decide, Ybaz.func186.trans (congrArg some (by kernel_rfl))⟩
  f40 := ⟨Ybaz.f232.name, by decide, Ybaz.func232.trans (congrArg some (by kernel_rfl))⟩
  t0 := Ybaz.underlying0
  a0 := Ybaz.isAgg0
  z0 := Ybaz.sizeOf0
  v0 := Ybaz.zeroValue0
  t3 := Ybaz.underlying3
  a3 := Ybaz.isAgg3
  z3 := Ybaz.sizeOf3
  v3 := Ybaz.zeroValue3
  t4 := Ybaz.underlying4
  a4 := Ybaz.isAgg4
  z4 := Ybaz.sizeOf4
  v4 := Ybaz.zeroValue4
  t5 := Ybaz.underlying5
  a5 := Ybaz.isAgg5
  z5 := Ybaz.sizeOf5
  v5 := Ybaz.zeroValue5
  t9 := Ybaz.underlying9
  a9 := Ybaz.isAgg9
  z9 := Ybaz.sizeOf9
  v9 := Ybaz.zeroValue9
  t22 := Ybaz.underlying23
  a22 := Ybaz.isAgg23
  z22 := Ybaz.sizeOf23
  v22 := Ybaz.zeroValue23
  t23 := Ybaz.underlying23
  a23 := Ybaz.isAgg23
  z23 := Ybaz.sizeOf23
  v23 := Ybaz.zeroValue23
  t25 := Ybaz.underlying3
  a25 := Ybaz.isAgg3
  z25 := Ybaz.sizeOf3
  v25 := Ybaz.zeroValue3
  t32 := Ybaz.underlying163
  a32 := Ybaz.isAgg163
  z32 := Ybaz.sizeOf163
  v32 := Ybaz.zeroValue163
  t35 := Ybaz.underlying234
  a35 := Ybaz.isAgg234
  z35 := Ybaz.sizeOf234
  v35 := Ybaz.zeroValue234
  t36 := Ybaz.underlying235
  a36 := Ybaz.isAgg235
  z36 := Ybaz.sizeOf235
  v36 := Ybaz.zeroValue235
  t41 := Ybaz.underlying238
  a41 := Ybaz.isAgg238
  z41 := Ybaz.sizeOf238
  v41 := Ybaz.zeroValue238
  t44 := Ybaz.underlying100
  a44 := Ybaz.isAgg100
  z44 := Ybaz.sizeOf100
  v44 := Ybaz.zeroValue100
  t46 := Ybaz.underlying32
  a46 := Ybaz.isAgg32
  z46 := Ybaz.sizeOf32
  v46 := Ybaz.zeroValue32
  t53 := Ybaz.underlying284
  a53 := Ybaz.isAgg284
  z53 := Ybaz.sizeOf284
  v53 := Ybaz.zeroValue284
  t57 := Ybaz.underlying288
  a57 := Ybaz.isAgg288
  z57 := Ybaz.sizeOf288
  v57 := Ybaz.zeroValue288
  t63 := Ybaz.underlying330
  a63 := Ybaz.isAgg330
  z63 := Ybaz.sizeOf330
  v63 := Ybaz.zeroValue330
  t64 := Ybaz.underlying331
  a64 := Ybaz.isAgg331
  z64 := Ybaz.sizeOf331
  v64 := Ybaz.zeroValue331 }
open Go.Sort Go.RowKit in
theorem Ybaz.slices_Sort_int (blk off cap : Nat) (zs : List Int) (w : World) (hH : Holds (Value.int .i64) w blk off zs.toArray) (hblk : blk < w.heap.size) (hsz : zs.length < 4611686018427387904) :
    Calls Ybaz.prog 86 #[.slice (some ⟨blk, off, none⟩) zs.length cap] w fun e w' =>
      e = .returned (.tuple #[]) ∧ ∃ n os, w' = grow (putRow (Value.int .i64) (Sort.ahead w n) blk off (zs.mergeSort fun x y => decide (x ≤ y)).toArray) os := AnyM.slices_Sort_int Ybaz.laysSlM5_f86 blk off cap zs w hH hblk hsz
def Ybaz.laysSlM6_f15_ren : Go.Shelf.Ren := ⟨fun | 6 => 15 | 8 => 42 | 9 => 41 | 19 => 97 | 20 => 98 | 21 => 88 | 22 => 89 | 23 => 90 | 24 => 91 | 25 => 92 | 26 => 93 | 27 => 94 | 28 => 95 | 29 => 96 | 36 => 139 | 31 => 140 | 32 => 141 | 37 => 142 | 38 => 143 | 39 => 144 | 41 => 184 | n => n, fun | 27 => 22 | 29 => 9 | 3 => 3 | 32 => 163 | 26 => 22 | 0 => 0 | 44 => 100 | 46 => 32 | 4 => 4 | 36 => 235 | 35 => 234 | 41 => 238 | 5 => 5 | 9 => 9 | 53 => 284 | 57 => 288 | 63 => 330 | 64 => 331 | n => n, fun | n => n⟩
theorem Ybaz.laysSlM6_f15 : Go.Proofs.SlLaysM.n6 Ybaz.prog Ybaz.laysSlM6_f15_ren := {
  mixed := by kernel_rfl
  f6 := ⟨Ybaz.f15.name, by decide, Ybaz.func15.trans (congrArg some (by kernel_rfl))⟩
  f8 := Ybaz.func42.trans (congrArg some (by kernel_rfl))
  f9 := ⟨Ybaz.f41.name, by decide, Ybaz.func41.trans (congrArg some (by kernel_rfl))⟩
  f19 := Ybaz.func97.trans (congrArg some (by kernel_rfl))
  f20 := Ybaz.func98.trans (congrArg some (by kernel_rfl))
  f21 := ⟨Ybaz.f88.name, by decide, Ybaz.func88.trans (congrArg some (by kernel_rfl))⟩
  f22 := ⟨Ybaz.f89.name, by decide, Ybaz.func89.trans (congrArg some (by kernel_rfl))⟩
  f23 := ⟨Ybaz.f90.name, by decide, Ybaz.func90.trans (congrArg some (by kernel_rfl))⟩
  f24 := ⟨Ybaz.f91.name, by decide, Ybaz.func91.trans (congrArg some (by kernel_rfl))⟩
  f25 := ⟨Ybaz.f92.name, by decide, Ybaz.func92.trans (congrArg some (by kernel_rfl))⟩
  f26 := ⟨Ybaz.f93.name, by decide, Ybaz.func93.trans (congrArg some (by kernel_rfl))⟩
  f27 := ⟨Ybaz.f94.name, by decide, Ybaz.func94.trans (congrArg some (by kernel_rfl))⟩
  f28 := ⟨Ybaz.f95.name, by decide, Ybaz.func95.trans (congrArg some (by kernel_rfl))⟩
  f29 := ⟨Ybaz.f96.name, by decide, Ybaz.func96.trans (congrArg some (by kernel_rfl))⟩
  f31 := Ybaz.func140.trans (congrArg some (by kernel_rfl))
  f32 := Ybaz.func141.trans (congrArg some (by kernel_rfl))
  f36 := ⟨Ybaz.f139.name, by decide, Ybaz.func139.trans (congrArg some (by kernel_rfl))⟩
  f37 := ⟨Ybaz.f142.name, by decide, Ybaz.func142.trans (congrArg some (by kernel_rfl))⟩
  f38 := ⟨Ybaz.f143.name, by decide, Ybaz.func143.trans (congrArg some (by kernel_rfl))⟩
  f39 := ⟨Ybaz.f144.name, by decide, Ybaz.func144.trans (congrArg some (by kernel_rfl))⟩
  f41 := ⟨Ybaz.f184.name, by decide, Ybaz.func184.trans (congrArg some (by kernel_rfl))⟩
  t0 := Ybaz.underlying0
  a0 := Ybaz.isAgg0
  z0 := Ybaz.sizeOf0
  v0 := Ybaz.zeroValue0
  t3 := Ybaz.underlying3
  a3 := Ybaz.isAgg3
  z3 := Ybaz.sizeOf3
  v3 := Ybaz.zeroValue3
  t4 := Ybaz.underlying4
  a4 := Ybaz.isAgg4
  z4 := Ybaz.sizeOf4
  v4 := Ybaz.zeroValue4
  t5 := Ybaz.underlying5
  a5 := Ybaz.isAgg5
  z5 := Ybaz.sizeOf5
  v5 := Ybaz.zeroValue5
  t9 := Ybaz.underlying9
  a9 := Ybaz.isAgg9
  z9 := Ybaz.sizeOf9
  v9 := Ybaz.zeroValue9
  t26 := Ybaz.underlying22
  a26 := Ybaz.isAgg22
  z26 := Ybaz.sizeOf22
  v26 := Ybaz.zeroValue22
  t27 := Ybaz.underlying22
  a27 := Ybaz.isAgg22
  z27 := Ybaz.sizeOf22
  v27 := Ybaz.zeroValue22
  t29 := Ybaz.underlying9
  a29 := Ybaz.isAgg9
  z29 := Ybaz.sizeOf9
  v29 := Ybaz.zeroValue9
  t32 := Ybaz.underlying163
  a32 := Ybaz.isAgg163
  z32 := Ybaz.sizeOf163
  v32 := Ybaz.zeroValue163
  t35 := Ybaz.underlying234
  a35 := Ybaz.isAgg234
  z35 := Ybaz.sizeOf234
  v35 := Ybaz.zeroValue234
  t36 := Ybaz.underlying235
  a36 := Ybaz.isAgg235
  z36 := Ybaz.sizeOf235
  v36 := Ybaz.zeroValue235
  t41 := Ybaz.underlying238
  a41 := Ybaz.isAgg238
  z41 := Ybaz.sizeOf238
  v41 := Ybaz.zeroValue238
  t44 := Ybaz.underlying100
  a44 := Ybaz.isAgg100
  z44 := Ybaz.sizeOf100
  v44 := Ybaz.zeroValue100
  t46 := Ybaz.underlying32
  a46 := Ybaz.isAgg32
  z46 := Ybaz.sizeOf32
  v46 := Ybaz.zeroValue32
  t53 := Ybaz.underlying284
  a53 := Ybaz.isAgg284
  z53 := Ybaz.sizeOf284
  v53 := Ybaz.zeroValue284
  t57 := Ybaz.underlying288
  a57 := Ybaz.isAgg288
  z57 := Ybaz.sizeOf288
  v57 := Ybaz.zeroValue288
  t63 := Ybaz.underlying330
  a63 := Ybaz.isAgg330
  z63 := Ybaz.sizeOf330
  v63 := Ybaz.zeroValue330
  t64 := Ybaz.underlying331
  a64 := Ybaz.isAgg331
  z64 := Ybaz.sizeOf331
  v64 := Ybaz.zeroValue331 }
open Go.Sort Go.RowKit in
theorem Ybaz.slices_Sort_string (blk off cap : Nat) (ss : List (List UInt8)) (w : World) (hH : Holds encStr w blk off ss.toArray) (hblk : blk < w.heap.size) (hsz : ss.length < 4611686018427387904) :
    Calls Ybaz.prog 15 #[.slice (some ⟨blk, off, none⟩) ss.length cap] w fun e w' =>
      e = .returned (.tuple #[]) ∧ ∃ n os, w' = grow (putRow encStr (Sort.ahead w n) blk off (ss.mergeSort fun x y => decide (x ≤ y)).toArray) os := AnyM.slices_Sort_string Ybaz.laysSlM6_f15 blk off cap ss w hH hblk hsz
open Go.RowKit Go.Sort in
/-- .. and plain. (LAID AT THE INSTANCE 'slices.Sort[[]string,string]': no walk: one application.) -/
theorem Ybaz.slices_Sort_string_none (p : Option Addr) (cap : Nat) (w : World) :
    Calls Ybaz.prog 15 #[.slice p 0 cap] w fun e w' => e = .returned (.tuple #[]) ∧ w' = w := AnyM.slices_Sort_string_none Ybaz.laysSlM6_f15 p cap w
open Go.RowKit Go.Sort in
/-- .. and plain. (LAID AT THE INSTANCE 'slices.Sort[[]int,int]': no walk: one application.) -/
theorem Ybaz.slices_Sort_int_none (p : Option Addr) (cap : Nat) (w : World) :
    Calls Ybaz.prog 86 #[.slice p 0 cap] w fun e w' => e = .returned (.tuple #[]) ∧ w' = w := AnyM.slices_Sort_int_none Ybaz.laysSlM5_f86 p cap w
end Go.Proofs
