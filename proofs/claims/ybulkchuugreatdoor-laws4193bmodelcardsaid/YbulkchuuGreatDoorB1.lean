import Derived.Test.YbulkchuuGreatDoorA
import Derived.Test.YbulkchuuGreatDoorShelf
import Derived.Test.YbulkchuuGreatDoorP2
import Derived.Test.YbulkchuuGreatDoorC2
import Derived.DeepKeys4
import Derived.Maps.OwnSet
import Derived.Maps.OwnRows
import Derived.Maps.RangeWalk
namespace Go.Proofs.YbulkchuuGreatDoor
open Go.RowKit Go.Maps
set_option linter.unusedVariables false
set_option linter.unusedSimpArgs false
set_option maxRecDepth 100000

/-- an element is read as itself -/
def Rh (v : Value) : Option (DataW Value × List MemPlace) := some (.held v, [])
theorem laidOutP : laidOutB Ybaz.prog = true := by kernel_rfl
theorem row125 : 125 < Ybaz.prog.types.size := of_decide_eq_true (show decide (125 < Ybaz.prog.types.size) = true by kernel_rfl)
theorem law125 : Keyed Ybaz.prog 125 := Keyed.of_law (deep_law_laid laidOutP (m := 3) (by omega) row125 (by kernel_rfl) (by kernel_rfl))
theorem cells125 : Ybaz.prog.cellsOf 125 = 3 := by kernel_rfl
theorem cells9 : Ybaz.prog.cellsOf 9 = 1 := by kernel_rfl
theorem cells4 : Ybaz.prog.cellsOf 4 = 1 := by kernel_rfl
theorem law9' : Keyed Ybaz.prog 9 := string_keyed Ybaz.underlying9
theorem key9' (s : ByteArray) (hs : s.size ≤ maxLen) : keyOf Ybaz.prog 9 (.string s) = some (.string s.data.toList) := Go.WideMaps.keyOf_string_mk Ybaz.underlying9 hs
def rkey (r p : ByteArray) : Value := .agg #[.string r, .string p, .bool false]
theorem keyType125 : Ybaz.prog.keyType 125 = true := by kernel_rfl
theorem formed125 (r p : ByteArray) : (rkey r p).formed Ybaz.prog 125 = true := by
  unfold rkey Value.formed
  rw [Ybaz.underlying125]
  kernel_rfl
theorem key125 (r p : ByteArray) (hr : r.size ≤ maxLen) (hp : p.size ≤ maxLen) : ∃ kl, keyOf Ybaz.prog 125 (rkey r p) = some kl := by
  obtain ⟨m, hm⟩ : ∃ m, Ybaz.prog.types.size + 1 = m + 2 := ⟨Ybaz.prog.types.size - 1, by have := row125; omega⟩
  unfold keyOf
  rw [Ybaz.underlying125]
  simp only [keyType125, formed125, Bool.and_self, if_true, hm]
  simp only [rkey, Value.cells]
  unfold Program.keyLits
  simp only [Ybaz.underlying125]
  rw [if_pos ⟨by rw [cells125]; rfl, by kernel_rfl⟩]
  simp only [List.mapM_cons, List.mapM_nil, cells9, cells4, List.drop, List.take, Program.keyLits, Ybaz.underlying9, Ybaz.underlying4, if_pos hr, if_pos hp]
  exact ⟨_, rfl⟩
theorem tab_below {w w' : World} {B : Nat} (h : Lib.TabIs Ybaz.prog w "internal/strconv.uint64pow10" .u64 Lib.pow10Tab) (hb : Below B w w') (hB : 8 ≤ B) : Lib.TabIs Ybaz.prog w' "internal/strconv.uint64pow10" .u64 Lib.pow10Tab := by
  have hg : Ybaz.prog.globalNamed "internal/strconv.uint64pow10" = some 4 := by kernel_rfl
  unfold Lib.TabIs World.var? at *
  rw [hg] at h ⊢
  simp only [Option.bind_some] at *
  rw [hb.block 4 (by omega)]
  exact h
theorem itoa_short : (List.range 301).all (fun i => decide ((Lib.itoa (i : Int)).length ≤ 20)) = true := by kernel_rfl
theorem itoa26 (i : Nat) (hi : i ≤ 300) (w : World) (htab : Lib.TabIs Ybaz.prog w "internal/strconv.uint64pow10" .u64 Lib.pow10Tab) :
    Calls Ybaz.prog 26 #[.int .i64 i] w fun e w' => (∃ s : ByteArray, e = .returned (.string s) ∧ s.size ≤ 20) ∧ Below w.heap.size w w' := by
  refine (Ybaz.strconv_Itoa (i : Int) (by omega) (by omega) w htab).mono ?_
  rintro e w' ⟨rfl, k, os, rfl⟩
  refine ⟨⟨_, rfl, ?_⟩, ?_⟩
  · have := List.all_eq_true.1 itoa_short i (by simp; omega)
    simpa [ByteArray.size] using this
  · exact ⟨rfl, rfl, rfl, by simp [Sort.grow], fun j hj => by simp [Sort.grow, World.drewN, Array.getElem?_append, hj]⟩
end Go.Proofs.YbulkchuuGreatDoor
