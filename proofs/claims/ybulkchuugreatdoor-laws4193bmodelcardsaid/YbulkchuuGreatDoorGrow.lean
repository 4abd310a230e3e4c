/-
  The shelf's laying of slices.Grow (function 69) at this program, in plain words: written by the kit's lay-plain tool for this program.
-/
import Derived.Shelf.Spec.SlicesGrow
import Derived.Ground.Names8Prog
import Derived.Test.YbulkchuuGreatDoorProg
set_option maxRecDepth 100000
namespace Go.Proofs
open Go.Shelf
def Ybaz.grow69_ren : Go.Shelf.Ren := ⟨fun | 4 => 69 | n => n, fun | 22 => 22 | 25 => 9 | 3 => 3 | 4 => 4 | 9 => 9 | 20 => 20 | 0 => 0 | n => n, fun | n => n⟩
theorem Ybaz.grow69 : Go.Proofs.Lays8.n4 Ybaz.prog Ybaz.grow69_ren := {
  mixed := by kernel_rfl
  f4 := ⟨Ybaz.f69.name, by decide, Ybaz.func69.trans (congrArg some (by kernel_rfl))⟩
  t0 := Ybaz.underlying0
  a0 := Ybaz.isAgg0
  z0 := Ybaz.sizeOf0
  v0 := Ybaz.zeroValue0
  t3 := Ybaz.underlying3
  a3 := Ybaz.isAgg3
  z3 := Ybaz.sizeOf3
  v3 := Ybaz.zeroValue3
  t4 := Ybaz.underlying4
  a4 := Ybaz.isAgg4
  z4 := Ybaz.sizeOf4
  v4 := Ybaz.zeroValue4
  t9 := Ybaz.underlying9
  a9 := Ybaz.isAgg9
  z9 := Ybaz.sizeOf9
  v9 := Ybaz.zeroValue9
  t20 := Ybaz.underlying20
  a20 := Ybaz.isAgg20
  z20 := Ybaz.sizeOf20
  v20 := Ybaz.zeroValue20
  t22 := Ybaz.underlying22
  a22 := Ybaz.isAgg22
  z22 := Ybaz.sizeOf22
  v22 := Ybaz.zeroValue22 }
end Go.Proofs
