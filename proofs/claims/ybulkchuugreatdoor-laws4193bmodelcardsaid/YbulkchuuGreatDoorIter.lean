/-
  The shelf's layings of maps.Keys (function 30) and slices.Sorted (29) at this program, in plain words: written by the kit's lay-iter and lay-plain tools for this program.
-/
import Derived.Shelf.SlIter.Nil
import Derived.Shelf.SortM.Plain
import Derived.Shelf.SortM.SortNone
import Derived.Ground.GgzProg
import Derived.Ground.SlgmProg
import Derived.Test.YbulkchuuGreatDoorProg
set_option maxRecDepth 100000
namespace Go.Proofs
open Go.Shelf
def Ybaz.keys30_ren : Go.Shelf.Ren := ⟨fun | 7 => 30 | 10 => 74 | n => n, fun | 23 => 137 | 26 => 9 | 3 => 93 | 28 => 143 | 0 => 0 | 27 => 142 | 33 => 219 | 4 => 4 | n => n, fun | n => n⟩
theorem Ybaz.keys30 : Go.Proofs.SlLaysZ.n7 Ybaz.prog Ybaz.keys30_ren := {
  mixed := by kernel_rfl
  f7 := ⟨Ybaz.f30.name, by decide, Ybaz.func30.trans (congrArg some (by kernel_rfl))⟩
  f10 := ⟨Ybaz.f74.name, by decide, Ybaz.func74.trans (congrArg some (by kernel_rfl))⟩
  t0 := Ybaz.underlying0
  a0 := Ybaz.isAgg0
  z0 := Ybaz.sizeOf0
  v0 := Ybaz.zeroValue0
  t4 := Ybaz.underlying4
  a4 := Ybaz.isAgg4
  z4 := Ybaz.sizeOf4
  v4 := Ybaz.zeroValue4
  t23 := Ybaz.underlying137
  a23 := Ybaz.isAgg137
  z23 := Ybaz.sizeOf137
  v23 := Ybaz.zeroValue137
  t26 := Ybaz.underlying9
  a26 := Ybaz.isAgg9
  z26 := Ybaz.sizeOf9
  v26 := Ybaz.zeroValue9
  t27 := Ybaz.underlying142
  a27 := Ybaz.isAgg142
  z27 := Ybaz.sizeOf142
  v27 := Ybaz.zeroValue142
  t28 := Ybaz.underlying143
  a28 := Ybaz.isAgg143
  z28 := Ybaz.sizeOf143
  v28 := Ybaz.zeroValue143
  t33 := Ybaz.underlying219
  a33 := Ybaz.isAgg219
  z33 := Ybaz.sizeOf219
  v33 := Ybaz.zeroValue219 }
def Ybaz.sorted29_ren : Go.Shelf.Ren := ⟨fun | 6 => 29 | 8 => 73 | 9 => 15 | 11 => 127 | 13 => 42 | 12 => 41 | 23 => 97 | 24 => 98 | 14 => 88 | 15 => 89 | 16 => 90 | 17 => 91 | 18 => 92 | 19 => 93 | 20 => 94 | 21 => 95 | 22 => 96 | 25 => 139 | 26 => 140 | 27 => 141 | 28 => 142 | 29 => 143 | 30 => 144 | 31 => 184 | n => n, fun | 26 => 9 | 28 => 143 | 24 => 22 | 0 => 0 | 3 => 3 | 37 => 163 | 48 => 100 | 50 => 32 | 4 => 4 | 40 => 235 | 39 => 234 | 45 => 238 | 5 => 5 | 9 => 9 | 51 => 284 | 55 => 288 | 57 => 330 | 58 => 331 | 33 => 219 | n => n, fun | n => n⟩
theorem Ybaz.sorted29 : Go.Proofs.SlLaysZ.n6 Ybaz.prog Ybaz.sorted29_ren := {
  mixed := by kernel_rfl
  f6 := ⟨Ybaz.f29.name, by decide, Ybaz.func29.trans (congrArg some (by kernel_rfl))⟩
  f8 := ⟨Ybaz.f73.name, by decide, Ybaz.func73.trans (congrArg some (by kernel_rfl))⟩
  f11 := ⟨Ybaz.f127.name, by decide, Ybaz.func127.trans (congrArg some (by kernel_rfl))⟩
  t0 := Ybaz.underlying0
  a0 := Ybaz.isAgg0
  z0 := Ybaz.sizeOf0
  v0 := Ybaz.zeroValue0
  t24 := Ybaz.underlying22
  a24 := Ybaz.isAgg22
  z24 := Ybaz.sizeOf22
  v24 := Ybaz.zeroValue22
  t26 := Ybaz.underlying9
  a26 := Ybaz.isAgg9
  z26 := Ybaz.sizeOf9
  v26 := Ybaz.zeroValue9
  t28 := Ybaz.underlying143
  a28 := Ybaz.isAgg143
  z28 := Ybaz.sizeOf143
  v28 := Ybaz.zeroValue143
  i26 := by kernel_rfl }
end Go.Proofs
