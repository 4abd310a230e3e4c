/-
  The shelf's laying of slices.SortFunc at this program (function 18), in plain words: written by the kit's lay-plain tool for this program.
-/
import Derived.Shelf.SlLaysF0
import Derived.Test.YbulkchviProg
set_option maxRecDepth 100000
namespace Go.Proofs
open Go.Shelf
def Yba.sortRun_ren : Go.Shelf.Ren := ⟨fun | 6 => 18 | 15 => 22 | 14 => 21 | 28 => 32 | 29 => 33 | 20 => 24 | 21 => 25 | 22 => 26 | 23 => 27 | 24 => 28 | 25 => 29 | 26 => 30 | 27 => 31 | 46 => 34 | 47 => 35 | 48 => 36 | 49 => 37 | 50 => 38 | 57 => 39 | n => n, fun | 22 => 52 | 24 => 57 | 25 => 82 | 3 => 3 | 39 => 86 | 0 => 0 | 53 => 97 | 55 => 22 | 4 => 4 | 46 => 90 | 45 => 89 | 50 => 94 | 5 => 5 | 9 => 9 | 66 => 99 | 70 => 103 | 76 => 105 | 77 => 106 | n => n, fun | n => n⟩
theorem Yba.sortRun : Go.Proofs.SlLaysF0.n6 Yba.prog Yba.sortRun_ren := {
  mixed := by kernel_rfl
  f6 := ⟨Yba.f18.name, by decide, Yba.func18.trans (congrArg some (by kernel_rfl))⟩
  f14 := ⟨Yba.f21.name, by decide, Yba.func21.trans (congrArg some (by kernel_rfl))⟩
  f15 := Yba.func22.trans (congrArg some (by kernel_rfl))
  f20 := ⟨Yba.f24.name, by decide, Yba.func24.trans (congrArg some (by kernel_rfl))⟩
  f21 := ⟨Yba.f25.name, by decide, Yba.func25.trans (congrArg some (by kernel_rfl))⟩
  f22 := ⟨Yba.f26.name, by decide, Yba.func26.trans (congrArg some (by kernel_rfl))⟩
  f23 := ⟨Yba.f27.name, by decide, Yba.func27.trans (congrArg some (by kernel_rfl))⟩
  f24 := ⟨Yba.f28.name, by decide, Yba.func28.trans (congrArg some (by kernel_rfl))⟩
  f25 := ⟨Yba.f29.name, by decide, Yba.func29.trans (congrArg some (by kernel_rfl))⟩
  f26 := ⟨Yba.f30.name, by decide, Yba.func30.trans (congrArg some (by kernel_rfl))⟩
  f27 := ⟨Yba.f31.name, by decide, Yba.func31.trans (congrArg some (by kernel_rfl))⟩
  f28 := Yba.func32.trans (congrArg some (by kernel_rfl))
  f29 := Yba.func33.trans (congrArg some (by kernel_rfl))
  f46 := ⟨Yba.f34.name, by decide, Yba.func34.trans (congrArg some (by kernel_rfl))⟩
  f47 := Yba.func35.trans (congrArg some (by kernel_rfl))
  f48 := Yba.func36.trans (congrArg some (by kernel_rfl))
  f49 := ⟨Yba.f37.name, by decide, Yba.func37.trans (congrArg some (by kernel_rfl))⟩
  f50 := ⟨Yba.f38.name, by decide, Yba.func38.trans (congrArg some (by kernel_rfl))⟩
  f57 := ⟨Yba.f39.name, by decide, Yba.func39.trans (congrArg some (by kernel_rfl))⟩
  t0 := Yba.underlying0
  a0 := Yba.isAgg0
  z0 := Yba.sizeOf0
  v0 := Yba.zeroValue0
  t3 := Yba.underlying3
  a3 := Yba.isAgg3
  z3 := Yba.sizeOf3
  v3 := Yba.zeroValue3
  t4 := Yba.underlying4
  a4 := Yba.isAgg4
  z4 := Yba.sizeOf4
  v4 := Yba.zeroValue4
  t5 := Yba.underlying5
  a5 := Yba.isAgg5
  z5 := Yba.sizeOf5
  v5 := Yba.zeroValue5
  t9 := Yba.underlying9
  a9 := Yba.isAgg9
  z9 := Yba.sizeOf9
  v9 := Yba.zeroValue9
  t22 := Yba.underlying52
  a22 := Yba.isAgg52
  z22 := Yba.sizeOf52
  v22 := Yba.zeroValue52
  t25 := Yba.underlying82
  a25 := Yba.isAgg82
  z25 := Yba.sizeOf82
  v25 := Yba.zeroValue82
  t39 := Yba.underlying86
  a39 := Yba.isAgg86
  z39 := Yba.sizeOf86
  v39 := Yba.zeroValue86
  t45 := Yba.underlying89
  a45 := Yba.isAgg89
  z45 := Yba.sizeOf89
  v45 := Yba.zeroValue89
  t46 := Yba.underlying90
  a46 := Yba.isAgg90
  z46 := Yba.sizeOf90
  v46 := Yba.zeroValue90
  t50 := Yba.underlying94
  a50 := Yba.isAgg94
  z50 := Yba.sizeOf94
  v50 := Yba.zeroValue94
  t53 := Yba.underlying97
  a53 := Yba.isAgg97
  z53 := Yba.sizeOf97
  v53 := Yba.zeroValue97
  t55 := Yba.underlying22
  a55 := Yba.isAgg22
  z55 := Yba.sizeOf22
  v55 := Yba.zeroValue22
  t66 := Yba.underlying99
  a66 := Yba.isAgg99
  z66 := Yba.sizeOf99
  v66 := Yba.zeroValue99
  t70 := Yba.underlying103
  a70 := Yba.isAgg103
  z70 := Yba.sizeOf103
  v70 := Yba.zeroValue103
  t76 := Yba.underlying105
  a76 := Yba.isAgg105
  z76 := Yba.sizeOf105
  v76 := Yba.zeroValue105
  t77 := Yba.underlying106
  a77 := Yba.isAgg106
  z77 := Yba.sizeOf106
  v77 := Yba.zeroValue106 }
end Go.Proofs
