/-
  slices.SortFunc of the shelf, laid at this translation (written by the kit's own tool).
-/
import Derived.Shelf.SlSortCmp.Whole1
import Derived.Shelf.SlGeneric
import Derived.Ground.SlsfProg
import Derived.Test.YbulkdasyProg
namespace Go.Proofs
open Go.Shelf
def Yba.sort23_ren : Go.Shelf.Ren := ⟨fun | 6 => 23 | 15 => 29 | 14 => 28 | 28 => 45 | 29 => 46 | 20 => 37 | 21 => 38 | 22 => 39 | 23 => 40 | 24 => 41 | 25 => 42 | 26 => 43 | 27 => 44 | 46 => 54 | 47 => 55 | 48 => 56 | 49 => 57 | 50 => 58 | 57 => 63 | n => n, fun | 22 => 27 | 24 => 3 | 25 => 89 | 3 => 3 | 39 => 96 | 0 => 0 | 53 => 120 | 55 => 122 | 4 => 4 | 46 => 113 | 45 => 112 | 50 => 117 | 5 => 5 | 9 => 9 | 66 => 133 | 70 => 137 | 76 => 141 | 77 => 142 | n => n, fun | n => n⟩
theorem Yba.sort23 : Go.Proofs.SlLaysF.n6 Yba.prog Yba.sort23_ren := {
  mixed := by kernel_rfl
  f6 := ⟨Yba.f23.name, by decide, Yba.func23.trans (congrArg some (by kernel_rfl))⟩
  f14 := ⟨Yba.f28.name, by decide, Yba.func28.trans (congrArg some (by kernel_rfl))⟩
  f15 := Yba.func29.trans (congrArg some (by kernel_rfl))
  f20 := ⟨Yba.f37.name, by decide, Yba.func37.trans (congrArg some (by kernel_rfl))⟩
  f21 := ⟨Yba.f38.name, by decide, Yba.func38.trans (congrArg some (by kernel_rfl))⟩
  f22 := ⟨Yba.f39.name, by decide, Yba.func39.trans (congrArg some (by kernel_rfl))⟩
  f23 := ⟨Yba.f40.name, by decide, Yba.func40.trans (congrArg some (by kernel_rfl))⟩
  f24 := ⟨Yba.f41.name, by decide, Yba.func41.trans (congrArg some (by kernel_rfl))⟩
  f25 := ⟨Yba.f42.name, by decide, Yba.func42.trans (congrArg some (by kernel_rfl))⟩
  f26 := ⟨Yba.f43.name, by decide, Yba.func43.trans (congrArg some (by kernel_rfl))⟩
  f27 := ⟨Yba.f44.name, by decide, Yba.func44.trans (congrArg some (by kernel_rfl))⟩
  f28 := Yba.func45.trans (congrArg some (by kernel_rfl))
  f29 := Yba.func46.trans (congrArg some (by kernel_rfl))
  f46 := ⟨Yba.f54.name, by decide, Yba.func54.trans (congrArg some (by kernel_rfl))⟩
  f47 := Yba.func55.trans (congrArg some (by kernel_rfl))
  f48 := Yba.func56.trans (congrArg some (by kernel_rfl))
  f49 := ⟨Yba.f57.name, by decide, Yba.func57.trans (congrArg some (by kernel_rfl))⟩
  f50 := ⟨Yba.f58.name, by decide, Yba.func58.trans (congrArg some (by kernel_rfl))⟩
  f57 := ⟨Yba.f63.name, by decide, Yba.func63.trans (congrArg some (by kernel_rfl))⟩
  t0 := Yba.underlying0
  a0 := Yba.isAgg0
  z0 := Yba.sizeOf0
  v0 := Yba.zeroValue0
  t3 := Yba.underlying3
  a3 := Yba.isAgg3
  z3 := Yba.sizeOf3
  v3 := Yba.zeroValue3
  t4 := Yba.underlying4
  a4 := Yba.isAgg4
  z4 := Yba.sizeOf4
  v4 := Yba.zeroValue4
  t5 := Yba.underlying5
  a5 := Yba.isAgg5
  z5 := Yba.sizeOf5
  v5 := Yba.zeroValue5
  t9 := Yba.underlying9
  a9 := Yba.isAgg9
  z9 := Yba.sizeOf9
  v9 := Yba.zeroValue9
  t22 := Yba.underlying27
  a22 := Yba.isAgg27
  z22 := Yba.sizeOf27
  v22 := Yba.zeroValue27
  a24 := Yba.isAgg3
  z24 := Yba.sizeOf3
  t25 := Yba.underlying89
  a25 := Yba.isAgg89
  z25 := Yba.sizeOf89
  v25 := Yba.zeroValue89
  t39 := Yba.underlying96
  a39 := Yba.isAgg96
  z39 := Yba.sizeOf96
  v39 := Yba.zeroValue96
  t45 := Yba.underlying112
  a45 := Yba.isAgg112
  z45 := Yba.sizeOf112
  v45 := Yba.zeroValue112
  t46 := Yba.underlying113
  a46 := Yba.isAgg113
  z46 := Yba.sizeOf113
  v46 := Yba.zeroValue113
  t50 := Yba.underlying117
  a50 := Yba.isAgg117
  z50 := Yba.sizeOf117
  v50 := Yba.zeroValue117
  t53 := Yba.underlying120
  a53 := Yba.isAgg120
  z53 := Yba.sizeOf120
  v53 := Yba.zeroValue120
  t55 := Yba.underlying122
  a55 := Yba.isAgg122
  z55 := Yba.sizeOf122
  v55 := Yba.zeroValue122
  t66 := Yba.underlying133
  a66 := Yba.isAgg133
  z66 := Yba.sizeOf133
  v66 := Yba.zeroValue133
  t70 := Yba.underlying137
  a70 := Yba.isAgg137
  z70 := Yba.sizeOf137
  v70 := Yba.zeroValue137
  t76 := Yba.underlying141
  a76 := Yba.isAgg141
  z76 := Yba.sizeOf141
  v76 := Yba.zeroValue141
  t77 := Yba.underlying142
  a77 := Yba.isAgg142
  z77 := Yba.sizeOf142
  v77 := Yba.zeroValue142 }
end Go.Proofs
