/-
  DERIVED: THE SHELF's CONTRACTS AT THIS DUMP, IN PLAIN WORDS (tools/lay-plain.mjs out of 'YbulkdaxuLay.lean', which tools/lay-shelf.mjs wrote): THE SAME DECLARATIONS UNDER THE SAME NAMES: 'import', 'namespace', 'open', 'def', 'theorem' AND NOTHING ELSE: no command of the shelf's: FOR A HAND-IN. Each laying: the table of numbers ('.._ren') and one theorem, a field a fact of the dump's own or the kernel's comparison; each contract: ONE APPLICATION.
-/
import Derived.Shelf.Small.Bits
import Derived.Shelf.SlSortCmp.Xorshift
import Derived.Ground.NamesProg
import Derived.Ground.SlsfProg
import Derived.Test.YbulkdaxuProg
namespace Go.Proofs
open Go.Shelf
def Yba.bitsLen_ren : Go.Shelf.Ren := ⟨fun | 125 => 60 | 128 => 76 | 129 => 77 | n => n, fun | 46 => 125 | 3 => 3 | 51 => 32 | 53 => 107 | 4 => 4 | 5 => 5 | 9 => 9 | n => n, fun | n => n⟩
theorem Yba.bitsLen : Go.Proofs.Lays.n125 Yba.prog Yba.bitsLen_ren := {
  mixed := by kernel_rfl
  f125 := Yba.func60.trans (congrArg some (by kernel_rfl))
  f128 := Yba.func76.trans (congrArg some (by kernel_rfl))
  f129 := Yba.func77.trans (congrArg some (by kernel_rfl))
  t3 := Yba.underlying3
  a3 := Yba.isAgg3
  z3 := Yba.sizeOf3
  v3 := Yba.zeroValue3
  t4 := Yba.underlying4
  a4 := Yba.isAgg4
  z4 := Yba.sizeOf4
  v4 := Yba.zeroValue4
  t5 := Yba.underlying5
  a5 := Yba.isAgg5
  z5 := Yba.sizeOf5
  v5 := Yba.zeroValue5
  t9 := Yba.underlying9
  a9 := Yba.isAgg9
  z9 := Yba.sizeOf9
  v9 := Yba.zeroValue9
  t46 := Yba.underlying125
  a46 := Yba.isAgg125
  z46 := Yba.sizeOf125
  v46 := Yba.zeroValue125
  t51 := Yba.underlying32
  a51 := Yba.isAgg32
  z51 := Yba.sizeOf32
  v51 := Yba.zeroValue32
  t53 := Yba.underlying107
  a53 := Yba.isAgg107
  z53 := Yba.sizeOf107
  v53 := Yba.zeroValue107 }
def Yba.npow_ren : Go.Shelf.Ren := ⟨fun | 47 => 80 | 15 => 60 | 28 => 76 | 29 => 77 | n => n, fun | 3 => 3 | 39 => 125 | 53 => 32 | 55 => 107 | 4 => 4 | 5 => 5 | 9 => 9 | n => n, fun | n => n⟩
theorem Yba.npow : Go.Proofs.SlLaysF0.n47 Yba.prog Yba.npow_ren := {
  mixed := by kernel_rfl
  f15 := Yba.func60.trans (congrArg some (by kernel_rfl))
  f28 := Yba.func76.trans (congrArg some (by kernel_rfl))
  f29 := Yba.func77.trans (congrArg some (by kernel_rfl))
  f47 := Yba.func80.trans (congrArg some (by kernel_rfl))
  t3 := Yba.underlying3
  a3 := Yba.isAgg3
  z3 := Yba.sizeOf3
  v3 := Yba.zeroValue3
  t4 := Yba.underlying4
  a4 := Yba.isAgg4
  z4 := Yba.sizeOf4
  v4 := Yba.zeroValue4
  t5 := Yba.underlying5
  a5 := Yba.isAgg5
  z5 := Yba.sizeOf5
  v5 := Yba.zeroValue5
  t9 := Yba.underlying9
  a9 := Yba.isAgg9
  z9 := Yba.sizeOf9
  v9 := Yba.zeroValue9
  t39 := Yba.underlying125
  a39 := Yba.isAgg125
  z39 := Yba.sizeOf125
  v39 := Yba.zeroValue125
  t53 := Yba.underlying32
  a53 := Yba.isAgg32
  z53 := Yba.sizeOf32
  v53 := Yba.zeroValue32
  t55 := Yba.underlying107
  a55 := Yba.isAgg107
  z55 := Yba.sizeOf107
  v55 := Yba.zeroValue107 }
def Yba.xnext_ren : Go.Shelf.Ren := ⟨fun | 48 => 81 | n => n, fun | 76 => 147 | 55 => 107 | 0 => 0 | 66 => 141 | 39 => 125 | n => n, fun | n => n⟩
theorem Yba.xnext : Go.Proofs.SlLaysF0.n48 Yba.prog Yba.xnext_ren := {
  mixed := by kernel_rfl
  f48 := Yba.func81.trans (congrArg some (by kernel_rfl))
  t0 := Yba.underlying0
  a0 := Yba.isAgg0
  z0 := Yba.sizeOf0
  v0 := Yba.zeroValue0
  t39 := Yba.underlying125
  a39 := Yba.isAgg125
  z39 := Yba.sizeOf125
  v39 := Yba.zeroValue125
  t55 := Yba.underlying107
  a55 := Yba.isAgg107
  z55 := Yba.sizeOf107
  v55 := Yba.zeroValue107
  t66 := Yba.underlying141
  a66 := Yba.isAgg141
  z66 := Yba.sizeOf141
  v66 := Yba.zeroValue141
  t76 := Yba.underlying147
  a76 := Yba.isAgg147
  z76 := Yba.sizeOf147
  v76 := Yba.zeroValue147 }
end Go.Proofs
