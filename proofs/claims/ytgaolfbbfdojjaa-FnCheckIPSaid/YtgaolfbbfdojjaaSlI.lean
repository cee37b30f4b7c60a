/-
  The layings of the library contracts at this seat (written by a tool of the kit): the table of numbers, then one fact of the dump a row. No condition.
-/
import Derived.Shelf.SlLaysF
import Derived.Shelf.SlLaysG2
import Derived.Shelf.SlSortCmp.Whole1
import Derived.Shelf.SlCmpFuncs.BinarySearchFunc
import Derived.Shelf.SlGeneric
import Derived.Test.YtgaolfbbfdojjaaBase
namespace Go.Proofs.Ytgaolfbbfdojjaa
open Go.Shelf
def laidSort_ren : Go.Shelf.Ren := ⟨fun | 6 => 57 | 15 => 60 | 14 => 59 | 28 => 69 | 29 => 70 | 20 => 61 | 21 => 62 | 22 => 63 | 23 => 64 | 24 => 65 | 25 => 66 | 26 => 67 | 27 => 68 | 46 => 71 | 47 => 72 | 48 => 73 | 49 => 74 | 50 => 75 | 57 => 76 | n => n, fun | 22 => 51 | 24 => 45 | 25 => 44 | 3 => 3 | 39 => 117 | 0 => 0 | 53 => 126 | 55 => 128 | 4 => 4 | 46 => 120 | 45 => 119 | 50 => 41 | 5 => 5 | 9 => 9 | 66 => 129 | 70 => 133 | 76 => 135 | 77 => 136 | n => n, fun | n => n⟩
set_option maxRecDepth 1000000 in
theorem laidSort : Go.Proofs.SlLaysF.n6 Try.prog laidSort_ren := {
  mixed := by kernel_rfl
  f6 := ⟨Try.f57.name, by decide, Try.func57.trans (congrArg some (by kernel_rfl))⟩
  f14 := ⟨Try.f59.name, by decide, Try.func59.trans (congrArg some (by kernel_rfl))⟩
  f15 := Try.func60.trans (congrArg some (by kernel_rfl))
  f20 := ⟨Try.f61.name, by decide, Try.func61.trans (congrArg some (by kernel_rfl))⟩
  f21 := ⟨Try.f62.name, by decide, Try.func62.trans (congrArg some (by kernel_rfl))⟩
  f22 := ⟨Try.f63.name, by decide, Try.func63.trans (congrArg some (by kernel_rfl))⟩
  f23 := ⟨Try.f64.name, by decide, Try.func64.trans (congrArg some (by kernel_rfl))⟩
  f24 := ⟨Try.f65.name, by decide, Try.func65.trans (congrArg some (by kernel_rfl))⟩
  f25 := ⟨Try.f66.name, by decide, Try.func66.trans (congrArg some (by kernel_rfl))⟩
  f26 := ⟨Try.f67.name, by decide, Try.func67.trans (congrArg some (by kernel_rfl))⟩
  f27 := ⟨Try.f68.name, by decide, Try.func68.trans (congrArg some (by kernel_rfl))⟩
  f28 := Try.func69.trans (congrArg some (by kernel_rfl))
  f29 := Try.func70.trans (congrArg some (by kernel_rfl))
  f46 := ⟨Try.f71.name, by decide, Try.func71.trans (congrArg some (by kernel_rfl))⟩
  f47 := Try.func72.trans (congrArg some (by kernel_rfl))
  f48 := Try.func73.trans (congrArg some (by kernel_rfl))
  f49 := ⟨Try.f74.name, by decide, Try.func74.trans (congrArg some (by kernel_rfl))⟩
  f50 := ⟨Try.f75.name, by decide, Try.func75.trans (congrArg some (by kernel_rfl))⟩
  f57 := ⟨Try.f76.name, by decide, Try.func76.trans (congrArg some (by kernel_rfl))⟩
  t0 := Try.underlying0
  a0 := Try.isAgg0
  z0 := Try.sizeOf0
  v0 := Try.zeroValue0
  t3 := Try.underlying3
  a3 := Try.isAgg3
  z3 := Try.sizeOf3
  v3 := Try.zeroValue3
  t4 := Try.underlying4
  a4 := Try.isAgg4
  z4 := Try.sizeOf4
  v4 := Try.zeroValue4
  t5 := Try.underlying5
  a5 := Try.isAgg5
  z5 := Try.sizeOf5
  v5 := Try.zeroValue5
  t9 := Try.underlying9
  a9 := Try.isAgg9
  z9 := Try.sizeOf9
  v9 := Try.zeroValue9
  t22 := Try.underlying51
  a22 := Try.isAgg51
  z22 := Try.sizeOf51
  v22 := Try.zeroValue51
  a24 := Try.isAgg45
  z24 := Try.sizeOf45
  t25 := Try.underlying44
  a25 := Try.isAgg44
  z25 := Try.sizeOf44
  v25 := Try.zeroValue44
  t39 := Try.underlying117
  a39 := Try.isAgg117
  z39 := Try.sizeOf117
  v39 := Try.zeroValue117
  t45 := Try.underlying119
  a45 := Try.isAgg119
  z45 := Try.sizeOf119
  v45 := Try.zeroValue119
  t46 := Try.underlying120
  a46 := Try.isAgg120
  z46 := Try.sizeOf120
  v46 := Try.zeroValue120
  t50 := Try.underlying41
  a50 := Try.isAgg41
  z50 := Try.sizeOf41
  v50 := Try.zeroValue41
  t53 := Try.underlying126
  a53 := Try.isAgg126
  z53 := Try.sizeOf126
  v53 := Try.zeroValue126
  t55 := Try.underlying128
  a55 := Try.isAgg128
  z55 := Try.sizeOf128
  v55 := Try.zeroValue128
  t66 := Try.underlying129
  a66 := Try.isAgg129
  z66 := Try.sizeOf129
  v66 := Try.zeroValue129
  t70 := Try.underlying133
  a70 := Try.isAgg133
  z70 := Try.sizeOf133
  v70 := Try.zeroValue133
  t76 := Try.underlying135
  a76 := Try.isAgg135
  z76 := Try.sizeOf135
  v76 := Try.zeroValue135
  t77 := Try.underlying136
  a77 := Try.isAgg136
  z77 := Try.sizeOf136
  v77 := Try.zeroValue136 }
def laidSearch_ren : Go.Shelf.Ren := ⟨fun | 14 => 98 | n => n, fun | 22 => 51 | 24 => 45 | 29 => 53 | 32 => 155 | 3 => 3 | 4 => 4 | 35 => 117 | 0 => 0 | n => n, fun | n => n⟩
set_option maxRecDepth 1000000 in
theorem laidSearch : Go.Proofs.SlLaysG2.n14 Try.prog laidSearch_ren := {
  mixed := by kernel_rfl
  f14 := ⟨Try.f98.name, by decide, Try.func98.trans (congrArg some (by kernel_rfl))⟩
  t0 := Try.underlying0
  a0 := Try.isAgg0
  z0 := Try.sizeOf0
  v0 := Try.zeroValue0
  t3 := Try.underlying3
  a3 := Try.isAgg3
  z3 := Try.sizeOf3
  v3 := Try.zeroValue3
  t4 := Try.underlying4
  a4 := Try.isAgg4
  z4 := Try.sizeOf4
  v4 := Try.zeroValue4
  t22 := Try.underlying51
  a22 := Try.isAgg51
  z22 := Try.sizeOf51
  v22 := Try.zeroValue51
  a24 := Try.isAgg45
  z24 := Try.sizeOf45
  a29 := Try.isAgg53
  z29 := Try.sizeOf53
  t32 := Try.underlying155
  a32 := Try.isAgg155
  z32 := Try.sizeOf155
  v32 := Try.zeroValue155
  t35 := Try.underlying117
  a35 := Try.isAgg117
  z35 := Try.sizeOf117
  v35 := Try.zeroValue117 }
end Go.Proofs.Ytgaolfbbfdojjaa
