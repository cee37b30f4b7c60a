/-
  The layings of the library contracts at this seat (written by a tool of the kit): the table of numbers, then one fact of the dump a row. No condition.
-/
import Derived.Shelf.SlLaysF
import Derived.Shelf.SlSortCmp.Whole1
import Derived.Shelf.SlGeneric
import Derived.Test.YtdinnpjplgkffaaBase
namespace Go.Proofs.Ytdinnpjplgkffaa
open Go.Shelf
def laidSort_ren : Go.Shelf.Ren := ⟨fun | 6 => 28 | 15 => 31 | 14 => 30 | 28 => 40 | 29 => 41 | 20 => 32 | 21 => 33 | 22 => 34 | 23 => 35 | 24 => 36 | 25 => 37 | 26 => 38 | 27 => 39 | 46 => 42 | 47 => 43 | 48 => 44 | 49 => 45 | 50 => 46 | 57 => 47 | n => n, fun | 22 => 22 | 24 => 9 | 25 => 29 | 3 => 3 | 39 => 50 | 0 => 0 | 53 => 60 | 55 => 62 | 4 => 4 | 46 => 53 | 45 => 52 | 50 => 57 | 5 => 5 | 9 => 9 | 66 => 63 | 70 => 67 | 76 => 69 | 77 => 70 | n => n, fun | n => n⟩
set_option maxRecDepth 1000000 in
theorem laidSort : Go.Proofs.SlLaysF.n6 Try.prog laidSort_ren := {
  mixed := by kernel_rfl
  f6 := ⟨Try.f28.name, by decide, Try.func28.trans (congrArg some (by kernel_rfl))⟩
  f14 := ⟨Try.f30.name, by decide, Try.func30.trans (congrArg some (by kernel_rfl))⟩
  f15 := Try.func31.trans (congrArg some (by kernel_rfl))
  f20 := ⟨Try.f32.name, by decide, Try.func32.trans (congrArg some (by kernel_rfl))⟩
  f21 := ⟨Try.f33.name, by decide, Try.func33.trans (congrArg some (by kernel_rfl))⟩
  f22 := ⟨Try.f34.name, by decide, Try.func34.trans (congrArg some (by kernel_rfl))⟩
  f23 := ⟨Try.f35.name, by decide, Try.func35.trans (congrArg some (by kernel_rfl))⟩
  f24 := ⟨Try.f36.name, by decide, Try.func36.trans (congrArg some (by kernel_rfl))⟩
  f25 := ⟨Try.f37.name, by decide, Try.func37.trans (congrArg some (by kernel_rfl))⟩
  f26 := ⟨Try.f38.name, by decide, Try.func38.trans (congrArg some (by kernel_rfl))⟩
  f27 := ⟨Try.f39.name, by decide, Try.func39.trans (congrArg some (by kernel_rfl))⟩
  f28 := Try.func40.trans (congrArg some (by kernel_rfl))
  f29 := Try.func41.trans (congrArg some (by kernel_rfl))
  f46 := ⟨Try.f42.name, by decide, Try.func42.trans (congrArg some (by kernel_rfl))⟩
  f47 := Try.func43.trans (congrArg some (by kernel_rfl))
  f48 := Try.func44.trans (congrArg some (by kernel_rfl))
  f49 := ⟨Try.f45.name, by decide, Try.func45.trans (congrArg some (by kernel_rfl))⟩
  f50 := ⟨Try.f46.name, by decide, Try.func46.trans (congrArg some (by kernel_rfl))⟩
  f57 := ⟨Try.f47.name, by decide, Try.func47.trans (congrArg some (by kernel_rfl))⟩
  t0 := Try.underlying0
  a0 := Try.isAgg0
  z0 := Try.sizeOf0
  v0 := Try.zeroValue0
  t3 := Try.underlying3
  a3 := Try.isAgg3
  z3 := Try.sizeOf3
  v3 := Try.zeroValue3
  t4 := Try.underlying4
  a4 := Try.isAgg4
  z4 := Try.sizeOf4
  v4 := Try.zeroValue4
  t5 := Try.underlying5
  a5 := Try.isAgg5
  z5 := Try.sizeOf5
  v5 := Try.zeroValue5
  t9 := Try.underlying9
  a9 := Try.isAgg9
  z9 := Try.sizeOf9
  v9 := Try.zeroValue9
  t22 := Try.underlying22
  a22 := Try.isAgg22
  z22 := Try.sizeOf22
  v22 := Try.zeroValue22
  a24 := Try.isAgg9
  z24 := Try.sizeOf9
  t25 := Try.underlying29
  a25 := Try.isAgg29
  z25 := Try.sizeOf29
  v25 := Try.zeroValue29
  t39 := Try.underlying50
  a39 := Try.isAgg50
  z39 := Try.sizeOf50
  v39 := Try.zeroValue50
  t45 := Try.underlying52
  a45 := Try.isAgg52
  z45 := Try.sizeOf52
  v45 := Try.zeroValue52
  t46 := Try.underlying53
  a46 := Try.isAgg53
  z46 := Try.sizeOf53
  v46 := Try.zeroValue53
  t50 := Try.underlying57
  a50 := Try.isAgg57
  z50 := Try.sizeOf57
  v50 := Try.zeroValue57
  t53 := Try.underlying60
  a53 := Try.isAgg60
  z53 := Try.sizeOf60
  v53 := Try.zeroValue60
  t55 := Try.underlying62
  a55 := Try.isAgg62
  z55 := Try.sizeOf62
  v55 := Try.zeroValue62
  t66 := Try.underlying63
  a66 := Try.isAgg63
  z66 := Try.sizeOf63
  v66 := Try.zeroValue63
  t70 := Try.underlying67
  a70 := Try.isAgg67
  z70 := Try.sizeOf67
  v70 := Try.zeroValue67
  t76 := Try.underlying69
  a76 := Try.isAgg69
  z76 := Try.sizeOf69
  v76 := Try.zeroValue69
  t77 := Try.underlying70
  a77 := Try.isAgg70
  z77 := Try.sizeOf70
  v77 := Try.zeroValue70 }
end Go.Proofs.Ytdinnpjplgkffaa
