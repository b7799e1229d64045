/-
  slices.SortFunc at []cluster.Wave (73): the shelf's contract laid at this dump, in plain words (by the kit's lay-plain.mjs).
-/
import Derived.Shelf.SlSortCmp.WholeK
import Derived.Test.Qxb6003667aProg
namespace Go.Proofs
open Go.Shelf
def Try.sortW_ren : Go.Shelf.Ren := ⟨fun | 6 => 73 | 15 => 87 | 14 => 86 | 28 => 101 | 29 => 102 | 20 => 93 | 21 => 94 | 22 => 95 | 23 => 96 | 24 => 97 | 25 => 98 | 26 => 99 | 27 => 100 | 46 => 105 | 47 => 106 | 48 => 107 | 49 => 108 | 50 => 109 | 57 => 110 | n => n, fun | 22 => 83 | 24 => 35 | 25 => 133 | 3 => 3 | 39 => 88 | 0 => 0 | 53 => 162 | 55 => 28 | 4 => 4 | 46 => 156 | 45 => 155 | 50 => 64 | 5 => 5 | 9 => 9 | 66 => 166 | 70 => 170 | 76 => 172 | 77 => 173 | n => n, fun | n => n⟩
theorem Try.sortW : Go.Proofs.SlLaysF0.n6 Try.prog Try.sortW_ren := {
  mixed := by kernel_rfl
  f6 := ⟨Try.f73.name, by decide, Try.func73.trans (congrArg some (by kernel_rfl))⟩
  f14 := ⟨Try.f86.name, by decide, Try.func86.trans (congrArg some (by kernel_rfl))⟩
  f15 := Try.func87.trans (congrArg some (by kernel_rfl))
  f20 := ⟨Try.f93.name, by decide, Try.func93.trans (congrArg some (by kernel_rfl))⟩
  f21 := ⟨Try.f94.name, by decide, Try.func94.trans (congrArg some (by kernel_rfl))⟩
  f22 := ⟨Try.f95.name, by decide, Try.func95.trans (congrArg some (by kernel_rfl))⟩
  f23 := ⟨Try.f96.name, by decide, Try.func96.trans (congrArg some (by kernel_rfl))⟩
  f24 := ⟨Try.f97.name, by decide, Try.func97.trans (congrArg some (by kernel_rfl))⟩
  f25 := ⟨Try.f98.name, by decide, Try.func98.trans (congrArg some (by kernel_rfl))⟩
  f26 := ⟨Try.f99.name, by decide, Try.func99.trans (congrArg some (by kernel_rfl))⟩
  f27 := ⟨Try.f100.name, by decide, Try.func100.trans (congrArg some (by kernel_rfl))⟩
  f28 := Try.func101.trans (congrArg some (by kernel_rfl))
  f29 := Try.func102.trans (congrArg some (by kernel_rfl))
  f46 := ⟨Try.f105.name, by decide, Try.func105.trans (congrArg some (by kernel_rfl))⟩
  f47 := Try.func106.trans (congrArg some (by kernel_rfl))
  f48 := Try.func107.trans (congrArg some (by kernel_rfl))
  f49 := ⟨Try.f108.name, by decide, Try.func108.trans (congrArg some (by kernel_rfl))⟩
  f50 := ⟨Try.f109.name, by decide, Try.func109.trans (congrArg some (by kernel_rfl))⟩
  f57 := ⟨Try.f110.name, by decide, Try.func110.trans (congrArg some (by kernel_rfl))⟩
  t0 := Try.underlying0
  a0 := Try.isAgg0
  z0 := Try.sizeOf0
  v0 := Try.zeroValue0
  t3 := Try.underlying3
  a3 := Try.isAgg3
  z3 := Try.sizeOf3
  v3 := Try.zeroValue3
  t4 := Try.underlying4
  a4 := Try.isAgg4
  z4 := Try.sizeOf4
  v4 := Try.zeroValue4
  t5 := Try.underlying5
  a5 := Try.isAgg5
  z5 := Try.sizeOf5
  v5 := Try.zeroValue5
  t9 := Try.underlying9
  a9 := Try.isAgg9
  z9 := Try.sizeOf9
  v9 := Try.zeroValue9
  t22 := Try.underlying83
  a22 := Try.isAgg83
  z22 := Try.sizeOf83
  v22 := Try.zeroValue83
  t25 := Try.underlying133
  a25 := Try.isAgg133
  z25 := Try.sizeOf133
  v25 := Try.zeroValue133
  t39 := Try.underlying88
  a39 := Try.isAgg88
  z39 := Try.sizeOf88
  v39 := Try.zeroValue88
  t45 := Try.underlying155
  a45 := Try.isAgg155
  z45 := Try.sizeOf155
  v45 := Try.zeroValue155
  t46 := Try.underlying156
  a46 := Try.isAgg156
  z46 := Try.sizeOf156
  v46 := Try.zeroValue156
  t50 := Try.underlying64
  a50 := Try.isAgg64
  z50 := Try.sizeOf64
  v50 := Try.zeroValue64
  t53 := Try.underlying162
  a53 := Try.isAgg162
  z53 := Try.sizeOf162
  v53 := Try.zeroValue162
  t55 := Try.underlying28
  a55 := Try.isAgg28
  z55 := Try.sizeOf28
  v55 := Try.zeroValue28
  t66 := Try.underlying166
  a66 := Try.isAgg166
  z66 := Try.sizeOf166
  v66 := Try.zeroValue166
  t70 := Try.underlying170
  a70 := Try.isAgg170
  z70 := Try.sizeOf170
  v70 := Try.zeroValue170
  t76 := Try.underlying172
  a76 := Try.isAgg172
  z76 := Try.sizeOf172
  v76 := Try.zeroValue172
  t77 := Try.underlying173
  a77 := Try.isAgg173
  z77 := Try.sizeOf173
  v77 := Try.zeroValue173 }
end Go.Proofs
