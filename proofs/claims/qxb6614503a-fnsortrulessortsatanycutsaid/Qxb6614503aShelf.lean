/-
  slices.SortFunc's contract of the shelf, laid at this program in plain words (by the kit's tool lay-plain.mjs).
-/
import Derived.Test.Qxb6614503aProg
import Derived.Shelf.SlSortCmp.Whole1
set_option maxRecDepth 100000
namespace Go.Proofs
open Go.Shelf
def Try.sortL_ren : Go.Shelf.Ren := ⟨fun | 6 => 12 | 15 => 16 | 14 => 15 | 28 => 26 | 29 => 27 | 20 => 18 | 21 => 19 | 22 => 20 | 23 => 21 | 24 => 22 | 25 => 23 | 26 => 24 | 27 => 25 | 46 => 28 | 47 => 29 | 48 => 30 | 49 => 31 | 50 => 32 | 57 => 33 | n => n, fun | 22 => 25 | 24 => 43 | 25 => 48 | 3 => 3 | 39 => 51 | 0 => 0 | 53 => 38 | 55 => 63 | 4 => 4 | 46 => 55 | 45 => 54 | 50 => 59 | 5 => 5 | 9 => 9 | 66 => 64 | 70 => 68 | 76 => 70 | 77 => 71 | n => n, fun | n => n⟩
theorem Try.sortL : Go.Proofs.SlLaysF.n6 Try.prog Try.sortL_ren := {
  mixed := by kernel_rfl
  f6 := ⟨Try.f12.name, by decide, Try.func12.trans (congrArg some (by kernel_rfl))⟩
  f14 := ⟨Try.f15.name, by decide, Try.func15.trans (congrArg some (by kernel_rfl))⟩
  f15 := Try.func16.trans (congrArg some (by kernel_rfl))
  f20 := ⟨Try.f18.name, by decide, Try.func18.trans (congrArg some (by kernel_rfl))⟩
  f21 := ⟨Try.f19.name, by decide, Try.func19.trans (congrArg some (by kernel_rfl))⟩
  f22 := ⟨Try.f20.name, by decide, Try.func20.trans (congrArg some (by kernel_rfl))⟩
  f23 := ⟨Try.f21.name, by decide, Try.func21.trans (congrArg some (by kernel_rfl))⟩
  f24 := ⟨Try.f22.name, by decide, Try.func22.trans (congrArg some (by kernel_rfl))⟩
  f25 := ⟨Try.f23.name, by decide, Try.func23.trans (congrArg some (by kernel_rfl))⟩
  f26 := ⟨Try.f24.name, by decide, Try.func24.trans (congrArg some (by kernel_rfl))⟩
  f27 := ⟨Try.f25.name, by decide, Try.func25.trans (congrArg some (by kernel_rfl))⟩
  f28 := Try.func26.trans (congrArg some (by kernel_rfl))
  f29 := Try.func27.trans (congrArg some (by kernel_rfl))
  f46 := ⟨Try.f28.name, by decide, Try.func28.trans (congrArg some (by kernel_rfl))⟩
  f47 := Try.func29.trans (congrArg some (by kernel_rfl))
  f48 := Try.func30.trans (congrArg some (by kernel_rfl))
  f49 := ⟨Try.f31.name, by decide, Try.func31.trans (congrArg some (by kernel_rfl))⟩
  f50 := ⟨Try.f32.name, by decide, Try.func32.trans (congrArg some (by kernel_rfl))⟩
  f57 := ⟨Try.f33.name, by decide, Try.func33.trans (congrArg some (by kernel_rfl))⟩
  t0 := Try.underlying0
  a0 := Try.isAgg0
  z0 := Try.sizeOf0
  v0 := Try.zeroValue0
  t3 := Try.underlying3
  a3 := Try.isAgg3
  z3 := Try.sizeOf3
  v3 := Try.zeroValue3
  t4 := Try.underlying4
  a4 := Try.isAgg4
  z4 := Try.sizeOf4
  v4 := Try.zeroValue4
  t5 := Try.underlying5
  a5 := Try.isAgg5
  z5 := Try.sizeOf5
  v5 := Try.zeroValue5
  t9 := Try.underlying9
  a9 := Try.isAgg9
  z9 := Try.sizeOf9
  v9 := Try.zeroValue9
  t22 := Try.underlying25
  a22 := Try.isAgg25
  z22 := Try.sizeOf25
  v22 := Try.zeroValue25
  a24 := Try.isAgg43
  z24 := Try.sizeOf43
  t25 := Try.underlying48
  a25 := Try.isAgg48
  z25 := Try.sizeOf48
  v25 := Try.zeroValue48
  t39 := Try.underlying51
  a39 := Try.isAgg51
  z39 := Try.sizeOf51
  v39 := Try.zeroValue51
  t45 := Try.underlying54
  a45 := Try.isAgg54
  z45 := Try.sizeOf54
  v45 := Try.zeroValue54
  t46 := Try.underlying55
  a46 := Try.isAgg55
  z46 := Try.sizeOf55
  v46 := Try.zeroValue55
  t50 := Try.underlying59
  a50 := Try.isAgg59
  z50 := Try.sizeOf59
  v50 := Try.zeroValue59
  t53 := Try.underlying38
  a53 := Try.isAgg38
  z53 := Try.sizeOf38
  v53 := Try.zeroValue38
  t55 := Try.underlying63
  a55 := Try.isAgg63
  z55 := Try.sizeOf63
  v55 := Try.zeroValue63
  t66 := Try.underlying64
  a66 := Try.isAgg64
  z66 := Try.sizeOf64
  v66 := Try.zeroValue64
  t70 := Try.underlying68
  a70 := Try.isAgg68
  z70 := Try.sizeOf68
  v70 := Try.zeroValue68
  t76 := Try.underlying70
  a76 := Try.isAgg70
  z76 := Try.sizeOf70
  v76 := Try.zeroValue70
  t77 := Try.underlying71
  a77 := Try.isAgg71
  z77 := Try.sizeOf71
  v77 := Try.zeroValue71 }
end Go.Proofs
