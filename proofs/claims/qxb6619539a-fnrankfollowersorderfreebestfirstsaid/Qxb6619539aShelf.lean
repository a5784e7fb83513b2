/-
  The shelf's laying of slices.SortFunc at this dump, in plain words (written by the kit's own tool for this program).
-/
import Derived.Shelf.SlSortCmp.WholeK
import Derived.Ground.SlsfProg
import Derived.Test.Qxb6619539aProg
namespace Go.Proofs
open Go.Shelf
def Try.sortL_ren : Go.Shelf.Ren := ⟨fun | 6 => 25 | 15 => 32 | 14 => 31 | 28 => 43 | 29 => 44 | 20 => 35 | 21 => 36 | 22 => 37 | 23 => 38 | 24 => 39 | 25 => 40 | 26 => 41 | 27 => 42 | 46 => 45 | 47 => 46 | 48 => 47 | 49 => 48 | 50 => 49 | 57 => 50 | n => n, fun | 22 => 46 | 24 => 49 | 25 => 59 | 3 => 3 | 39 => 52 | 0 => 0 | 53 => 75 | 55 => 23 | 4 => 4 | 46 => 68 | 45 => 67 | 50 => 72 | 5 => 5 | 9 => 9 | 66 => 77 | 70 => 81 | 76 => 83 | 77 => 84 | n => n, fun | n => n⟩
theorem Try.sortL : Go.Proofs.SlLaysF0.n6 Try.prog Try.sortL_ren := {
  mixed := by kernel_rfl
  f6 := ⟨Try.f25.name, by decide, Try.func25.trans (congrArg some (by kernel_rfl))⟩
  f14 := ⟨Try.f31.name, by decide, Try.func31.trans (congrArg some (by kernel_rfl))⟩
  f15 := Try.func32.trans (congrArg some (by kernel_rfl))
  f20 := ⟨Try.f35.name, by decide, Try.func35.trans (congrArg some (by kernel_rfl))⟩
  f21 := ⟨Try.f36.name, by decide, Try.func36.trans (congrArg some (by kernel_rfl))⟩
  f22 := ⟨Try.f37.name, by decide, Try.func37.trans (congrArg some (by kernel_rfl))⟩
  f23 := ⟨Try.f38.name, by decide, Try.func38.trans (congrArg some (by kernel_rfl))⟩
  f24 := ⟨Try.f39.name, by decide, Try.func39.trans (congrArg some (by kernel_rfl))⟩
  f25 := ⟨Try.f40.name, by decide, Try.func40.trans (congrArg some (by kernel_rfl))⟩
  f26 := ⟨Try.f41.name, by decide, Try.func41.trans (congrArg some (by kernel_rfl))⟩
  f27 := ⟨Try.f42.name, by decide, Try.func42.trans (congrArg some (by kernel_rfl))⟩
  f28 := Try.func43.trans (congrArg some (by kernel_rfl))
  f29 := Try.func44.trans (congrArg some (by kernel_rfl))
  f46 := ⟨Try.f45.name, by decide, Try.func45.trans (congrArg some (by kernel_rfl))⟩
  f47 := Try.func46.trans (congrArg some (by kernel_rfl))
  f48 := Try.func47.trans (congrArg some (by kernel_rfl))
  f49 := ⟨Try.f48.name, by decide, Try.func48.trans (congrArg some (by kernel_rfl))⟩
  f50 := ⟨Try.f49.name, by decide, Try.func49.trans (congrArg some (by kernel_rfl))⟩
  f57 := ⟨Try.f50.name, by decide, Try.func50.trans (congrArg some (by kernel_rfl))⟩
  t0 := Try.underlying0
  a0 := Try.isAgg0
  z0 := Try.sizeOf0
  v0 := Try.zeroValue0
  t3 := Try.underlying3
  a3 := Try.isAgg3
  z3 := Try.sizeOf3
  v3 := Try.zeroValue3
  t4 := Try.underlying4
  a4 := Try.isAgg4
  z4 := Try.sizeOf4
  v4 := Try.zeroValue4
  t5 := Try.underlying5
  a5 := Try.isAgg5
  z5 := Try.sizeOf5
  v5 := Try.zeroValue5
  t9 := Try.underlying9
  a9 := Try.isAgg9
  z9 := Try.sizeOf9
  v9 := Try.zeroValue9
  t22 := Try.underlying46
  a22 := Try.isAgg46
  z22 := Try.sizeOf46
  v22 := Try.zeroValue46
  t25 := Try.underlying59
  a25 := Try.isAgg59
  z25 := Try.sizeOf59
  v25 := Try.zeroValue59
  t39 := Try.underlying52
  a39 := Try.isAgg52
  z39 := Try.sizeOf52
  v39 := Try.zeroValue52
  t45 := Try.underlying67
  a45 := Try.isAgg67
  z45 := Try.sizeOf67
  v45 := Try.zeroValue67
  t46 := Try.underlying68
  a46 := Try.isAgg68
  z46 := Try.sizeOf68
  v46 := Try.zeroValue68
  t50 := Try.underlying72
  a50 := Try.isAgg72
  z50 := Try.sizeOf72
  v50 := Try.zeroValue72
  t53 := Try.underlying75
  a53 := Try.isAgg75
  z53 := Try.sizeOf75
  v53 := Try.zeroValue75
  t55 := Try.underlying23
  a55 := Try.isAgg23
  z55 := Try.sizeOf23
  v55 := Try.zeroValue23
  t66 := Try.underlying77
  a66 := Try.isAgg77
  z66 := Try.sizeOf77
  v66 := Try.zeroValue77
  t70 := Try.underlying81
  a70 := Try.isAgg81
  z70 := Try.sizeOf81
  v70 := Try.zeroValue81
  t76 := Try.underlying83
  a76 := Try.isAgg83
  z76 := Try.sizeOf83
  v76 := Try.zeroValue83
  t77 := Try.underlying84
  a77 := Try.isAgg84
  z77 := Try.sizeOf84
  v77 := Try.zeroValue84 }
end Go.Proofs
