/-
  slices.SortFunc's closure at this dump (function 38): the table of numbers and the facts, field by field (laid by the kit's tool in its plain mode).
-/
import Derived.Shelf.SlSortCmp.WholeK
import Derived.Test.Qxb6603349aProg
namespace Go.Proofs
open Go.Shelf
def Try.sortAcc_ren : Go.Shelf.Ren := ⟨fun | 6 => 38 | 15 => 43 | 14 => 42 | 28 => 55 | 29 => 56 | 20 => 47 | 21 => 48 | 22 => 49 | 23 => 50 | 24 => 51 | 25 => 52 | 26 => 53 | 27 => 54 | 46 => 58 | 47 => 59 | 48 => 60 | 49 => 61 | 50 => 62 | 57 => 64 | n => n, fun | 22 => 28 | 24 => 42 | 25 => 72 | 3 => 3 | 39 => 77 | 0 => 0 | 53 => 89 | 55 => 91 | 4 => 4 | 46 => 83 | 45 => 82 | 50 => 32 | 5 => 5 | 9 => 9 | 66 => 92 | 70 => 96 | 76 => 98 | 77 => 99 | n => n, fun | n => n⟩
theorem Try.sortAcc : Go.Proofs.SlLaysF0.n6 Try.prog Try.sortAcc_ren := {
  mixed := by kernel_rfl
  f6 := ⟨Try.f38.name, by decide, Try.func38.trans (congrArg some (by kernel_rfl))⟩
  f14 := ⟨Try.f42.name, by decide, Try.func42.trans (congrArg some (by kernel_rfl))⟩
  f15 := Try.func43.trans (congrArg some (by kernel_rfl))
  f20 := ⟨Try.f47.name, by decide, Try.func47.trans (congrArg some (by kernel_rfl))⟩
  f21 := ⟨Try.f48.name, by decide, Try.func48.trans (congrArg some (by kernel_rfl))⟩
  f22 := ⟨Try.f49.name, by decide, Try.func49.trans (congrArg some (by kernel_rfl))⟩
  f23 := ⟨Try.f50.name, by decide, Try.func50.trans (congrArg some (by kernel_rfl))⟩
  f24 := ⟨Try.f51.name, by decide, Try.func51.trans (congrArg some (by kernel_rfl))⟩
  f25 := ⟨Try.f52.name, by decide, Try.func52.trans (congrArg some (by kernel_rfl))⟩
  f26 := ⟨Try.f53.name, by decide, Try.func53.trans (congrArg some (by kernel_rfl))⟩
  f27 := ⟨Try.f54.name, by decide, Try.func54.trans (congrArg some (by kernel_rfl))⟩
  f28 := Try.func55.trans (congrArg some (by kernel_rfl))
  f29 := Try.func56.trans (congrArg some (by kernel_rfl))
  f46 := ⟨Try.f58.name, by decide, Try.func58.trans (congrArg some (by kernel_rfl))⟩
  f47 := Try.func59.trans (congrArg some (by kernel_rfl))
  f48 := Try.func60.trans (congrArg some (by kernel_rfl))
  f49 := ⟨Try.f61.name, by decide, Try.func61.trans (congrArg some (by kernel_rfl))⟩
  f50 := ⟨Try.f62.name, by decide, Try.func62.trans (congrArg some (by kernel_rfl))⟩
  f57 := ⟨Try.f64.name, by decide, Try.func64.trans (congrArg some (by kernel_rfl))⟩
  t0 := Try.underlying0
  a0 := Try.isAgg0
  z0 := Try.sizeOf0
  v0 := Try.zeroValue0
  t3 := Try.underlying3
  a3 := Try.isAgg3
  z3 := Try.sizeOf3
  v3 := Try.zeroValue3
  t4 := Try.underlying4
  a4 := Try.isAgg4
  z4 := Try.sizeOf4
  v4 := Try.zeroValue4
  t5 := Try.underlying5
  a5 := Try.isAgg5
  z5 := Try.sizeOf5
  v5 := Try.zeroValue5
  t9 := Try.underlying9
  a9 := Try.isAgg9
  z9 := Try.sizeOf9
  v9 := Try.zeroValue9
  t22 := Try.underlying28
  a22 := Try.isAgg28
  z22 := Try.sizeOf28
  v22 := Try.zeroValue28
  t25 := Try.underlying72
  a25 := Try.isAgg72
  z25 := Try.sizeOf72
  v25 := Try.zeroValue72
  t39 := Try.underlying77
  a39 := Try.isAgg77
  z39 := Try.sizeOf77
  v39 := Try.zeroValue77
  t45 := Try.underlying82
  a45 := Try.isAgg82
  z45 := Try.sizeOf82
  v45 := Try.zeroValue82
  t46 := Try.underlying83
  a46 := Try.isAgg83
  z46 := Try.sizeOf83
  v46 := Try.zeroValue83
  t50 := Try.underlying32
  a50 := Try.isAgg32
  z50 := Try.sizeOf32
  v50 := Try.zeroValue32
  t53 := Try.underlying89
  a53 := Try.isAgg89
  z53 := Try.sizeOf89
  v53 := Try.zeroValue89
  t55 := Try.underlying91
  a55 := Try.isAgg91
  z55 := Try.sizeOf91
  v55 := Try.zeroValue91
  t66 := Try.underlying92
  a66 := Try.isAgg92
  z66 := Try.sizeOf92
  v66 := Try.zeroValue92
  t70 := Try.underlying96
  a70 := Try.isAgg96
  z70 := Try.sizeOf96
  v70 := Try.zeroValue96
  t76 := Try.underlying98
  a76 := Try.isAgg98
  z76 := Try.sizeOf98
  v76 := Try.zeroValue98
  t77 := Try.underlying99
  a77 := Try.isAgg99
  z77 := Try.sizeOf99
  v77 := Try.zeroValue99 }
end Go.Proofs
