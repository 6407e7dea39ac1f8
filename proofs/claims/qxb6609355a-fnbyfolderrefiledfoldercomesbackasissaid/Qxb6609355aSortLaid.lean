/-
  slices.SortFunc at []*Page: the shelf's contract laid at this dump, in plain words.
-/
import Derived.Test.Qxb6609355aRows
import Derived.Shelf.SlSortCmp.Whole1
namespace Go.Proofs.Qxb6609355a
open Go.Shelf Go.RowKit Go.Lib Go.Sort

def sortRen : Go.Shelf.Ren := ⟨fun | 6 => 27 | 15 => 37 | 14 => 36 | 28 => 49 | 29 => 50 | 20 => 41 | 21 => 42 | 22 => 43 | 23 => 44 | 24 => 45 | 25 => 46 | 26 => 47 | 27 => 48 | 46 => 53 | 47 => 54 | 48 => 55 | 49 => 56 | 50 => 57 | 57 => 58 | n => n, fun | 22 => 26 | 24 => 42 | 25 => 67 | 3 => 3 | 39 => 79 | 0 => 0 | 53 => 93 | 55 => 51 | 4 => 4 | 46 => 87 | 45 => 86 | 50 => 47 | 5 => 5 | 9 => 9 | 66 => 96 | 70 => 100 | 76 => 102 | 77 => 103 | n => n, fun | n => n⟩
set_option maxRecDepth 100000 in
theorem sortLaid : Go.Proofs.SlLaysF.n6 Try.prog sortRen :=
  { mixed := by kernel_rfl
    f6 := ⟨Try.f27.name, by decide, Try.func27.trans (congrArg some (by kernel_rfl))⟩
    f14 := ⟨Try.f36.name, by decide, Try.func36.trans (congrArg some (by kernel_rfl))⟩
    f15 := Try.func37.trans (congrArg some (by kernel_rfl))
    f20 := ⟨Try.f41.name, by decide, Try.func41.trans (congrArg some (by kernel_rfl))⟩
    f21 := ⟨Try.f42.name, by decide, Try.func42.trans (congrArg some (by kernel_rfl))⟩
    f22 := ⟨Try.f43.name, by decide, Try.func43.trans (congrArg some (by kernel_rfl))⟩
    f23 := ⟨Try.f44.name, by decide, Try.func44.trans (congrArg some (by kernel_rfl))⟩
    f24 := ⟨Try.f45.name, by decide, Try.func45.trans (congrArg some (by kernel_rfl))⟩
    f25 := ⟨Try.f46.name, by decide, Try.func46.trans (congrArg some (by kernel_rfl))⟩
    f26 := ⟨Try.f47.name, by decide, Try.func47.trans (congrArg some (by kernel_rfl))⟩
    f27 := ⟨Try.f48.name, by decide, Try.func48.trans (congrArg some (by kernel_rfl))⟩
    f28 := Try.func49.trans (congrArg some (by kernel_rfl))
    f29 := Try.func50.trans (congrArg some (by kernel_rfl))
    f46 := ⟨Try.f53.name, by decide, Try.func53.trans (congrArg some (by kernel_rfl))⟩
    f47 := Try.func54.trans (congrArg some (by kernel_rfl))
    f48 := Try.func55.trans (congrArg some (by kernel_rfl))
    f49 := ⟨Try.f56.name, by decide, Try.func56.trans (congrArg some (by kernel_rfl))⟩
    f50 := ⟨Try.f57.name, by decide, Try.func57.trans (congrArg some (by kernel_rfl))⟩
    f57 := ⟨Try.f58.name, by decide, Try.func58.trans (congrArg some (by kernel_rfl))⟩
    t0 := Try.underlying0
    a0 := Try.isAgg0
    z0 := Try.sizeOf0
    v0 := Try.zeroValue0
    t3 := Try.underlying3
    a3 := Try.isAgg3
    z3 := Try.sizeOf3
    v3 := Try.zeroValue3
    t4 := Try.underlying4
    a4 := Try.isAgg4
    z4 := Try.sizeOf4
    v4 := Try.zeroValue4
    t5 := Try.underlying5
    a5 := Try.isAgg5
    z5 := Try.sizeOf5
    v5 := Try.zeroValue5
    t9 := Try.underlying9
    a9 := Try.isAgg9
    z9 := Try.sizeOf9
    v9 := Try.zeroValue9
    t22 := Try.underlying26
    a22 := Try.isAgg26
    z22 := Try.sizeOf26
    v22 := Try.zeroValue26
    a24 := Try.isAgg42
    z24 := Try.sizeOf42
    t25 := Try.underlying67
    a25 := Try.isAgg67
    z25 := Try.sizeOf67
    v25 := Try.zeroValue67
    t39 := Try.underlying79
    a39 := Try.isAgg79
    z39 := Try.sizeOf79
    v39 := Try.zeroValue79
    t45 := Try.underlying86
    a45 := Try.isAgg86
    z45 := Try.sizeOf86
    v45 := Try.zeroValue86
    t46 := Try.underlying87
    a46 := Try.isAgg87
    z46 := Try.sizeOf87
    v46 := Try.zeroValue87
    t50 := Try.underlying47
    a50 := Try.isAgg47
    z50 := Try.sizeOf47
    v50 := Try.zeroValue47
    t53 := Try.underlying93
    a53 := Try.isAgg93
    z53 := Try.sizeOf93
    v53 := Try.zeroValue93
    t55 := Try.underlying51
    a55 := Try.isAgg51
    z55 := Try.sizeOf51
    v55 := Try.zeroValue51
    t66 := Try.underlying96
    a66 := Try.isAgg96
    z66 := Try.sizeOf96
    v66 := Try.zeroValue96
    t70 := Try.underlying100
    a70 := Try.isAgg100
    z70 := Try.sizeOf100
    v70 := Try.zeroValue100
    t76 := Try.underlying102
    a76 := Try.isAgg102
    z76 := Try.sizeOf102
    v76 := Try.zeroValue102
    t77 := Try.underlying103
    a77 := Try.isAgg103
    z77 := Try.sizeOf103
    v77 := Try.zeroValue103 }
end Go.Proofs.Qxb6609355a
