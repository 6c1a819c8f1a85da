/-
  DERIVED: THE SHELF's CONTRACTS AT THIS DUMP, IN PLAIN WORDS (tools/lay-plain.mjs out of 'Qxb6627582aShelf.lean', which tools/lay-shelf.mjs wrote): THE SAME DECLARATIONS UNDER THE SAME NAMES: 'import', 'namespace', 'open', 'def', 'theorem' AND NOTHING ELSE: no command of the shelf's: FOR A HAND-IN. Each laying: the table of numbers ('.._ren') and one theorem, a field a fact of the dump's own or the kernel's comparison; each contract: ONE APPLICATION.
-/
import Derived.Shelf.SlSortCmp.WholeK
import Derived.Test.Qxb6627582aProg
namespace Go.Proofs
open Go.Shelf
def Try.sortEnt_ren : Go.Shelf.Ren := ⟨fun | 6 => 33 | 15 => 37 | 14 => 36 | 28 => 46 | 29 => 47 | 20 => 38 | 21 => 39 | 22 => 40 | 23 => 41 | 24 => 42 | 25 => 43 | 26 => 44 | 27 => 45 | 46 => 48 | 47 => 49 | 48 => 50 | 49 => 51 | 50 => 52 | 57 => 53 | n => n, fun | 22 => 45 | 24 => 55 | 25 => 66 | 3 => 3 | 39 => 72 | 0 => 0 | 53 => 82 | 55 => 84 | 4 => 4 | 46 => 75 | 45 => 74 | 50 => 79 | 5 => 5 | 9 => 9 | 66 => 85 | 70 => 89 | 76 => 91 | 77 => 34 | n => n, fun | n => n⟩
theorem Try.sortEnt : Go.Proofs.SlLaysF0.n6 Try.prog Try.sortEnt_ren := {
  mixed := by kernel_rfl
  f6 := ⟨Try.f33.name, by decide, Try.func33.trans (congrArg some (by kernel_rfl))⟩
  f14 := ⟨Try.f36.name, by decide, Try.func36.trans (congrArg some (by kernel_rfl))⟩
  f15 := Try.func37.trans (congrArg some (by kernel_rfl))
  f20 := ⟨Try.f38.name, by decide, Try.func38.trans (congrArg some (by kernel_rfl))⟩
  f21 := ⟨Try.f39.name, by decide, Try.func39.trans (congrArg some (by kernel_rfl))⟩
  f22 := ⟨Try.f40.name, by decide, Try.func40.trans (congrArg some (by kernel_rfl))⟩
  f23 := ⟨Try.f41.name, by decide, Try.func41.trans (congrArg some (by kernel_rfl))⟩
  f24 := ⟨Try.f42.name, by decide, Try.func42.trans (congrArg some (by kernel_rfl))⟩
  f25 := ⟨Try.f43.name, by decide, Try.func43.trans (congrArg some (by kernel_rfl))⟩
  f26 := ⟨Try.f44.name, by decide, Try.func44.trans (congrArg some (by kernel_rfl))⟩
  f27 := ⟨Try.f45.name, by decide, Try.func45.trans (congrArg some (by kernel_rfl))⟩
  f28 := Try.func46.trans (congrArg some (by kernel_rfl))
  f29 := Try.func47.trans (congrArg some (by kernel_rfl))
  f46 := ⟨Try.f48.name, by decide, Try.func48.trans (congrArg some (by kernel_rfl))⟩
  f47 := Try.func49.trans (congrArg some (by kernel_rfl))
  f48 := Try.func50.trans (congrArg some (by kernel_rfl))
  f49 := ⟨Try.f51.name, by decide, Try.func51.trans (congrArg some (by kernel_rfl))⟩
  f50 := ⟨Try.f52.name, by decide, Try.func52.trans (congrArg some (by kernel_rfl))⟩
  f57 := ⟨Try.f53.name, by decide, Try.func53.trans (congrArg some (by kernel_rfl))⟩
  t0 := Try.underlying0
  a0 := Try.isAgg0
  z0 := Try.sizeOf0
  v0 := Try.zeroValue0
  t3 := Try.underlying3
  a3 := Try.isAgg3
  z3 := Try.sizeOf3
  v3 := Try.zeroValue3
  t4 := Try.underlying4
  a4 := Try.isAgg4
  z4 := Try.sizeOf4
  v4 := Try.zeroValue4
  t5 := Try.underlying5
  a5 := Try.isAgg5
  z5 := Try.sizeOf5
  v5 := Try.zeroValue5
  t9 := Try.underlying9
  a9 := Try.isAgg9
  z9 := Try.sizeOf9
  v9 := Try.zeroValue9
  t22 := Try.underlying45
  a22 := Try.isAgg45
  z22 := Try.sizeOf45
  v22 := Try.zeroValue45
  t25 := Try.underlying66
  a25 := Try.isAgg66
  z25 := Try.sizeOf66
  v25 := Try.zeroValue66
  t39 := Try.underlying72
  a39 := Try.isAgg72
  z39 := Try.sizeOf72
  v39 := Try.zeroValue72
  t45 := Try.underlying74
  a45 := Try.isAgg74
  z45 := Try.sizeOf74
  v45 := Try.zeroValue74
  t46 := Try.underlying75
  a46 := Try.isAgg75
  z46 := Try.sizeOf75
  v46 := Try.zeroValue75
  t50 := Try.underlying79
  a50 := Try.isAgg79
  z50 := Try.sizeOf79
  v50 := Try.zeroValue79
  t53 := Try.underlying82
  a53 := Try.isAgg82
  z53 := Try.sizeOf82
  v53 := Try.zeroValue82
  t55 := Try.underlying84
  a55 := Try.isAgg84
  z55 := Try.sizeOf84
  v55 := Try.zeroValue84
  t66 := Try.underlying85
  a66 := Try.isAgg85
  z66 := Try.sizeOf85
  v66 := Try.zeroValue85
  t70 := Try.underlying89
  a70 := Try.isAgg89
  z70 := Try.sizeOf89
  v70 := Try.zeroValue89
  t76 := Try.underlying91
  a76 := Try.isAgg91
  z76 := Try.sizeOf91
  v76 := Try.zeroValue91
  t77 := Try.underlying34
  a77 := Try.isAgg34
  z77 := Try.sizeOf34
  v77 := Try.zeroValue34 }
end Go.Proofs
