/-
  DERIVED: THE SHELF's CONTRACTS AT THIS DUMP, IN PLAIN WORDS (tools/lay-plain.mjs out of 'TryShelf.lean', which tools/lay-shelf.mjs wrote): THE SAME DECLARATIONS UNDER THE SAME NAMES: 'import', 'namespace', 'open', 'def', 'theorem' AND NOTHING ELSE: no command of the shelf's: FOR A HAND-IN. Each laying: the table of numbers ('.._ren') and one theorem, a field a fact of the dump's own or the kernel's comparison; each contract: ONE APPLICATION.
-/
import Derived.Shelf.SlGeneric
import Derived.Shelf.SlSortCmp.WholeK
import Derived.Test.Qxb6000858aProg
namespace Go.Proofs
open Go.Shelf
def Try.sortSp_ren : Go.Shelf.Ren := ⟨fun | 6 => 29 | 15 => 32 | 14 => 31 | 28 => 41 | 29 => 42 | 20 => 33 | 21 => 34 | 22 => 35 | 23 => 36 | 24 => 37 | 25 => 38 | 26 => 39 | 27 => 40 | 46 => 43 | 47 => 44 | 48 => 45 | 49 => 46 | 50 => 47 | 57 => 48 | n => n, fun | 22 => 40 | 24 => 42 | 25 => 59 | 3 => 3 | 39 => 62 | 0 => 0 | 53 => 72 | 55 => 74 | 4 => 4 | 46 => 65 | 45 => 64 | 50 => 69 | 5 => 5 | 9 => 9 | 66 => 75 | 70 => 79 | 76 => 81 | 77 => 82 | n => n, fun | n => n⟩
theorem Try.sortSp : Go.Proofs.SlLaysF0.n6 Try.prog Try.sortSp_ren := {
  mixed := by kernel_rfl
  f6 := ⟨Try.f29.name, by decide, Try.func29.trans (congrArg some (by kernel_rfl))⟩
  f14 := ⟨Try.f31.name, by decide, Try.func31.trans (congrArg some (by kernel_rfl))⟩
  f15 := Try.func32.trans (congrArg some (by kernel_rfl))
  f20 := ⟨Try.f33.name, by decide, Try.func33.trans (congrArg some (by kernel_rfl))⟩
  f21 := ⟨Try.f34.name, by decide, Try.func34.trans (congrArg some (by kernel_rfl))⟩
  f22 := ⟨Try.f35.name, by decide, Try.func35.trans (congrArg some (by kernel_rfl))⟩
  f23 := ⟨Try.f36.name, by decide, Try.func36.trans (congrArg some (by kernel_rfl))⟩
  f24 := ⟨Try.f37.name, by decide, Try.func37.trans (congrArg some (by kernel_rfl))⟩
  f25 := ⟨Try.f38.name, by decide, Try.func38.trans (congrArg some (by kernel_rfl))⟩
  f26 := ⟨Try.f39.name, by decide, Try.func39.trans (congrArg some (by kernel_rfl))⟩
  f27 := ⟨Try.f40.name, by decide, Try.func40.trans (congrArg some (by kernel_rfl))⟩
  f28 := Try.func41.trans (congrArg some (by kernel_rfl))
  f29 := Try.func42.trans (congrArg some (by kernel_rfl))
  f46 := ⟨Try.f43.name, by decide, Try.func43.trans (congrArg some (by kernel_rfl))⟩
  f47 := Try.func44.trans (congrArg some (by kernel_rfl))
  f48 := Try.func45.trans (congrArg some (by kernel_rfl))
  f49 := ⟨Try.f46.name, by decide, Try.func46.trans (congrArg some (by kernel_rfl))⟩
  f50 := ⟨Try.f47.name, by decide, Try.func47.trans (congrArg some (by kernel_rfl))⟩
  f57 := ⟨Try.f48.name, by decide, Try.func48.trans (congrArg some (by kernel_rfl))⟩
  t0 := Try.underlying0
  a0 := Try.isAgg0
  z0 := Try.sizeOf0
  v0 := Try.zeroValue0
  t3 := Try.underlying3
  a3 := Try.isAgg3
  z3 := Try.sizeOf3
  v3 := Try.zeroValue3
  t4 := Try.underlying4
  a4 := Try.isAgg4
  z4 := Try.sizeOf4
  v4 := Try.zeroValue4
  t5 := Try.underlying5
  a5 := Try.isAgg5
  z5 := Try.sizeOf5
  v5 := Try.zeroValue5
  t9 := Try.underlying9
  a9 := Try.isAgg9
  z9 := Try.sizeOf9
  v9 := Try.zeroValue9
  t22 := Try.underlying40
  a22 := Try.isAgg40
  z22 := Try.sizeOf40
  v22 := Try.zeroValue40
  t25 := Try.underlying59
  a25 := Try.isAgg59
  z25 := Try.sizeOf59
  v25 := Try.zeroValue59
  t39 := Try.underlying62
  a39 := Try.isAgg62
  z39 := Try.sizeOf62
  v39 := Try.zeroValue62
  t45 := Try.underlying64
  a45 := Try.isAgg64
  z45 := Try.sizeOf64
  v45 := Try.zeroValue64
  t46 := Try.underlying65
  a46 := Try.isAgg65
  z46 := Try.sizeOf65
  v46 := Try.zeroValue65
  t50 := Try.underlying69
  a50 := Try.isAgg69
  z50 := Try.sizeOf69
  v50 := Try.zeroValue69
  t53 := Try.underlying72
  a53 := Try.isAgg72
  z53 := Try.sizeOf72
  v53 := Try.zeroValue72
  t55 := Try.underlying74
  a55 := Try.isAgg74
  z55 := Try.sizeOf74
  v55 := Try.zeroValue74
  t66 := Try.underlying75
  a66 := Try.isAgg75
  z66 := Try.sizeOf75
  v66 := Try.zeroValue75
  t70 := Try.underlying79
  a70 := Try.isAgg79
  z70 := Try.sizeOf79
  v70 := Try.zeroValue79
  t76 := Try.underlying81
  a76 := Try.isAgg81
  z76 := Try.sizeOf81
  v76 := Try.zeroValue81
  t77 := Try.underlying82
  a77 := Try.isAgg82
  z77 := Try.sizeOf82
  v77 := Try.zeroValue82 }
end Go.Proofs
