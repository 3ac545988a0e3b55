/-
  DERIVED: THE SHELF's CONTRACTS AT THIS DUMP, IN PLAIN WORDS (tools/lay-plain.mjs out of 'TgfShelf.lean', which tools/lay-shelf.mjs wrote): THE SAME DECLARATIONS UNDER THE SAME NAMES: 'import', 'namespace', 'open', 'def', 'theorem' AND NOTHING ELSE: no command of the shelf's: FOR A HAND-IN. Each laying: the table of numbers ('.._ren') and one theorem, a field a fact of the dump's own or the kernel's comparison; each contract: ONE APPLICATION.
-/
import Derived.Shelf.SlGeneric
import Derived.Ground.SlsfProg
import Derived.Shelf.SlSortCmp.WholeK
import Derived.Test.YtgiebjihceggjaaProg
set_option linter.unusedVariables false
set_option linter.unusedSimpArgs false
namespace Go.Proofs
open Go.Shelf
def Try.laysSortF_ren : Go.Shelf.Ren := ⟨fun | 6 => 24 | 15 => 29 | 14 => 31 | 28 => 42 | 29 => 43 | 20 => 44 | 21 => 45 | 22 => 46 | 23 => 47 | 24 => 48 | 25 => 49 | 26 => 50 | 27 => 51 | 46 => 59 | 47 => 54 | 48 => 55 | 49 => 60 | 50 => 61 | 57 => 63 | n => n, fun | 22 => 23 | 24 => 30 | 25 => 78 | 3 => 3 | 39 => 83 | 0 => 0 | 53 => 99 | 55 => 101 | 4 => 4 | 46 => 92 | 45 => 91 | 50 => 85 | 5 => 5 | 9 => 9 | 66 => 111 | 70 => 115 | 76 => 120 | 77 => 121 | n => n, fun | n => n⟩
theorem Try.laysSortF : Go.Proofs.SlLaysF0.n6 Try.prog Try.laysSortF_ren := {
  mixed := by kernel_rfl
  f6 := ⟨Try.f24.name, by decide, Try.func24.trans (congrArg some (by kernel_rfl))⟩
  f14 := ⟨Try.f31.name, by decide, Try.func31.trans (congrArg some (by kernel_rfl))⟩
  f15 := Try.func29.trans (congrArg some (by kernel_rfl))
  f20 := ⟨Try.f44.name, by decide, Try.func44.trans (congrArg some (by kernel_rfl))⟩
  f21 := ⟨Try.f45.name, by decide, Try.func45.trans (congrArg some (by kernel_rfl))⟩
  f22 := ⟨Try.f46.name, by decide, Try.func46.trans (congrArg some (by kernel_rfl))⟩
  f23 := ⟨Try.f47.name, by decide, Try.func47.trans (congrArg some (by kernel_rfl))⟩
  f24 := ⟨Try.f48.name, by decide, Try.func48.trans (congrArg some (by kernel_rfl))⟩
  f25 := ⟨Try.f49.name, by decide, Try.func49.trans (congrArg some (by kernel_rfl))⟩
  f26 := ⟨Try.f50.name, by decide, Try.func50.trans (congrArg some (by kernel_rfl))⟩
  f27 := ⟨Try.f51.name, by decide, Try.func51.trans (congrArg some (by kernel_rfl))⟩
  f28 := Try.func42.trans (congrArg some (by kernel_rfl))
  f29 := Try.func43.trans (congrArg some (by kernel_rfl))
  f46 := ⟨Try.f59.name, by decide, Try.func59.trans (congrArg some (by kernel_rfl))⟩
  f47 := Try.func54.trans (congrArg some (by kernel_rfl))
  f48 := Try.func55.trans (congrArg some (by kernel_rfl))
  f49 := ⟨Try.f60.name, by decide, Try.func60.trans (congrArg some (by kernel_rfl))⟩
  f50 := ⟨Try.f61.name, by decide, Try.func61.trans (congrArg some (by kernel_rfl))⟩
  f57 := ⟨Try.f63.name, by decide, Try.func63.trans (congrArg some (by kernel_rfl))⟩
  t0 := Try.underlying0
  a0 := Try.isAgg0
  z0 := Try.sizeOf0
  v0 := Try.zeroValue0
  t3 := Try.underlying3
  a3 := Try.isAgg3
  z3 := Try.sizeOf3
  v3 := Try.zeroValue3
  t4 := Try.underlying4
  a4 := Try.isAgg4
  z4 := Try.sizeOf4
  v4 := Try.zeroValue4
  t5 := Try.underlying5
  a5 := Try.isAgg5
  z5 := Try.sizeOf5
  v5 := Try.zeroValue5
  t9 := Try.underlying9
  a9 := Try.isAgg9
  z9 := Try.sizeOf9
  v9 := Try.zeroValue9
  t22 := Try.underlying23
  a22 := Try.isAgg23
  z22 := Try.sizeOf23
  v22 := Try.zeroValue23
  t25 := Try.underlying78
  a25 := Try.isAgg78
  z25 := Try.sizeOf78
  v25 := Try.zeroValue78
  t39 := Try.underlying83
  a39 := Try.isAgg83
  z39 := Try.sizeOf83
  v39 := Try.zeroValue83
  t45 := Try.underlying91
  a45 := Try.isAgg91
  z45 := Try.sizeOf91
  v45 := Try.zeroValue91
  t46 := Try.underlying92
  a46 := Try.isAgg92
  z46 := Try.sizeOf92
  v46 := Try.zeroValue92
  t50 := Try.underlying85
  a50 := Try.isAgg85
  z50 := Try.sizeOf85
  v50 := Try.zeroValue85
  t53 := Try.underlying99
  a53 := Try.isAgg99
  z53 := Try.sizeOf99
  v53 := Try.zeroValue99
  t55 := Try.underlying101
  a55 := Try.isAgg101
  z55 := Try.sizeOf101
  v55 := Try.zeroValue101
  t66 := Try.underlying111
  a66 := Try.isAgg111
  z66 := Try.sizeOf111
  v66 := Try.zeroValue111
  t70 := Try.underlying115
  a70 := Try.isAgg115
  z70 := Try.sizeOf115
  v70 := Try.zeroValue115
  t76 := Try.underlying120
  a76 := Try.isAgg120
  z76 := Try.sizeOf120
  v76 := Try.zeroValue120
  t77 := Try.underlying121
  a77 := Try.isAgg121
  z77 := Try.sizeOf121
  v77 := Try.zeroValue121 }
end Go.Proofs
