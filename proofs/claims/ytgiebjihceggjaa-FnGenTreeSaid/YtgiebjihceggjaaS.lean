/-
  DERIVED: THE SHELF's CONTRACTS AT THIS DUMP, IN PLAIN WORDS (tools/lay-plain.mjs out of 'TgsShelf.lean', which tools/lay-shelf.mjs wrote): THE SAME DECLARATIONS UNDER THE SAME NAMES: 'import', 'namespace', 'open', 'def', 'theorem' AND NOTHING ELSE: no command of the shelf's: FOR A HAND-IN. Each laying: the table of numbers ('.._ren') and one theorem, a field a fact of the dump's own or the kernel's comparison; each contract: ONE APPLICATION.
-/
import Derived.Shelf.SlGeneric
import Derived.Ground.SlgmProg
import Derived.Shelf.SortM.Plain
import Derived.Shelf.SortM.SortNone
import Derived.Test.YtgiebjihceggjaaProg
set_option linter.unusedVariables false
set_option linter.unusedSimpArgs false
namespace Go.Proofs
open Go.Shelf
def Try.laysSort_ren : Go.Shelf.Ren := ⟨fun | 5 => 18 | 8 => 29 | 7 => 28 | 19 => 42 | 20 => 43 | 10 => 33 | 11 => 34 | 12 => 35 | 13 => 36 | 14 => 37 | 15 => 38 | 16 => 39 | 17 => 40 | 18 => 41 | 30 => 53 | 31 => 54 | 32 => 55 | 33 => 56 | 34 => 57 | 35 => 58 | 40 => 62 | n => n, fun | 23 => 22 | 25 => 3 | 3 => 3 | 32 => 83 | 22 => 22 | 0 => 0 | 44 => 99 | 46 => 101 | 4 => 4 | 36 => 92 | 35 => 91 | 41 => 85 | 5 => 5 | 9 => 9 | 53 => 111 | 57 => 115 | 63 => 120 | 64 => 121 | n => n, fun | n => n⟩
theorem Try.laysSort : Go.Proofs.SlLaysM.n5 Try.prog Try.laysSort_ren := {
  mixed := by kernel_rfl
  f5 := ⟨Try.f18.name, by decide, Try.func18.trans (congrArg some (by kernel_rfl))⟩
  f7 := ⟨Try.f28.name, by decide, Try.func28.trans (congrArg some (by kernel_rfl))⟩
  f8 := Try.func29.trans (congrArg some (by kernel_rfl))
  f10 := ⟨Try.f33.name, by decide, Try.func33.trans (congrArg some (by kernel_rfl))⟩
  f11 := ⟨Try.f34.name, by decide, Try.func34.trans (congrArg some (by kernel_rfl))⟩
  f12 := ⟨Try.f35.name, by decide, Try.func35.trans (congrArg some (by kernel_rfl))⟩
  f13 := ⟨Try.f36.name, by decide, Try.func36.trans (congrArg some (by kernel_rfl))⟩
  f14 := ⟨Try.f37.name, by decide, Try.func37.trans (congrArg some (by kernel_rfl))⟩
  f15 := ⟨Try.f38.name, by decide, Try.func38.trans (congrArg some (by kernel_rfl))⟩
  f16 := ⟨Try.f39.name, by decide, Try.func39.trans (congrArg some (by kernel_rfl))⟩
  f17 := ⟨Try.f40.name, by decide, Try.func40.trans (congrArg some (by kernel_rfl))⟩
  f18 := ⟨Try.f41.name, by decide, Try.func41.trans (congrArg some (by kernel_rfl))⟩
  f19 := Try.func42.trans (congrArg some (by kernel_rfl))
  f20 := Try.func43.trans (congrArg some (by kernel_rfl))
  f30 := ⟨Try.f53.name, by decide, Try.func53.trans (congrArg some (by kernel_rfl))⟩
  f31 := Try.func54.trans (congrArg some (by kernel_rfl))
  f32 := Try.func55.trans (congrArg some (by kernel_rfl))
  f33 := ⟨Try.f56.name, by decide, Try.func56.trans (congrArg some (by kernel_rfl))⟩
  f34 := ⟨Try.f57.name, by decide, Try.func57.trans (congrArg some (by kernel_rfl))⟩
  f35 := ⟨Try.f58.name, by decide, Try.func58.trans (congrArg some (by kernel_rfl))⟩
  f40 := ⟨Try.f62.name, by decide, Try.func62.trans (congrArg some (by kernel_rfl))⟩
  t0 := Try.underlying0
  a0 := Try.isAgg0
  z0 := Try.sizeOf0
  v0 := Try.zeroValue0
  t3 := Try.underlying3
  a3 := Try.isAgg3
  z3 := Try.sizeOf3
  v3 := Try.zeroValue3
  t4 := Try.underlying4
  a4 := Try.isAgg4
  z4 := Try.sizeOf4
  v4 := Try.zeroValue4
  t5 := Try.underlying5
  a5 := Try.isAgg5
  z5 := Try.sizeOf5
  v5 := Try.zeroValue5
  t9 := Try.underlying9
  a9 := Try.isAgg9
  z9 := Try.sizeOf9
  v9 := Try.zeroValue9
  t22 := Try.underlying22
  a22 := Try.isAgg22
  z22 := Try.sizeOf22
  v22 := Try.zeroValue22
  t23 := Try.underlying22
  a23 := Try.isAgg22
  z23 := Try.sizeOf22
  v23 := Try.zeroValue22
  t25 := Try.underlying3
  a25 := Try.isAgg3
  z25 := Try.sizeOf3
  v25 := Try.zeroValue3
  t32 := Try.underlying83
  a32 := Try.isAgg83
  z32 := Try.sizeOf83
  v32 := Try.zeroValue83
  t35 := Try.underlying91
  a35 := Try.isAgg91
  z35 := Try.sizeOf91
  v35 := Try.zeroValue91
  t36 := Try.underlying92
  a36 := Try.isAgg92
  z36 := Try.sizeOf92
  v36 := Try.zeroValue92
  t41 := Try.underlying85
  a41 := Try.isAgg85
  z41 := Try.sizeOf85
  v41 := Try.zeroValue85
  t44 := Try.underlying99
  a44 := Try.isAgg99
  z44 := Try.sizeOf99
  v44 := Try.zeroValue99
  t46 := Try.underlying101
  a46 := Try.isAgg101
  z46 := Try.sizeOf101
  v46 := Try.zeroValue101
  t53 := Try.underlying111
  a53 := Try.isAgg111
  z53 := Try.sizeOf111
  v53 := Try.zeroValue111
  t57 := Try.underlying115
  a57 := Try.isAgg115
  z57 := Try.sizeOf115
  v57 := Try.zeroValue115
  t63 := Try.underlying120
  a63 := Try.isAgg120
  z63 := Try.sizeOf120
  v63 := Try.zeroValue120
  t64 := Try.underlying121
  a64 := Try.isAgg121
  z64 := Try.sizeOf121
  v64 := Try.zeroValue121 }
theorem Try.slices_Sort_int (blk off cap : Nat) (zs : List Int) (w : World) (hH : Go.Sort.Holds (Value.int .i64) w blk off zs.toArray) (hblk : blk < w.heap.size) (hsz : zs.length < 4611686018427387904) :
    Calls Try.prog 18 #[.slice (some ⟨blk, off, none⟩) zs.length cap] w fun e w' =>
      e = .returned (.tuple #[]) ∧ ∃ n os, w' = Go.Sort.grow (Go.Sort.putRow (Value.int .i64) (Go.Sort.ahead w n) blk off (zs.mergeSort fun x y => decide (x ≤ y)).toArray) os := AnyM.slices_Sort_int Try.laysSort blk off cap zs w hH hblk hsz
theorem Try.slices_Sort_int_none (p : Option Addr) (cap : Nat) (w : World) : Calls Try.prog 18 #[.slice p 0 cap] w fun e w' => e = .returned (.tuple #[]) ∧ w' = w := AnyM.slices_Sort_int_none Try.laysSort p cap w
end Go.Proofs
