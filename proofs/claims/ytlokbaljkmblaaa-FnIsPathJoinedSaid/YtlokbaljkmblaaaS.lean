/-
  DERIVED: THE SHELF's CONTRACTS AT THIS DUMP, IN PLAIN WORDS (tools/lay-plain.mjs out of 'TryShelf.lean', which tools/lay-shelf.mjs wrote): THE SAME DECLARATIONS UNDER THE SAME NAMES: 'import', 'namespace', 'open', 'def', 'theorem' AND NOTHING ELSE: no command of the shelf's: FOR A HAND-IN. Each laying: the table of numbers ('.._ren') and one theorem, a field a fact of the dump's own or the kernel's comparison; each contract: ONE APPLICATION.
-/
import Derived.Shelf.SlGeneric
import Derived.Ground.SlgmProg
import Derived.Shelf.SortM.Plain
import Derived.Shelf.SortM.SortNone
import Derived.Test.YtlokbaljkmblaaaProg
namespace Go.Proofs
open Go.Shelf
def Try.laysSort_ren : Go.Shelf.Ren := ⟨fun | 5 => 17 | 8 => 23 | 7 => 22 | 19 => 35 | 20 => 36 | 10 => 26 | 11 => 27 | 12 => 28 | 13 => 29 | 14 => 30 | 15 => 31 | 16 => 32 | 17 => 33 | 18 => 34 | 30 => 41 | 31 => 42 | 32 => 43 | 33 => 44 | 34 => 45 | 35 => 46 | 40 => 49 | n => n, fun | 23 => 60 | 25 => 2 | 3 => 3 | 32 => 72 | 22 => 60 | 0 => 0 | 44 => 84 | 46 => 86 | 4 => 4 | 36 => 78 | 35 => 77 | 41 => 66 | 5 => 5 | 9 => 9 | 53 => 93 | 57 => 97 | 63 => 101 | 64 => 102 | n => n, fun | n => n⟩
theorem Try.laysSort : Go.Proofs.SlLaysM.n5 Try.prog Try.laysSort_ren := {
  mixed := by kernel_rfl
  f5 := ⟨Try.f17.name, by decide, Try.func17.trans (congrArg some (by kernel_rfl))⟩
  f7 := ⟨Try.f22.name, by decide, Try.func22.trans (congrArg some (by kernel_rfl))⟩
  f8 := Try.func23.trans (congrArg some (by kernel_rfl))
  f10 := ⟨Try.f26.name, by decide, Try.func26.trans (congrArg some (by kernel_rfl))⟩
  f11 := ⟨Try.f27.name, by decide, Try.func27.trans (congrArg some (by kernel_rfl))⟩
  f12 := ⟨Try.f28.name, by decide, Try.func28.trans (congrArg some (by kernel_rfl))⟩
  f13 := ⟨Try.f29.name, by decide, Try.func29.trans (congrArg some (by kernel_rfl))⟩
  f14 := ⟨Try.f30.name, by decide, Try.func30.trans (congrArg some (by kernel_rfl))⟩
  f15 := ⟨Try.f31.name, by decide, Try.func31.trans (congrArg some (by kernel_rfl))⟩
  f16 := ⟨Try.f32.name, by decide, Try.func32.trans (congrArg some (by kernel_rfl))⟩
  f17 := ⟨Try.f33.name, by decide, Try.func33.trans (congrArg some (by kernel_rfl))⟩
  f18 := ⟨Try.f34.name, by decide, Try.func34.trans (congrArg some (by kernel_rfl))⟩
  f19 := Try.func35.trans (congrArg some (by kernel_rfl))
  f20 := Try.func36.trans (congrArg some (by kernel_rfl))
  f30 := ⟨Try.f41.name, by decide, Try.func41.trans (congrArg some (by kernel_rfl))⟩
  f31 := Try.func42.trans (congrArg some (by kernel_rfl))
  f32 := Try.func43.trans (congrArg some (by kernel_rfl))
  f33 := ⟨Try.f44.name, by decide, Try.func44.trans (congrArg some (by kernel_rfl))⟩
  f34 := ⟨Try.f45.name, by decide, Try.func45.trans (congrArg some (by kernel_rfl))⟩
  f35 := ⟨Try.f46.name, by decide, Try.func46.trans (congrArg some (by kernel_rfl))⟩
  f40 := ⟨Try.f49.name, by decide, Try.func49.trans (congrArg some (by kernel_rfl))⟩
  t0 := Try.underlying0
  a0 := Try.isAgg0
  z0 := Try.sizeOf0
  v0 := Try.zeroValue0
  t3 := Try.underlying3
  a3 := Try.isAgg3
  z3 := Try.sizeOf3
  v3 := Try.zeroValue3
  t4 := Try.underlying4
  a4 := Try.isAgg4
  z4 := Try.sizeOf4
  v4 := Try.zeroValue4
  t5 := Try.underlying5
  a5 := Try.isAgg5
  z5 := Try.sizeOf5
  v5 := Try.zeroValue5
  t9 := Try.underlying9
  a9 := Try.isAgg9
  z9 := Try.sizeOf9
  v9 := Try.zeroValue9
  t22 := Try.underlying60
  a22 := Try.isAgg60
  z22 := Try.sizeOf60
  v22 := Try.zeroValue60
  t23 := Try.underlying60
  a23 := Try.isAgg60
  z23 := Try.sizeOf60
  v23 := Try.zeroValue60
  t25 := Try.underlying2
  a25 := Try.isAgg2
  z25 := Try.sizeOf2
  v25 := Try.zeroValue2
  t32 := Try.underlying72
  a32 := Try.isAgg72
  z32 := Try.sizeOf72
  v32 := Try.zeroValue72
  t35 := Try.underlying77
  a35 := Try.isAgg77
  z35 := Try.sizeOf77
  v35 := Try.zeroValue77
  t36 := Try.underlying78
  a36 := Try.isAgg78
  z36 := Try.sizeOf78
  v36 := Try.zeroValue78
  t41 := Try.underlying66
  a41 := Try.isAgg66
  z41 := Try.sizeOf66
  v41 := Try.zeroValue66
  t44 := Try.underlying84
  a44 := Try.isAgg84
  z44 := Try.sizeOf84
  v44 := Try.zeroValue84
  t46 := Try.underlying86
  a46 := Try.isAgg86
  z46 := Try.sizeOf86
  v46 := Try.zeroValue86
  t53 := Try.underlying93
  a53 := Try.isAgg93
  z53 := Try.sizeOf93
  v53 := Try.zeroValue93
  t57 := Try.underlying97
  a57 := Try.isAgg97
  z57 := Try.sizeOf97
  v57 := Try.zeroValue97
  t63 := Try.underlying101
  a63 := Try.isAgg101
  z63 := Try.sizeOf101
  v63 := Try.zeroValue101
  t64 := Try.underlying102
  a64 := Try.isAgg102
  z64 := Try.sizeOf102
  v64 := Try.zeroValue102 }
theorem Try.slices_Sort_64 (blk off cap : Nat) (zs : List Int) (w : World) (hH : Go.Sort.Holds (Value.int .i64) w blk off zs.toArray) (hblk : blk < w.heap.size) (hsz : zs.length < 4611686018427387904) :
    Calls Try.prog 17 #[.slice (some ⟨blk, off, none⟩) zs.length cap] w fun e w' =>
      e = .returned (.tuple #[]) ∧ ∃ n os, w' = Go.Sort.grow (Go.Sort.putRow (Value.int .i64) (Go.Sort.ahead w n) blk off (zs.mergeSort fun x y => decide (x ≤ y)).toArray) os := AnyM.slices_Sort_int Try.laysSort blk off cap zs w hH hblk hsz
theorem Try.slices_Sort_64_none (p : Option Addr) (cap : Nat) (w : World) : Calls Try.prog 17 #[.slice p 0 cap] w fun e w' => e = .returned (.tuple #[]) ∧ w' = w := AnyM.slices_Sort_int_none Try.laysSort p cap w
end Go.Proofs
