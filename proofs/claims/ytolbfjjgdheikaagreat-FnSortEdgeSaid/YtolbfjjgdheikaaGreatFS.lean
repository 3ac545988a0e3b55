/-
  DERIVED: THE SHELF's CONTRACTS AT THIS DUMP, IN PLAIN WORDS (tools/lay-plain.mjs out of 'TryzShelfA.lean', which tools/lay-shelf.mjs wrote): THE SAME DECLARATIONS UNDER THE SAME NAMES: 'import', 'namespace', 'open', 'def', 'theorem' AND NOTHING ELSE: no command of the shelf's: FOR A HAND-IN. Each laying: the table of numbers ('.._ren') and one theorem, a field a fact of the dump's own or the kernel's comparison; each contract: ONE APPLICATION.
-/
import Derived.Shelf.Small.Bits
import Derived.Shelf.Small.Wraps
import Derived.Shelf.Strconv.Itoa0
import Derived.Shelf.Sort.Plain
import Derived.Shelf.Slices.Equal
import Derived.Ground.Names2Prog
import Derived.Shelf.Slices.Clone
import Derived.Shelf.Slices.SearchI
import Derived.Shelf.Slices.In.SortNone
import Derived.Shelf.Slices.Empties2
import Derived.Ground.SlgnProg
import Derived.Shelf.SlicesG.Clone
import Derived.Shelf.SlicesG.CompactI
import Derived.Shelf.SlicesG.SearchI
import Derived.Shelf.SlicesG.Cells
import Derived.Shelf.SlicesE.Equal
import Derived.Shelf.SlicesE.Compact
import Derived.Shelf.SlicesE.Clone
import Derived.Ground.SlgcProg
import Derived.Shelf.SlicesG.Cmp
import Derived.Ground.SlgmProg
import Derived.Shelf.SortM.Plain
import Derived.Shelf.SortM.SortNone
import Derived.Test.YtolbfjjgdheikaaGreatProg
set_option linter.unusedVariables false
set_option linter.unusedSimpArgs false
namespace Go.Proofs
open Go.Shelf
def Tryz.lays189_ren : Go.Shelf.Ren := ⟨fun | 189 => 38 | 125 => 59 | 257 => 58 | 128 => 93 | 129 => 94 | 294 => 84 | 295 => 85 | 296 => 86 | 297 => 87 | 298 => 88 | 299 => 89 | 216 => 90 | 300 => 91 | 301 => 92 | 328 => 119 | 329 => 120 | 330 => 121 | 331 => 122 | 332 => 123 | 215 => 117 | 343 => 143 | n => n, fun | 28 => 22 | 3 => 3 | 46 => 112 | 0 => 0 | 51 => 162 | 53 => 164 | 4 => 4 | 183 => 155 | 182 => 154 | 131 => 130 | 5 => 5 | 9 => 9 | 218 => 188 | 222 => 192 | 228 => 213 | 229 => 214 | n => n, fun | n => n⟩
theorem Tryz.lays189 : Go.Proofs.Lays.n189 Tryz.prog Tryz.lays189_ren := {
  mixed := by kernel_rfl
  f125 := Tryz.func59.trans (congrArg some (by kernel_rfl))
  f128 := Tryz.func93.trans (congrArg some (by kernel_rfl))
  f129 := Tryz.func94.trans (congrArg some (by kernel_rfl))
  f189 := Tryz.func38.trans (congrArg some (by kernel_rfl))
  f215 := Tryz.func117.trans (congrArg some (by kernel_rfl))
  f216 := Tryz.func90.trans (congrArg some (by kernel_rfl))
  f257 := Tryz.func58.trans (congrArg some (by kernel_rfl))
  f294 := Tryz.func84.trans (congrArg some (by kernel_rfl))
  f295 := Tryz.func85.trans (congrArg some (by kernel_rfl))
  f296 := Tryz.func86.trans (congrArg some (by kernel_rfl))
  f297 := Tryz.func87.trans (congrArg some (by kernel_rfl))
  f298 := Tryz.func88.trans (congrArg some (by kernel_rfl))
  f299 := Tryz.func89.trans (congrArg some (by kernel_rfl))
  f300 := Tryz.func91.trans (congrArg some (by kernel_rfl))
  f301 := Tryz.func92.trans (congrArg some (by kernel_rfl))
  f328 := Tryz.func119.trans (congrArg some (by kernel_rfl))
  f329 := Tryz.func120.trans (congrArg some (by kernel_rfl))
  f330 := Tryz.func121.trans (congrArg some (by kernel_rfl))
  f331 := Tryz.func122.trans (congrArg some (by kernel_rfl))
  f332 := Tryz.func123.trans (congrArg some (by kernel_rfl))
  f343 := Tryz.func143.trans (congrArg some (by kernel_rfl))
  t0 := Tryz.underlying0
  a0 := Tryz.isAgg0
  z0 := Tryz.sizeOf0
  v0 := Tryz.zeroValue0
  t3 := Tryz.underlying3
  a3 := Tryz.isAgg3
  z3 := Tryz.sizeOf3
  v3 := Tryz.zeroValue3
  t4 := Tryz.underlying4
  a4 := Tryz.isAgg4
  z4 := Tryz.sizeOf4
  v4 := Tryz.zeroValue4
  t5 := Tryz.underlying5
  a5 := Tryz.isAgg5
  z5 := Tryz.sizeOf5
  v5 := Tryz.zeroValue5
  t9 := Tryz.underlying9
  a9 := Tryz.isAgg9
  z9 := Tryz.sizeOf9
  v9 := Tryz.zeroValue9
  t28 := Tryz.underlying22
  a28 := Tryz.isAgg22
  z28 := Tryz.sizeOf22
  v28 := Tryz.zeroValue22
  t46 := Tryz.underlying112
  a46 := Tryz.isAgg112
  z46 := Tryz.sizeOf112
  v46 := Tryz.zeroValue112
  t51 := Tryz.underlying162
  a51 := Tryz.isAgg162
  z51 := Tryz.sizeOf162
  v51 := Tryz.zeroValue162
  t53 := Tryz.underlying164
  a53 := Tryz.isAgg164
  z53 := Tryz.sizeOf164
  v53 := Tryz.zeroValue164
  t131 := Tryz.underlying130
  a131 := Tryz.isAgg130
  z131 := Tryz.sizeOf130
  v131 := Tryz.zeroValue130
  t182 := Tryz.underlying154
  a182 := Tryz.isAgg154
  z182 := Tryz.sizeOf154
  v182 := Tryz.zeroValue154
  t183 := Tryz.underlying155
  a183 := Tryz.isAgg155
  z183 := Tryz.sizeOf155
  v183 := Tryz.zeroValue155
  t218 := Tryz.underlying188
  a218 := Tryz.isAgg188
  z218 := Tryz.sizeOf188
  v218 := Tryz.zeroValue188
  t222 := Tryz.underlying192
  a222 := Tryz.isAgg192
  z222 := Tryz.sizeOf192
  v222 := Tryz.zeroValue192
  t228 := Tryz.underlying213
  a228 := Tryz.isAgg213
  z228 := Tryz.sizeOf213
  v228 := Tryz.zeroValue213
  t229 := Tryz.underlying214
  a229 := Tryz.isAgg214
  z229 := Tryz.sizeOf214
  v229 := Tryz.zeroValue214 }
open Go.Sort Go.RowKit in
theorem Tryz.slices_Sort_int (blk off cap : Nat) (zs : List Int) (w : World) (hH : Holds (Value.int .i64) w blk off zs.toArray) (hblk : blk < w.heap.size) (hsz : zs.length < 4611686018427387904) :
    Calls Tryz.prog 38 #[.slice (some ⟨blk, off, none⟩) zs.length cap] w fun e w' =>
      e = .returned (.tuple #[]) ∧ ∃ n os, w' = grow (putRow (Value.int .i64) (Sort.ahead w n) blk off (zs.mergeSort fun x y => decide (x ≤ y)).toArray) os := Any.slices_Sort_int Tryz.lays189 blk off cap zs w hH hblk hsz
open Go.RowKit Go.Sort in
/-- .. and plain. (LAID: no walk: one application.) -/
theorem Tryz.slices_Sort_int_none (p : Option Addr) (cap : Nat) (w : World) :
    Calls Tryz.prog 38 #[.slice p 0 cap] w fun e w' => e = .returned (.tuple #[]) ∧ w' = w := Any.slices_Sort_int_none Tryz.lays189 p cap w
def Tryz.laysSlE43_f74_ren : Go.Shelf.Ren := ⟨fun | 43 => 74 | n => n, fun | 22 => 137 | 23 => 2 | 3 => 3 | 4 => 4 | 0 => 0 | n => n, fun | n => n⟩
theorem Tryz.laysSlE43_f74 : Go.Proofs.SlLaysE.n43 Tryz.prog Tryz.laysSlE43_f74_ren := {
  mixed := by kernel_rfl
  f43 := ⟨Tryz.f74.name, by decide, Tryz.func74.trans (congrArg some (by kernel_rfl))⟩
  t0 := Tryz.underlying0
  a0 := Tryz.isAgg0
  z0 := Tryz.sizeOf0
  v0 := Tryz.zeroValue0
  t3 := Tryz.underlying3
  a3 := Tryz.isAgg3
  z3 := Tryz.sizeOf3
  v3 := Tryz.zeroValue3
  t4 := Tryz.underlying4
  a4 := Tryz.isAgg4
  z4 := Tryz.sizeOf4
  v4 := Tryz.zeroValue4
  t22 := Tryz.underlying137
  a22 := Tryz.isAgg137
  z22 := Tryz.sizeOf137
  v22 := Tryz.zeroValue137
  a23 := Tryz.isAgg2
  z23 := Tryz.sizeOf2 }
open Go.RowKit Go.Lib Go.Sort in
/-- slices.Compact: "Compact replaces consecutive runs of equal elements with a single copy. .. Compact zeroes the elements between the new length and the original length.": IT RETURNS THE SLICE CUT TO 'compactUpTo d d.size'; ITS CELLS HOLD THAT, THEN ZERO VALUES up to the old length; the library's two loops are walked. (LAID AT THE INSTANCE 'slices.Compact[[]int64,int64]': no walk: one application.) -/
theorem Tryz.slices_Compact {α : Type} [Inhabited α] [DecidableEq α] (enc : α → Value) (hO : OneCell enc) (heq : EqlAt Tryz.prog 2 enc (fun x y => decide (x = y))) (hne : NeqAt Tryz.prog 2 enc (fun x y => decide (x = y))) (zr : α) (v23 : ∀ w, (zeroValue 2).run Tryz.prog w = .ok (enc zr) w) (blk off cap : Nat) (d : Array α) (w : World) (hH : Holds enc w blk off d) (hsz : d.size ≤ 9223372036854775807) (hcap : d.size ≤ cap) :
    Calls Tryz.prog 74 #[.slice (some ⟨blk, off, none⟩) d.size cap] w fun e w' => e = .returned (.slice (some ⟨blk, off, none⟩) (compactUpTo d d.size).length cap) ∧ ∃ q, w' = putRow enc (Sort.ahead w q) blk off (compactUpTo d d.size ++ List.replicate (d.size - (compactUpTo d d.size).length) zr).toArray := AnyE.slices_Compact Tryz.laysSlE43_f74 enc hO heq hne zr v23 blk off cap d w hH hsz hcap
def Tryz.laysSlM5_f73_ren : Go.Shelf.Ren := ⟨fun | 5 => 73 | 8 => 59 | 7 => 107 | 19 => 93 | 20 => 94 | 10 => 129 | 11 => 130 | 12 => 131 | 13 => 132 | 14 => 133 | 15 => 134 | 16 => 127 | 17 => 135 | 18 => 136 | 30 => 146 | 31 => 120 | 32 => 121 | 33 => 147 | 34 => 148 | 35 => 145 | 40 => 160 | n => n, fun | 23 => 137 | 25 => 2 | 3 => 3 | 32 => 112 | 22 => 137 | 0 => 0 | 44 => 162 | 46 => 164 | 4 => 4 | 36 => 155 | 35 => 154 | 41 => 130 | 5 => 5 | 9 => 9 | 53 => 188 | 57 => 192 | 63 => 213 | 64 => 214 | n => n, fun | n => n⟩
theorem Tryz.laysSlM5_f73 : Go.Proofs.SlLaysM.n5 Tryz.prog Tryz.laysSlM5_f73_ren := {
  mixed := by kernel_rfl
  f5 := ⟨Tryz.f73.name, by decide, Tryz.func73.trans (congrArg some (by kernel_rfl))⟩
  f7 := ⟨Tryz.f107.name, by decide, Tryz.func107.trans (congrArg some (by kernel_rfl))⟩
  f8 := Tryz.func59.trans (congrArg some (by kernel_rfl))
  f10 := ⟨Tryz.f129.name, by decide, Tryz.func129.trans (congrArg some (by kernel_rfl))⟩
  f11 := ⟨Tryz.f130.name, by decide, Tryz.func130.trans (congrArg some (by kernel_rfl))⟩
  f12 := ⟨Tryz.f131.name, by decide, Tryz.func131.trans (congrArg some (by kernel_rfl))⟩
  f13 := ⟨Tryz.f132.name, by decide, Tryz.func132.trans (congrArg some (by kernel_rfl))⟩
  f14 := ⟨Tryz.f133.name, by decide, Tryz.func133.trans (congrArg some (by kernel_rfl))⟩
  f15 := ⟨Tryz.f134.name, by decide, Tryz.func134.trans (congrArg some (by kernel_rfl))⟩
  f16 := ⟨Tryz.f127.name, by decide, Tryz.func127.trans (congrArg some (by kernel_rfl))⟩
  f17 := ⟨Tryz.f135.name, by decide, Tryz.func135.trans (congrArg some (by kernel_rfl))⟩
  f18 := ⟨Tryz.f136.name, by decide, Tryz.func136.trans (congrArg some (by kernel_rfl))⟩
  f19 := Tryz.func93.trans (congrArg some (by kernel_rfl))
  f20 := Tryz.func94.trans (congrArg some (by kernel_rfl))
  f30 := ⟨Tryz.f146.name, by decide, Tryz.func146.trans (congrArg some (by kernel_rfl))⟩
  f31 := Tryz.func120.trans (congrArg some (by kernel_rfl))
  f32 := Tryz.func121.trans (congrArg some (by kernel_rfl))
  f33 := ⟨Tryz.f147.name, by decide, Tryz.func147.trans (congrArg some (by kernel_rfl))⟩
  f34 := ⟨Tryz.f148.name, by decide, Tryz.func148.trans (congrArg some (by kernel_rfl))⟩
  f35 := ⟨Tryz.f145.name, by decide, Tryz.func145.trans (congrArg some (by kernel_rfl))⟩
  f40 := ⟨Tryz.f160.name, by decide, Tryz.func160.trans (congrArg some (by kernel_rfl))⟩
  t0 := Tryz.underlying0
  a0 := Tryz.isAgg0
  z0 := Tryz.sizeOf0
  v0 := Tryz.zeroValue0
  t3 := Tryz.underlying3
  a3 := Tryz.isAgg3
  z3 := Tryz.sizeOf3
  v3 := Tryz.zeroValue3
  t4 := Tryz.underlying4
  a4 := Tryz.isAgg4
  z4 := Tryz.sizeOf4
  v4 := Tryz.zeroValue4
  t5 := Tryz.underlying5
  a5 := Tryz.isAgg5
  z5 := Tryz.sizeOf5
  v5 := Tryz.zeroValue5
  t9 := Tryz.underlying9
  a9 := Tryz.isAgg9
  z9 := Tryz.sizeOf9
  v9 := Tryz.zeroValue9
  t22 := Tryz.underlying137
  a22 := Tryz.isAgg137
  z22 := Tryz.sizeOf137
  v22 := Tryz.zeroValue137
  t23 := Tryz.underlying137
  a23 := Tryz.isAgg137
  z23 := Tryz.sizeOf137
  v23 := Tryz.zeroValue137
  t25 := Tryz.underlying2
  a25 := Tryz.isAgg2
  z25 := Tryz.sizeOf2
  v25 := Tryz.zeroValue2
  t32 := Tryz.underlying112
  a32 := Tryz.isAgg112
  z32 := Tryz.sizeOf112
  v32 := Tryz.zeroValue112
  t35 := Tryz.underlying154
  a35 := Tryz.isAgg154
  z35 := Tryz.sizeOf154
  v35 := Tryz.zeroValue154
  t36 := Tryz.underlying155
  a36 := Tryz.isAgg155
  z36 := Tryz.sizeOf155
  v36 := Tryz.zeroValue155
  t41 := Tryz.underlying130
  a41 := Tryz.isAgg130
  z41 := Tryz.sizeOf130
  v41 := Tryz.zeroValue130
  t44 := Tryz.underlying162
  a44 := Tryz.isAgg162
  z44 := Tryz.sizeOf162
  v44 := Tryz.zeroValue162
  t46 := Tryz.underlying164
  a46 := Tryz.isAgg164
  z46 := Tryz.sizeOf164
  v46 := Tryz.zeroValue164
  t53 := Tryz.underlying188
  a53 := Tryz.isAgg188
  z53 := Tryz.sizeOf188
  v53 := Tryz.zeroValue188
  t57 := Tryz.underlying192
  a57 := Tryz.isAgg192
  z57 := Tryz.sizeOf192
  v57 := Tryz.zeroValue192
  t63 := Tryz.underlying213
  a63 := Tryz.isAgg213
  z63 := Tryz.sizeOf213
  v63 := Tryz.zeroValue213
  t64 := Tryz.underlying214
  a64 := Tryz.isAgg214
  z64 := Tryz.sizeOf214
  v64 := Tryz.zeroValue214 }
open Go.Sort Go.RowKit in
theorem Tryz.slices_Sort_int_f73 (blk off cap : Nat) (zs : List Int) (w : World) (hH : Holds (Value.int .i64) w blk off zs.toArray) (hblk : blk < w.heap.size) (hsz : zs.length < 4611686018427387904) :
    Calls Tryz.prog 73 #[.slice (some ⟨blk, off, none⟩) zs.length cap] w fun e w' =>
      e = .returned (.tuple #[]) ∧ ∃ n os, w' = grow (putRow (Value.int .i64) (Sort.ahead w n) blk off (zs.mergeSort fun x y => decide (x ≤ y)).toArray) os := AnyM.slices_Sort_int Tryz.laysSlM5_f73 blk off cap zs w hH hblk hsz
open Go.RowKit Go.Sort in
/-- .. and plain. (LAID AT THE INSTANCE 'slices.Sort[[]int64,int64]': no walk: one application.) -/
theorem Tryz.slices_Sort_int_none_f73 (p : Option Addr) (cap : Nat) (w : World) :
    Calls Tryz.prog 73 #[.slice p 0 cap] w fun e w' => e = .returned (.tuple #[]) ∧ w' = w := AnyM.slices_Sort_int_none Tryz.laysSlM5_f73 p cap w
end Go.Proofs
