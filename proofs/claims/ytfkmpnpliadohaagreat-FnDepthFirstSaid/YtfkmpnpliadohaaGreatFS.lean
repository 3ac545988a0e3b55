/-
  DERIVED: THE SHELF's CONTRACTS AT THIS DUMP, IN PLAIN WORDS (tools/lay-plain.mjs out of 'TryzShelf.lean', which tools/lay-shelf.mjs wrote): THE SAME DECLARATIONS UNDER THE SAME NAMES: 'import', 'namespace', 'open', 'def', 'theorem' AND NOTHING ELSE: no command of the shelf's: FOR A HAND-IN. Each laying: the table of numbers ('.._ren') and one theorem, a field a fact of the dump's own or the kernel's comparison; each contract: ONE APPLICATION.
-/
import Derived.Ground.SlgnProg
import Derived.Shelf.SlicesE.Equal
import Derived.Shelf.SlicesE.Compact
import Derived.Ground.SlgmProg
import Derived.Shelf.SortM.Plain
import Derived.Shelf.SortM.SortNone
import Derived.Test.YtfkmpnpliadohaaGreatProg
set_option linter.unusedVariables false
set_option linter.unusedSimpArgs false
namespace Go.Proofs
open Go.Shelf
def Tryz.laysSlE43_f140_ren : Go.Shelf.Ren := ⟨fun | 43 => 140 | n => n, fun | 22 => 224 | 23 => 2 | 3 => 3 | 4 => 4 | 0 => 0 | n => n, fun | n => n⟩
theorem Tryz.laysSlE43_f140 : Go.Proofs.SlLaysE.n43 Tryz.prog Tryz.laysSlE43_f140_ren := {
  mixed := by kernel_rfl
  f43 := ⟨Tryz.f140.name, by decide, Tryz.func140.trans (congrArg some (by kernel_rfl))⟩
  t0 := Tryz.underlying0
  a0 := Tryz.isAgg0
  z0 := Tryz.sizeOf0
  v0 := Tryz.zeroValue0
  t3 := Tryz.underlying3
  a3 := Tryz.isAgg3
  z3 := Tryz.sizeOf3
  v3 := Tryz.zeroValue3
  t4 := Tryz.underlying4
  a4 := Tryz.isAgg4
  z4 := Tryz.sizeOf4
  v4 := Tryz.zeroValue4
  t22 := Tryz.underlying224
  a22 := Tryz.isAgg224
  z22 := Tryz.sizeOf224
  v22 := Tryz.zeroValue224
  a23 := Tryz.isAgg2
  z23 := Tryz.sizeOf2 }
open Go.RowKit Go.Lib Go.Sort in
/-- slices.Compact: "Compact replaces consecutive runs of equal elements with a single copy. .. Compact zeroes the elements between the new length and the original length.": IT RETURNS THE SLICE CUT TO 'compactUpTo d d.size'; ITS CELLS HOLD THAT, THEN ZERO VALUES up to the old length; the library's two loops are walked. (LAID AT THE INSTANCE 'slices.Compact[[]int64,int64]': no walk: one application.) -/
theorem Tryz.slices_Compact {α : Type} [Inhabited α] [DecidableEq α] (enc : α → Value) (hO : OneCell enc) (heq : EqlAt Tryz.prog 2 enc (fun x y => decide (x = y))) (hne : NeqAt Tryz.prog 2 enc (fun x y => decide (x = y))) (zr : α) (v23 : ∀ w, (zeroValue 2).run Tryz.prog w = .ok (enc zr) w) (blk off cap : Nat) (d : Array α) (w : World) (hH : Holds enc w blk off d) (hsz : d.size ≤ 9223372036854775807) (hcap : d.size ≤ cap) :
    Calls Tryz.prog 140 #[.slice (some ⟨blk, off, none⟩) d.size cap] w fun e w' => e = .returned (.slice (some ⟨blk, off, none⟩) (compactUpTo d d.size).length cap) ∧ ∃ q, w' = putRow enc (Sort.ahead w q) blk off (compactUpTo d d.size ++ List.replicate (d.size - (compactUpTo d d.size).length) zr).toArray := AnyE.slices_Compact Tryz.laysSlE43_f140 enc hO heq hne zr v23 blk off cap d w hH hsz hcap
def Tryz.laysSlM5_f139_ren : Go.Shelf.Ren := ⟨fun | 5 => 139 | 8 => 150 | 7 => 158 | 19 => 173 | 20 => 174 | 10 => 187 | 11 => 188 | 12 => 189 | 13 => 190 | 14 => 191 | 15 => 192 | 16 => 161 | 17 => 193 | 18 => 194 | 30 => 222 | 31 => 210 | 32 => 211 | 33 => 223 | 34 => 224 | 35 => 207 | 40 => 233 | n => n, fun | 23 => 224 | 25 => 2 | 3 => 3 | 32 => 246 | 22 => 224 | 0 => 0 | 44 => 269 | 46 => 184 | 4 => 4 | 36 => 263 | 35 => 262 | 41 => 94 | 5 => 5 | 9 => 9 | 53 => 295 | 57 => 299 | 63 => 317 | 64 => 318 | n => n, fun | n => n⟩
theorem Tryz.laysSlM5_f139 : Go.Proofs.SlLaysM.n5 Tryz.prog Tryz.laysSlM5_f139_ren := {
  mixed := by kernel_rfl
  f5 := ⟨Tryz.f139.name, by decide, Tryz.func139.trans (congrArg some (by kernel_rfl))⟩
  f7 := ⟨Tryz.f158.name, by decide, Tryz.func158.trans (congrArg some (by kernel_rfl))⟩
  f8 := Tryz.func150.trans (congrArg some (by kernel_rfl))
  f10 := ⟨Tryz.f187.name, by decide, Tryz.func187.trans (congrArg some (by kernel_rfl))⟩
  f11 := ⟨Tryz.f188.name, by decide, Tryz.func188.trans (congrArg some (by kernel_rfl))⟩
  f12 := ⟨Tryz.f189.name, by decide, Tryz.func189.trans (congrArg some (by kernel_rfl))⟩
  f13 := ⟨Tryz.f190.name, by decide, Tryz.func190.trans (congrArg some (by kernel_rfl))⟩
  f14 := ⟨Tryz.f191.name, by decide, Tryz.func191.trans (congrArg some (by kernel_rfl))⟩
  f15 := ⟨Tryz.f192.name, by decide, Tryz.func192.trans (congrArg some (by kernel_rfl))⟩
  f16 := ⟨Tryz.f161.name, by decide, Tryz.func161.trans (congrArg some (by kernel_rfl))⟩
  f17 := ⟨Tryz.f193.name, by decide, Tryz.func193.trans (congrArg some (by kernel_rfl))⟩
  f18 := ⟨Tryz.f194.name, by decide, Tryz.func194.trans (congrArg some (by kernel_rfl))⟩
  f19 := Tryz.func173.trans (congrArg some (by kernel_rfl))
  f20 := Tryz.func174.trans (congrArg some (by kernel_rfl))
  f30 := ⟨Tryz.f222.name, by decide, Tryz.func222.trans (congrArg some (by kernel_rfl))⟩
  f31 := Tryz.func210.trans (congrArg some (by kernel_rfl))
  f32 := Tryz.func211.trans (congrArg some (by kernel_rfl))
  f33 := ⟨Tryz.f223.name, by decide, Tryz.func223.trans (congrArg some (by kernel_rfl))⟩
  f34 := ⟨Tryz.f224.name, by decide, Tryz.func224.trans (congrArg some (by kernel_rfl))⟩
  f35 := ⟨Tryz.f207.name, by decide, Tryz.func207.trans (congrArg some (by kernel_rfl))⟩
  f40 := ⟨Tryz.f233.name, by decide, Tryz.func233.trans (congrArg some (by kernel_rfl))⟩
  t0 := Tryz.underlying0
  a0 := Tryz.isAgg0
  z0 := Tryz.sizeOf0
  v0 := Tryz.zeroValue0
  t3 := Tryz.underlying3
  a3 := Tryz.isAgg3
  z3 := Tryz.sizeOf3
  v3 := Tryz.zeroValue3
  t4 := Tryz.underlying4
  a4 := Tryz.isAgg4
  z4 := Tryz.sizeOf4
  v4 := Tryz.zeroValue4
  t5 := Tryz.underlying5
  a5 := Tryz.isAgg5
  z5 := Tryz.sizeOf5
  v5 := Tryz.zeroValue5
  t9 := Tryz.underlying9
  a9 := Tryz.isAgg9
  z9 := Tryz.sizeOf9
  v9 := Tryz.zeroValue9
  t22 := Tryz.underlying224
  a22 := Tryz.isAgg224
  z22 := Tryz.sizeOf224
  v22 := Tryz.zeroValue224
  t23 := Tryz.underlying224
  a23 := Tryz.isAgg224
  z23 := Tryz.sizeOf224
  v23 := Tryz.zeroValue224
  t25 := Tryz.underlying2
  a25 := Tryz.isAgg2
  z25 := Tryz.sizeOf2
  v25 := Tryz.zeroValue2
  t32 := Tryz.underlying246
  a32 := Tryz.isAgg246
  z32 := Tryz.sizeOf246
  v32 := Tryz.zeroValue246
  t35 := Tryz.underlying262
  a35 := Tryz.isAgg262
  z35 := Tryz.sizeOf262
  v35 := Tryz.zeroValue262
  t36 := Tryz.underlying263
  a36 := Tryz.isAgg263
  z36 := Tryz.sizeOf263
  v36 := Tryz.zeroValue263
  t41 := Tryz.underlying94
  a41 := Tryz.isAgg94
  z41 := Tryz.sizeOf94
  v41 := Tryz.zeroValue94
  t44 := Tryz.underlying269
  a44 := Tryz.isAgg269
  z44 := Tryz.sizeOf269
  v44 := Tryz.zeroValue269
  t46 := Tryz.underlying184
  a46 := Tryz.isAgg184
  z46 := Tryz.sizeOf184
  v46 := Tryz.zeroValue184
  t53 := Tryz.underlying295
  a53 := Tryz.isAgg295
  z53 := Tryz.sizeOf295
  v53 := Tryz.zeroValue295
  t57 := Tryz.underlying299
  a57 := Tryz.isAgg299
  z57 := Tryz.sizeOf299
  v57 := Tryz.zeroValue299
  t63 := Tryz.underlying317
  a63 := Tryz.isAgg317
  z63 := Tryz.sizeOf317
  v63 := Tryz.zeroValue317
  t64 := Tryz.underlying318
  a64 := Tryz.isAgg318
  z64 := Tryz.sizeOf318
  v64 := Tryz.zeroValue318 }
open Go.Sort Go.RowKit in
theorem Tryz.slices_Sort_int_f139 (blk off cap : Nat) (zs : List Int) (w : World) (hH : Holds (Value.int .i64) w blk off zs.toArray) (hblk : blk < w.heap.size) (hsz : zs.length < 4611686018427387904) :
    Calls Tryz.prog 139 #[.slice (some ⟨blk, off, none⟩) zs.length cap] w fun e w' =>
      e = .returned (.tuple #[]) ∧ ∃ n os, w' = grow (putRow (Value.int .i64) (Sort.ahead w n) blk off (zs.mergeSort fun x y => decide (x ≤ y)).toArray) os := AnyM.slices_Sort_int Tryz.laysSlM5_f139 blk off cap zs w hH hblk hsz
def Tryz.laysSlM5_f143_ren : Go.Shelf.Ren := ⟨fun | 5 => 143 | 8 => 150 | 7 => 160 | 19 => 173 | 20 => 174 | 10 => 198 | 11 => 199 | 12 => 200 | 13 => 201 | 14 => 202 | 15 => 203 | 16 => 204 | 17 => 205 | 18 => 206 | 30 => 227 | 31 => 210 | 32 => 211 | 33 => 228 | 34 => 229 | 35 => 208 | 40 => 235 | n => n, fun | 23 => 22 | 25 => 3 | 3 => 3 | 32 => 246 | 22 => 22 | 0 => 0 | 44 => 269 | 46 => 184 | 4 => 4 | 36 => 263 | 35 => 262 | 41 => 94 | 5 => 5 | 9 => 9 | 53 => 295 | 57 => 299 | 63 => 317 | 64 => 318 | n => n, fun | n => n⟩
theorem Tryz.laysSlM5_f143 : Go.Proofs.SlLaysM.n5 Tryz.prog Tryz.laysSlM5_f143_ren := {
  mixed := by kernel_rfl
  f5 := ⟨Tryz.f143.name, by decide, Tryz.func143.trans (congrArg some (by kernel_rfl))⟩
  f7 := ⟨Tryz.f160.name, by decide, Tryz.func160.trans (congrArg some (by kernel_rfl))⟩
  f8 := Tryz.func150.trans (congrArg some (by kernel_rfl))
  f10 := ⟨Tryz.f198.name, by decide, Tryz.func198.trans (congrArg some (by kernel_rfl))⟩
  f11 := ⟨Tryz.f199.name, by decide, Tryz.func199.trans (congrArg some (by kernel_rfl))⟩
  f12 := ⟨Tryz.f200.name, by decide, Tryz.func200.trans (congrArg some (by kernel_rfl))⟩
  f13 := ⟨Tryz.f201.name, by decide, Tryz.func201.trans (congrArg some (by kernel_rfl))⟩
  f14 := ⟨Tryz.f202.name, by decide, Tryz.func202.trans (congrArg some (by kernel_rfl))⟩
  f15 := ⟨Tryz.f203.name, by decide, Tryz.func203.trans (congrArg some (by kernel_rfl))⟩
  f16 := ⟨Tryz.f204.name, by decide, Tryz.func204.trans (congrArg some (by kernel_rfl))⟩
  f17 := ⟨Tryz.f205.name, by decide, Tryz.func205.trans (congrArg some (by kernel_rfl))⟩
  f18 := ⟨Tryz.f206.name, by decide, Tryz.func206.trans (congrArg some (by kernel_rfl))⟩
  f19 := Tryz.func173.trans (congrArg some (by kernel_rfl))
  f20 := Tryz.func174.trans (congrArg some (by kernel_rfl))
  f30 := ⟨Tryz.f227.name, by decide, Tryz.func227.trans (congrArg some (by kernel_rfl))⟩
  f31 := Tryz.func210.trans (congrArg some (by kernel_rfl))
  f32 := Tryz.func211.trans (congrArg some (by kernel_rfl))
  f33 := ⟨Tryz.f228.name, by decide, Tryz.func228.trans (congrArg some (by kernel_rfl))⟩
  f34 := ⟨Tryz.f229.name, by decide, Tryz.func229.trans (congrArg some (by kernel_rfl))⟩
  f35 := ⟨Tryz.f208.name, by decide, Tryz.func208.trans (congrArg some (by kernel_rfl))⟩
  f40 := ⟨Tryz.f235.name, by decide, Tryz.func235.trans (congrArg some (by kernel_rfl))⟩
  t0 := Tryz.underlying0
  a0 := Tryz.isAgg0
  z0 := Tryz.sizeOf0
  v0 := Tryz.zeroValue0
  t3 := Tryz.underlying3
  a3 := Tryz.isAgg3
  z3 := Tryz.sizeOf3
  v3 := Tryz.zeroValue3
  t4 := Tryz.underlying4
  a4 := Tryz.isAgg4
  z4 := Tryz.sizeOf4
  v4 := Tryz.zeroValue4
  t5 := Tryz.underlying5
  a5 := Tryz.isAgg5
  z5 := Tryz.sizeOf5
  v5 := Tryz.zeroValue5
  t9 := Tryz.underlying9
  a9 := Tryz.isAgg9
  z9 := Tryz.sizeOf9
  v9 := Tryz.zeroValue9
  t22 := Tryz.underlying22
  a22 := Tryz.isAgg22
  z22 := Tryz.sizeOf22
  v22 := Tryz.zeroValue22
  t23 := Tryz.underlying22
  a23 := Tryz.isAgg22
  z23 := Tryz.sizeOf22
  v23 := Tryz.zeroValue22
  t25 := Tryz.underlying3
  a25 := Tryz.isAgg3
  z25 := Tryz.sizeOf3
  v25 := Tryz.zeroValue3
  t32 := Tryz.underlying246
  a32 := Tryz.isAgg246
  z32 := Tryz.sizeOf246
  v32 := Tryz.zeroValue246
  t35 := Tryz.underlying262
  a35 := Tryz.isAgg262
  z35 := Tryz.sizeOf262
  v35 := Tryz.zeroValue262
  t36 := Tryz.underlying263
  a36 := Tryz.isAgg263
  z36 := Tryz.sizeOf263
  v36 := Tryz.zeroValue263
  t41 := Tryz.underlying94
  a41 := Tryz.isAgg94
  z41 := Tryz.sizeOf94
  v41 := Tryz.zeroValue94
  t44 := Tryz.underlying269
  a44 := Tryz.isAgg269
  z44 := Tryz.sizeOf269
  v44 := Tryz.zeroValue269
  t46 := Tryz.underlying184
  a46 := Tryz.isAgg184
  z46 := Tryz.sizeOf184
  v46 := Tryz.zeroValue184
  t53 := Tryz.underlying295
  a53 := Tryz.isAgg295
  z53 := Tryz.sizeOf295
  v53 := Tryz.zeroValue295
  t57 := Tryz.underlying299
  a57 := Tryz.isAgg299
  z57 := Tryz.sizeOf299
  v57 := Tryz.zeroValue299
  t63 := Tryz.underlying317
  a63 := Tryz.isAgg317
  z63 := Tryz.sizeOf317
  v63 := Tryz.zeroValue317
  t64 := Tryz.underlying318
  a64 := Tryz.isAgg318
  z64 := Tryz.sizeOf318
  v64 := Tryz.zeroValue318 }
open Go.Sort Go.RowKit in
theorem Tryz.slices_Sort_int_f143 (blk off cap : Nat) (zs : List Int) (w : World) (hH : Holds (Value.int .i64) w blk off zs.toArray) (hblk : blk < w.heap.size) (hsz : zs.length < 4611686018427387904) :
    Calls Tryz.prog 143 #[.slice (some ⟨blk, off, none⟩) zs.length cap] w fun e w' =>
      e = .returned (.tuple #[]) ∧ ∃ n os, w' = grow (putRow (Value.int .i64) (Sort.ahead w n) blk off (zs.mergeSort fun x y => decide (x ≤ y)).toArray) os := AnyM.slices_Sort_int Tryz.laysSlM5_f143 blk off cap zs w hH hblk hsz
open Go.RowKit Go.Sort in
/-- .. and plain. (LAID AT THE INSTANCE 'slices.Sort[[]int64,int64]': no walk: one application.) -/
theorem Tryz.slices_Sort_int_none_f139 (p : Option Addr) (cap : Nat) (w : World) :
    Calls Tryz.prog 139 #[.slice p 0 cap] w fun e w' => e = .returned (.tuple #[]) ∧ w' = w := AnyM.slices_Sort_int_none Tryz.laysSlM5_f139 p cap w
open Go.RowKit Go.Sort in
/-- .. and plain. (LAID AT THE INSTANCE 'slices.Sort[[]int,int]': no walk: one application.) -/
theorem Tryz.slices_Sort_int_none_f143 (p : Option Addr) (cap : Nat) (w : World) :
    Calls Tryz.prog 143 #[.slice p 0 cap] w fun e w' => e = .returned (.tuple #[]) ∧ w' = w := AnyM.slices_Sort_int_none Tryz.laysSlM5_f143 p cap w
end Go.Proofs
