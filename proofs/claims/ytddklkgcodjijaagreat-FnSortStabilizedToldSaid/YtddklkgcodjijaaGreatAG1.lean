import Derived.Shelf.Small.Bits
import Derived.Shelf.Small.Wraps
import Derived.Shelf.Strconv.Itoa0
import Derived.Shelf.Sort.Plain
import Derived.Shelf.Slices.Equal
import Derived.Ground.Names2Prog
import Derived.Shelf.Slices.Clone
import Derived.Shelf.Slices.SearchI
import Derived.Shelf.Slices.In.SortNone
import Derived.Shelf.Slices.Empties2
import Derived.Ground.SlgnProg
import Derived.Shelf.SlicesG.Clone
import Derived.Shelf.SlicesG.CompactI
import Derived.Shelf.SlicesG.SearchI
import Derived.Shelf.SlicesG.Cells
import Derived.Shelf.SlicesE.Equal
import Derived.Shelf.SlicesE.Compact
import Derived.Shelf.SlicesE.Clone
import Derived.Ground.SlgcProg
import Derived.Shelf.SlicesG.Cmp
import Derived.Ground.SlgmProg
import Derived.Shelf.SortM.Plain
import Derived.Shelf.SortM.SortNone
import Derived.Test.YtddklkgcodjijaaGreatProg
import Derived.Test.YtddklkgcodjijaaGreatAG0
import Derived.Deep.RegionHeld3
import Derived.Laws.MakeOwn
import Derived.Laws.Cover2
import Derived.BigRegion
import Derived.Deep.Cut
import Derived.Maps.OwnSet
import Derived.WalkSpells
import Derived.WalkLawsBesides
import Derived.Lib.Hide
import Derived.Lib.SliceRun
import Derived.Deep.CutRange
import Derived.Deep.OwnRows
import Derived.BigQuiet
set_option linter.unusedVariables false
set_option linter.unusedSimpArgs false
/-
  DERIVED: THE SHELF's CONTRACTS AT THIS DUMP, IN PLAIN WORDS (tools/lay-plain.mjs out of 'TryzShelfA.lean', which tools/lay-shelf.mjs wrote): THE SAME DECLARATIONS UNDER THE SAME NAMES: 'import', 'namespace', 'open', 'def', 'theorem' AND NOTHING ELSE: no command of the shelf's: FOR A HAND-IN. Each laying: the table of numbers ('.._ren') and one theorem, a field a fact of the dump's own or the kernel's comparison; each contract: ONE APPLICATION.
-/
namespace Go.Proofs
open Go.Shelf
def Tryz.lays189_ren : Go.Shelf.Ren := ⟨fun | 189 => 63 | 125 => 78 | 257 => 90 | 128 => 113 | 129 => 114 | 294 => 122 | 295 => 123 | 296 => 124 | 297 => 125 | 298 => 126 | 299 => 127 | 216 => 128 | 300 => 129 | 301 => 130 | 328 => 157 | 329 => 141 | 330 => 142 | 331 => 158 | 332 => 159 | 215 => 153 | 343 => 175 | n => n, fun | 28 => 22 | 3 => 3 | 46 => 128 | 0 => 0 | 51 => 178 | 53 => 180 | 4 => 4 | 183 => 172 | 182 => 171 | 131 => 84 | 5 => 5 | 9 => 9 | 218 => 205 | 222 => 209 | 228 => 236 | 229 => 237 | n => n, fun | n => n⟩
theorem Tryz.lays189 : Go.Proofs.Lays.n189 Tryz.prog Tryz.lays189_ren := {
  mixed := by kernel_rfl
  f125 := Tryz.func78.trans (congrArg some (by kernel_rfl))
  f128 := Tryz.func113.trans (congrArg some (by kernel_rfl))
  f129 := Tryz.func114.trans (congrArg some (by kernel_rfl))
  f189 := Tryz.func63.trans (congrArg some (by kernel_rfl))
  f215 := Tryz.func153.trans (congrArg some (by kernel_rfl))
  f216 := Tryz.func128.trans (congrArg some (by kernel_rfl))
  f257 := Tryz.func90.trans (congrArg some (by kernel_rfl))
  f294 := Tryz.func122.trans (congrArg some (by kernel_rfl))
  f295 := Tryz.func123.trans (congrArg some (by kernel_rfl))
  f296 := Tryz.func124.trans (congrArg some (by kernel_rfl))
  f297 := Tryz.func125.trans (congrArg some (by kernel_rfl))
  f298 := Tryz.func126.trans (congrArg some (by kernel_rfl))
  f299 := Tryz.func127.trans (congrArg some (by kernel_rfl))
  f300 := Tryz.func129.trans (congrArg some (by kernel_rfl))
  f301 := Tryz.func130.trans (congrArg some (by kernel_rfl))
  f328 := Tryz.func157.trans (congrArg some (by kernel_rfl))
  f329 := Tryz.func141.trans (congrArg some (by kernel_rfl))
  f330 := Tryz.func142.trans (congrArg some (by kernel_rfl))
  f331 := Tryz.func158.trans (congrArg some (by kernel_rfl))
  f332 := Tryz.func159.trans (congrArg some (by kernel_rfl))
  f343 := Tryz.func175.trans (congrArg some (by kernel_rfl))
  t0 := Tryz.underlying0
  a0 := Tryz.isAgg0
  z0 := Tryz.sizeOf0
  v0 := Tryz.zeroValue0
  t3 := Tryz.underlying3
  a3 := Tryz.isAgg3
  z3 := Tryz.sizeOf3
  v3 := Tryz.zeroValue3
  t4 := Tryz.underlying4
  a4 := Tryz.isAgg4
  z4 := Tryz.sizeOf4
  v4 := Tryz.zeroValue4
  t5 := Tryz.underlying5
  a5 := Tryz.isAgg5
  z5 := Tryz.sizeOf5
  v5 := Tryz.zeroValue5
  t9 := Tryz.underlying9
  a9 := Tryz.isAgg9
  z9 := Tryz.sizeOf9
  v9 := Tryz.zeroValue9
  t28 := Tryz.underlying22
  a28 := Tryz.isAgg22
  z28 := Tryz.sizeOf22
  v28 := Tryz.zeroValue22
  t46 := Tryz.underlying128
  a46 := Tryz.isAgg128
  z46 := Tryz.sizeOf128
  v46 := Tryz.zeroValue128
  t51 := Tryz.underlying178
  a51 := Tryz.isAgg178
  z51 := Tryz.sizeOf178
  v51 := Tryz.zeroValue178
  t53 := Tryz.underlying180
  a53 := Tryz.isAgg180
  z53 := Tryz.sizeOf180
  v53 := Tryz.zeroValue180
  t131 := Tryz.underlying84
  a131 := Tryz.isAgg84
  z131 := Tryz.sizeOf84
  v131 := Tryz.zeroValue84
  t182 := Tryz.underlying171
  a182 := Tryz.isAgg171
  z182 := Tryz.sizeOf171
  v182 := Tryz.zeroValue171
  t183 := Tryz.underlying172
  a183 := Tryz.isAgg172
  z183 := Tryz.sizeOf172
  v183 := Tryz.zeroValue172
  t218 := Tryz.underlying205
  a218 := Tryz.isAgg205
  z218 := Tryz.sizeOf205
  v218 := Tryz.zeroValue205
  t222 := Tryz.underlying209
  a222 := Tryz.isAgg209
  z222 := Tryz.sizeOf209
  v222 := Tryz.zeroValue209
  t228 := Tryz.underlying236
  a228 := Tryz.isAgg236
  z228 := Tryz.sizeOf236
  v228 := Tryz.zeroValue236
  t229 := Tryz.underlying237
  a229 := Tryz.isAgg237
  z229 := Tryz.sizeOf237
  v229 := Tryz.zeroValue237 }
open Go.Sort Go.RowKit in
theorem Tryz.slices_Sort_int (blk off cap : Nat) (zs : List Int) (w : World) (hH : Holds (Value.int .i64) w blk off zs.toArray) (hblk : blk < w.heap.size) (hsz : zs.length < 4611686018427387904) :
    Calls Tryz.prog 63 #[.slice (some ⟨blk, off, none⟩) zs.length cap] w fun e w' =>
      e = .returned (.tuple #[]) ∧ ∃ n os, w' = grow (putRow (Value.int .i64) (Sort.ahead w n) blk off (zs.mergeSort fun x y => decide (x ≤ y)).toArray) os := Any.slices_Sort_int Tryz.lays189 blk off cap zs w hH hblk hsz
open Go.RowKit Go.Sort in
/-- .. and plain. (LAID: no walk: one application.) -/
theorem Tryz.slices_Sort_int_none (p : Option Addr) (cap : Nat) (w : World) :
    Calls Tryz.prog 63 #[.slice p 0 cap] w fun e w' => e = .returned (.tuple #[]) ∧ w' = w := Any.slices_Sort_int_none Tryz.lays189 p cap w
def Tryz.laysSlE43_f92_ren : Go.Shelf.Ren := ⟨fun | 43 => 92 | n => n, fun | 22 => 80 | 23 => 2 | 3 => 3 | 4 => 4 | 0 => 0 | n => n, fun | n => n⟩
theorem Tryz.laysSlE43_f92 : Go.Proofs.SlLaysE.n43 Tryz.prog Tryz.laysSlE43_f92_ren := {
  mixed := by kernel_rfl
  f43 := ⟨Tryz.f92.name, by decide, Tryz.func92.trans (congrArg some (by kernel_rfl))⟩
  t0 := Tryz.underlying0
  a0 := Tryz.isAgg0
  z0 := Tryz.sizeOf0
  v0 := Tryz.zeroValue0
  t3 := Tryz.underlying3
  a3 := Tryz.isAgg3
  z3 := Tryz.sizeOf3
  v3 := Tryz.zeroValue3
  t4 := Tryz.underlying4
  a4 := Tryz.isAgg4
  z4 := Tryz.sizeOf4
  v4 := Tryz.zeroValue4
  t22 := Tryz.underlying80
  a22 := Tryz.isAgg80
  z22 := Tryz.sizeOf80
  v22 := Tryz.zeroValue80
  a23 := Tryz.isAgg2
  z23 := Tryz.sizeOf2 }
open Go.RowKit Go.Lib Go.Sort in
/-- slices.Compact: "Compact replaces consecutive runs of equal elements with a single copy. .. Compact zeroes the elements between the new length and the original length.": IT RETURNS THE SLICE CUT TO 'compactUpTo d d.size'; ITS CELLS HOLD THAT, THEN ZERO VALUES up to the old length; the library's two loops are walked. (LAID AT THE INSTANCE 'slices.Compact[[]int64,int64]': no walk: one application.) -/
theorem Tryz.slices_Compact {α : Type} [Inhabited α] [DecidableEq α] (enc : α → Value) (hO : OneCell enc) (heq : EqlAt Tryz.prog 2 enc (fun x y => decide (x = y))) (hne : NeqAt Tryz.prog 2 enc (fun x y => decide (x = y))) (zr : α) (v23 : ∀ w, (zeroValue 2).run Tryz.prog w = .ok (enc zr) w) (blk off cap : Nat) (d : Array α) (w : World) (hH : Holds enc w blk off d) (hsz : d.size ≤ 9223372036854775807) (hcap : d.size ≤ cap) :
    Calls Tryz.prog 92 #[.slice (some ⟨blk, off, none⟩) d.size cap] w fun e w' => e = .returned (.slice (some ⟨blk, off, none⟩) (compactUpTo d d.size).length cap) ∧ ∃ q, w' = putRow enc (Sort.ahead w q) blk off (compactUpTo d d.size ++ List.replicate (d.size - (compactUpTo d d.size).length) zr).toArray := AnyE.slices_Compact Tryz.laysSlE43_f92 enc hO heq hne zr v23 blk off cap d w hH hsz hcap
def Tryz.laysSlM5_f91_ren : Go.Shelf.Ren := ⟨fun | 5 => 91 | 8 => 78 | 7 => 131 | 19 => 113 | 20 => 114 | 10 => 160 | 11 => 161 | 12 => 162 | 13 => 163 | 14 => 164 | 15 => 165 | 16 => 103 | 17 => 166 | 18 => 167 | 30 => 176 | 31 => 141 | 32 => 142 | 33 => 177 | 34 => 178 | 35 => 139 | 40 => 182 | n => n, fun | 23 => 80 | 25 => 2 | 3 => 3 | 32 => 128 | 22 => 80 | 0 => 0 | 44 => 178 | 46 => 180 | 4 => 4 | 36 => 172 | 35 => 171 | 41 => 84 | 5 => 5 | 9 => 9 | 53 => 205 | 57 => 209 | 63 => 236 | 64 => 237 | n => n, fun | n => n⟩
theorem Tryz.laysSlM5_f91 : Go.Proofs.SlLaysM.n5 Tryz.prog Tryz.laysSlM5_f91_ren := {
  mixed := by kernel_rfl
  f5 := ⟨Tryz.f91.name, by decide, Tryz.func91.trans (congrArg some (by kernel_rfl))⟩
  f7 := ⟨Tryz.f131.name, by decide, Tryz.func131.trans (congrArg some (by kernel_rfl))⟩
  f8 := Tryz.func78.trans (congrArg some (by kernel_rfl))
  f10 := ⟨Tryz.f160.name, by decide, Tryz.func160.trans (congrArg some (by kernel_rfl))⟩
  f11 := ⟨Tryz.f161.name, by decide, Tryz.func161.trans (congrArg some (by kernel_rfl))⟩
  f12 := ⟨Tryz.f162.name, by decide, Tryz.func162.trans (congrArg some (by kernel_rfl))⟩
  f13 := ⟨Tryz.f163.name, by decide, Tryz.func163.trans (congrArg some (by kernel_rfl))⟩
  f14 := ⟨Tryz.f164.name, by decide, Tryz.func164.trans (congrArg some (by kernel_rfl))⟩
  f15 := ⟨Tryz.f165.name, by decide, Tryz.func165.trans (congrArg some (by kernel_rfl))⟩
  f16 := ⟨Tryz.f103.name, by decide, Tryz.func103.trans (congrArg some (by kernel_rfl))⟩
  f17 := ⟨Tryz.f166.name, by decide, Tryz.func166.trans (congrArg some (by kernel_rfl))⟩
  f18 := ⟨Tryz.f167.name, by decide, Tryz.func167.trans (congrArg some (by kernel_rfl))⟩
  f19 := Tryz.func113.trans (congrArg some (by kernel_rfl))
  f20 := Tryz.func114.trans (congrArg some (by kernel_rfl))
  f30 := ⟨Tryz.f176.name, by decide, Tryz.func176.trans (congrArg some (by kernel_rfl))⟩
  f31 := Tryz.func141.trans (congrArg some (by kernel_rfl))
  f32 := Tryz.func142.trans (congrArg some (by kernel_rfl))
  f33 := ⟨Tryz.f177.name, by decide, Tryz.func177.trans (congrArg some (by kernel_rfl))⟩
  f34 := ⟨Tryz.f178.name, by decide, Tryz.func178.trans (congrArg some (by kernel_rfl))⟩
  f35 := ⟨Tryz.f139.name, by decide, Tryz.func139.trans (congrArg some (by kernel_rfl))⟩
  f40 := ⟨Tryz.f182.name, by decide, Tryz.func182.trans (congrArg some (by kernel_rfl))⟩
  t0 := Tryz.underlying0
  a0 := Tryz.isAgg0
  z0 := Tryz.sizeOf0
  v0 := Tryz.zeroValue0
  t3 := Tryz.underlying3
  a3 := Tryz.isAgg3
  z3 := Tryz.sizeOf3
  v3 := Tryz.zeroValue3
  t4 := Tryz.underlying4
  a4 := Tryz.isAgg4
  z4 := Tryz.sizeOf4
  v4 := Tryz.zeroValue4
  t5 := Tryz.underlying5
  a5 := Tryz.isAgg5
  z5 := Tryz.sizeOf5
  v5 := Tryz.zeroValue5
  t9 := Tryz.underlying9
  a9 := Tryz.isAgg9
  z9 := Tryz.sizeOf9
  v9 := Tryz.zeroValue9
  t22 := Tryz.underlying80
  a22 := Tryz.isAgg80
  z22 := Tryz.sizeOf80
  v22 := Tryz.zeroValue80
  t23 := Tryz.underlying80
  a23 := Tryz.isAgg80
  z23 := Tryz.sizeOf80
  v23 := Tryz.zeroValue80
  t25 := Tryz.underlying2
  a25 := Tryz.isAgg2
  z25 := Tryz.sizeOf2
  v25 := Tryz.zeroValue2
  t32 := Tryz.underlying128
  a32 := Tryz.isAgg128
  z32 := Tryz.sizeOf128
  v32 := Tryz.zeroValue128
  t35 := Tryz.underlying171
  a35 := Tryz.isAgg171
  z35 := Tryz.sizeOf171
  v35 := Tryz.zeroValue171
  t36 := Tryz.underlying172
  a36 := Tryz.isAgg172
  z36 := Tryz.sizeOf172
  v36 := Tryz.zeroValue172
  t41 := Tryz.underlying84
  a41 := Tryz.isAgg84
  z41 := Tryz.sizeOf84
  v41 := Tryz.zeroValue84
  t44 := Tryz.underlying178
  a44 := Tryz.isAgg178
  z44 := Tryz.sizeOf178
  v44 := Tryz.zeroValue178
  t46 := Tryz.underlying180
  a46 := Tryz.isAgg180
  z46 := Tryz.sizeOf180
  v46 := Tryz.zeroValue180
  t53 := Tryz.underlying205
  a53 := Tryz.isAgg205
  z53 := Tryz.sizeOf205
  v53 := Tryz.zeroValue205
  t57 := Tryz.underlying209
  a57 := Tryz.isAgg209
  z57 := Tryz.sizeOf209
  v57 := Tryz.zeroValue209
  t63 := Tryz.underlying236
  a63 := Tryz.isAgg236
  z63 := Tryz.sizeOf236
  v63 := Tryz.zeroValue236
  t64 := Tryz.underlying237
  a64 := Tryz.isAgg237
  z64 := Tryz.sizeOf237
  v64 := Tryz.zeroValue237 }
open Go.Sort Go.RowKit in
theorem Tryz.slices_Sort_int_f91 (blk off cap : Nat) (zs : List Int) (w : World) (hH : Holds (Value.int .i64) w blk off zs.toArray) (hblk : blk < w.heap.size) (hsz : zs.length < 4611686018427387904) :
    Calls Tryz.prog 91 #[.slice (some ⟨blk, off, none⟩) zs.length cap] w fun e w' =>
      e = .returned (.tuple #[]) ∧ ∃ n os, w' = grow (putRow (Value.int .i64) (Sort.ahead w n) blk off (zs.mergeSort fun x y => decide (x ≤ y)).toArray) os := AnyM.slices_Sort_int Tryz.laysSlM5_f91 blk off cap zs w hH hblk hsz
open Go.RowKit Go.Sort in
/-- .. and plain. (LAID AT THE INSTANCE 'slices.Sort[[]int64,int64]': no walk: one application.) -/
theorem Tryz.slices_Sort_int_none_f91 (p : Option Addr) (cap : Nat) (w : World) :
    Calls Tryz.prog 91 #[.slice p 0 cap] w fun e w' => e = .returned (.tuple #[]) ∧ w' = w := AnyM.slices_Sort_int_none Tryz.laysSlM5_f91 p cap w
end Go.Proofs

namespace Go.Proofs.YtddklkgcodjijaaGreat.R
open Go.RowKit Go.Lab Go.Proofs.YtddklkgcodjijaaGreatW.PrintWords Go.Proofs.YtddklkgcodjijaaGreatW.PrintLast Go.Proofs.YtddklkgcodjijaaGreatW.PrintMore

open Go.Sort in
theorem putCells_take (cur : Array Value) (n : Nat) (ys : List Int) (hl : ys.length = n) (hn : n ≤ cur.size) : (putCells (Value.int .i64) 0 ys.toArray cur).toList.take n = nums .i64 ys := by
  apply List.ext_getElem?
  intro j
  rw [List.getElem?_take]
  by_cases hj : j < n
  · rw [if_pos hj, Array.getElem?_toList]
    unfold putCells nums
    rw [Array.getElem?_mapIdx, Array.getElem?_eq_getElem (by omega), List.getElem?_map, List.getElem?_eq_getElem (by omega)]
    have : j < ys.toArray.size := by simp; omega
    simp only [Option.map_some, Nat.zero_le, true_and, Nat.zero_add, Nat.sub_zero]
    rw [if_pos this, getElem!_pos ys.toArray j this]
    simp
  · rw [if_neg hj, List.getElem?_eq_none (by rw [nums_length]; omega)]

open Go.Sort in
theorem sort_own (base : Nat) (v : Value) (xs : List Int) (w : World) (h : w.ownsRow base 2 1 v xs.length (nums .i64 xs)) (hb : xs.length ≤ 100000) :
    Calls Tryz.prog 91 #[v] w fun e w' => e = .returned (.tuple #[]) ∧ w'.ownsRow base 2 1 v xs.length (nums .i64 (srt xs)) ∧ w.grownBy w' v.ownBlock := by
  by_cases h0 : xs.length = 0
  · have hx : xs = [] := List.eq_nil_of_length_eq_zero h0
    subst hx
    obtain ⟨A, c, rfl⟩ := own_slice h
    refine (Tryz.slices_Sort_int_none_f91 A c w).mono ?_
    rintro e w' ⟨rfl, rfl⟩
    exact ⟨rfl, (by simpa [srt] using h), ⟨rfl, rfl, rfl, Nat.le_refl _, fun _ _ _ => rfl⟩⟩
  · rcases h.2 with ⟨_, hn⟩ | ⟨g, cap, cur, rfl, hb1, hg, hc1, hc2, hcs, htk⟩
    · exact absurd hn h0
    · have hH : Holds (Value.int .i64) w g 0 xs.toArray := by
        intro j hj
        have hj' : j < xs.length := by simpa using hj
        refine ⟨?_, blk_frozen hg _⟩
        rw [Nat.zero_add, blk_cell hg]
        have h1 : (cur.toList.take (xs.length * 1))[j]? = some (.int .i64 xs[j]) := by rw [htk]; simp [nums, hj']
        rw [List.getElem?_take] at h1
        split at h1
        · rw [getElem!_pos xs.toArray j (by simpa using hj)]
          simpa using h1
        · cases h1
      refine (Tryz.slices_Sort_int_f91 g 0 cap xs w hH (blk_lt hg) (by omega)).mono ?_
      rintro e w' ⟨rfl, n, os, rfl⟩
      have hgl : g < w.heap.size := blk_lt hg
      have hh : (grow (putRow (Value.int .i64) (Go.Sort.ahead w n) g 0 (xs.mergeSort fun x y => decide (x ≤ y)).toArray) os).heap[g]? = some (.cells (putCells (Value.int .i64) 0 (srt xs).toArray cur) 2 (0, 0)) := by
        have hsz : (putRow (Value.int .i64) (Go.Sort.ahead w n) g 0 (xs.mergeSort fun x y => decide (x ≤ y)).toArray).heap.size = w.heap.size := by simp [putRow, mapBlock, Go.Sort.ahead]
        rw [heap_grow_old _ _ (by rw [hsz]; exact hgl)]
        unfold putRow mapBlock
        have : (Go.Sort.ahead w n).heap = w.heap := rfl
        simp only [this, Array.getElem?_modify, if_true]
        rw [hg]
        rfl
      have hsl : (putCells (Value.int .i64) 0 (srt xs).toArray cur).size = cur.size := by simp [putCells]
      refine ⟨rfl, ⟨by rw [nums_length, srt_length]; omega, .inr ⟨g, cap, _, rfl, hb1, hh, hc1, hc2, by rw [hsl]; exact hcs, ?_⟩⟩, ⟨rfl, rfl, rfl, ?_, fun k hk hne => ?_⟩⟩
      · rw [Nat.mul_one]
        exact putCells_take cur xs.length (srt xs) (srt_length xs) (by rw [hcs]; omega)
      · simp [grow, putRow, mapBlock, Go.Sort.ahead]
      · have hkg : k ≠ g := fun e => hne (by simp [Value.ownBlock, e])
        have hsz : (putRow (Value.int .i64) (Go.Sort.ahead w n) g 0 (xs.mergeSort fun x y => decide (x ≤ y)).toArray).heap.size = w.heap.size := by simp [putRow, mapBlock, Go.Sort.ahead]
        rw [heap_grow_old _ _ (by rw [hsz]; exact hk)]
        unfold putRow mapBlock
        have : (Go.Sort.ahead w n).heap = w.heap := rfl
        simp only [this, Array.getElem?_modify]
        rw [if_neg (Ne.symm hkg)]

set_option maxHeartbeats 400000 in
theorem clone64_none (n c : Nat) (w : World) : Calls Tryz.prog 93 #[.slice none n c] w fun e w' => e = .returned (.slice none 0 0) ∧ w = w' := by
  have q60 : ∀ (w : World) (a : Option Addr) (n c n' c' : Nat), (binOp .eql 80 (.slice a n c) (.slice none n' c')).run Tryz.prog w = .ok (.bool a.isNone) w := fun w a n c n' c' => Lib.run_eql_slice_nil w _ _ a n c n' c' Tryz.underlying80
  go_enter Tryz.func93, Tryz.ntmps93
  go_wp2
  go_ret
  exact ⟨rfl, rfl⟩

/-- slices.Clone at int64: of an owned row -/
theorem clone64_own (base : Nat) (v : Value) (xs : List Int) (w : World) (h : w.ownsRow base 2 1 v xs.length (nums .i64 xs)) (hb : xs.length ≤ 100000) :
    Calls Tryz.prog 93 #[v] w fun e w' => ∃ v', e = .returned v' ∧ w'.ownsRow w.heap.size 2 1 v' xs.length (nums .i64 xs) ∧ Below w.heap.size w w' := by
  obtain ⟨A, c, rfl, hr⟩ := own_reads h
  cases A with
  | none =>
    refine (clone64_none _ _ w).mono ?_
    rintro e w' ⟨rfl, rfl⟩
    have h0 : xs.length = 0 := by
      rcases h.2 with ⟨hn, h0⟩ | ⟨g, cap, cur, hv, _⟩
      · exact h0
      · cases hv
    have hx : xs = [] := List.eq_nil_of_length_eq_zero h0
    subst hx
    exact ⟨_, rfl, World.ownsRow_nil _ _ _ _, Below.refl _ _⟩
  | some ad =>
    exact clone64_some ad c xs w (Kd.C_of_reads hr) (by omega)

set_option maxHeartbeats 400000 in
theorem index_any (base bp : Nat) (vi : Value) (ids : List Int) (t : Int) (w : World) (hc : w.cell? ⟨bp, 0, none⟩ = some vi) (h : w.ownsRow base 2 1 vi ids.length (nums .i64 ids)) (hs : ids.Pairwise (· < ·)) (hb : ids.length ≤ 1000) :
    Calls Tryz.prog 42 #[.pointer (some ⟨bp, 0, none⟩), .int .i64 t] w fun e w' => e = .returned (.tuple #[.int .i64 (rank ids t), .bool (decide (t ∈ ids))]) ∧ w = w' := by
  obtain ⟨A, c, rfl, hr⟩ := own_reads h
  have HR := Aside0.mk hr
  have HS := Aside0.mk hs
  clear h hr hs
  go_enter Tryz.func42, Tryz.ntmps42
  go_wp2_with (go_at_call 76; refine (bsearch_any A c ids t _ (Kd.C_of_reads HR.out) HS.out hb).mono ?_; rintro e w' ⟨rfl, rfl⟩)
  go_ret2
  exact ⟨rfl, rfl⟩
end Go.Proofs.YtddklkgcodjijaaGreat.R


namespace Go.Proofs.YtddklkgcodjijaaGreat.R
open Go.RowKit Go.Lab Go.Proofs.YtddklkgcodjijaaGreatW.PrintWords Go.Proofs.YtddklkgcodjijaaGreatW.PrintLast Go.Proofs.YtddklkgcodjijaaGreatW.PrintMore

open Go.Lib in
theorem compact_len (xs : List Int) (hs : xs.Pairwise (· ≤ ·)) : (compactUpTo xs.toArray xs.length).length ≤ xs.length ∧ ((compactUpTo xs.toArray xs.length).length = xs.length ↔ xs.Pairwise (· < ·)) := by
  have hle : (compactUpTo xs.toArray xs.length).length ≤ xs.length := by
    unfold compactUpTo
    rw [List.length_map]
    exact Nat.le_trans (List.length_filter_le _ _) (by simp)
  refine ⟨hle, ?_⟩
  unfold compactUpTo
  rw [List.length_map]
  have hr : (List.range xs.length).length = xs.length := by simp
  constructor
  · intro h
    have hall : ∀ j ∈ List.range xs.length, keeps xs.toArray j = true := by
      have h2 : ((List.range xs.length).filter (keeps xs.toArray)).length = (List.range xs.length).length := by rw [h, hr]
      exact List.length_filter_eq_length_iff.1 h2
    have hadj : ∀ j (hj : j + 1 < xs.length), xs[j] < xs[j + 1] := by
      intro j hj
      have h1 := hall (j + 1) (by simpa using hj)
      have h2 : xs[j] ≤ xs[j + 1] := (List.pairwise_iff_getElem.1 hs) j (j + 1) (by omega) hj (by omega)
      unfold keeps at h1
      rw [getElem!_pos xs.toArray (j + 1) (by simpa using hj), getElem!_pos xs.toArray (j + 1 - 1) (by simp; omega)] at h1
      simp at h1
      omega
    have hmono : ∀ i k, (hk : i + k + 1 < xs.length) → xs[i]'(by omega) < xs[i + k + 1] := by
      intro i k
      induction k with
      | zero => intro hk; exact hadj i hk
      | succ k ih =>
        intro hk
        have h1 := ih (by omega)
        have h2 := hadj (i + k + 1) (by omega)
        exact Int.lt_trans h1 h2
    rw [List.pairwise_iff_getElem]
    intro i j hi hj hij
    have := hmono i (j - i - 1) (by omega)
    have e : i + (j - i - 1) + 1 = j := by omega
    simp only [e] at this
    exact this
  · intro h
    rw [List.length_filter_eq_length_iff.2, hr]
    intro j hj
    unfold keeps
    by_cases hj0 : j = 0
    · simp [hj0]
    · have hj' : j < xs.length := by simpa using hj
      rw [getElem!_pos xs.toArray j (by simpa using hj'), getElem!_pos xs.toArray (j - 1) (by simp; omega)]
      have := (List.pairwise_iff_getElem.1 h) (j - 1) j (by omega) hj' (by omega)
      simp
      right
      omega

set_option maxHeartbeats 400000 in
theorem compact_none (n c : Nat) (h : n < 2) (A : Option Addr) (w : World) : Calls Tryz.prog 92 #[.slice A n c] w fun e w' => e = .returned (.slice A n c) ∧ w = w' := by
  go_enter Tryz.func92, Tryz.ntmps92
  go_wp2
  go_ret
  exact ⟨rfl, rfl⟩

open Go.Sort in
theorem compact_own (base : Nat) (v : Value) (xs : List Int) (w : World) (h : w.ownsRow base 2 1 v xs.length (nums .i64 xs)) (hs : xs.Pairwise (· ≤ ·)) (hb : xs.length ≤ 100000) :
    Calls Tryz.prog 92 #[v] w fun e w' => ∃ A m c, e = .returned (.slice A m c) ∧ m ≤ xs.length ∧ (m = xs.length ↔ xs.Pairwise (· < ·)) ∧ w.grownBy w' v.ownBlock := by
  by_cases h0 : xs.length < 2
  · obtain ⟨A, c, rfl⟩ := own_slice h
    refine (compact_none _ c h0 A w).mono ?_
    rintro e w' ⟨rfl, rfl⟩
    refine ⟨_, _, _, rfl, Nat.le_refl _, ⟨fun _ => ?_, fun _ => rfl⟩, ⟨rfl, rfl, rfl, Nat.le_refl _, fun _ _ _ => rfl⟩⟩
    match xs, h0 with
    | [], _ => exact List.Pairwise.nil
    | [x], _ => simp
  · rcases h.2 with ⟨_, hn⟩ | ⟨g, cap, cur, rfl, hb1, hg, hc1, hc2, hcs, htk⟩
    · omega
    · have hH : Holds (Value.int .i64) w g 0 xs.toArray := by
        intro j hj
        have hj' : j < xs.length := by simpa using hj
        refine ⟨?_, blk_frozen hg _⟩
        rw [Nat.zero_add, blk_cell hg]
        have h1 : (cur.toList.take (xs.length * 1))[j]? = some (.int .i64 xs[j]) := by rw [htk]; simp [nums, hj']
        rw [List.getElem?_take] at h1
        split at h1
        · rw [getElem!_pos xs.toArray j (by simpa using hj)]
          simpa using h1
        · cases h1
      have hcl := compact_len xs hs
      have hc := AnyE.slices_Compact Tryz.laysSlE43_f92 (Value.int .i64) (fun _ => rfl) (EqlAt.intD _ _ _) (NeqAt.intD _ _ _) (0 : Int) (fun w => by kernel_rfl) g 0 cap xs.toArray w hH (by simp; omega) (by simpa using hc1)
      have hc' : Calls Tryz.prog 92 #[.slice (some ⟨g, 0, none⟩) xs.length cap] w _ := hc
      refine hc'.mono ?_
      rintro e w' ⟨rfl, q, rfl⟩
      refine ⟨_, _, _, rfl, by simpa using hcl.1, by simpa using hcl.2, ⟨rfl, rfl, rfl, by simp [putRow, mapBlock, Go.Sort.ahead], fun k hk hne => ?_⟩⟩
      have hkg : k ≠ g := fun e => hne (by simp [Value.ownBlock, e])
      unfold putRow mapBlock
      have : (Go.Sort.ahead w q).heap = w.heap := rfl
      simp only [this, Array.getElem?_modify]
      rw [if_neg (Ne.symm hkg)]
end Go.Proofs.YtddklkgcodjijaaGreat.R


namespace Go.Proofs.YtddklkgcodjijaaGreat.R
open Go.RowKit Go.Lab Go.Proofs.YtddklkgcodjijaaGreatW.PrintWords Go.Proofs.YtddklkgcodjijaaGreatW.PrintLast Go.Proofs.YtddklkgcodjijaaGreatW.PrintMore PL

/-- the state of read behind k nodes -/
structure Rd1 (w wr : World) (d : Bool) (s1 s2 : Value) (ys : List Int) (vi : Value) : Prop where
  g : wr.heap[w.heap.size]? = some (.cells #[.bool d, s1, s2] 25 (0, 0))
  p : wr.heap[w.heap.size + 1]? = some (.cells #[vi, .slice none 0 0, .slice none 0 0] 83 (0, 0))
  own : wr.ownsRow w.heap.size 2 1 vi ys.length (nums .i64 ys)
  bel : Below w.heap.size w wr

def Rd1Ok (w wr : World) (d : Bool) (s1 s2 : Value) (ys : List Int) : Prop := ∃ vi, Rd1 w wr d s1 s2 ys vi

theorem Rd1.step {w wr w1 : World} {d : Bool} {s1 s2 : Value} {ys : List Int} {vi : Value} {x : Int} {v' : Value} (h : Rd1 w wr d s1 s2 ys vi)
    (hown : w1.ownsRow w.heap.size 2 1 v' (ys.length + 1) (nums .i64 ys ++ [.int .i64 x])) (hg : wr.grownBy w1 vi.ownBlock) :
    Rd1 w (w1.setCell ⟨w.heap.size + 1, 0, none⟩ v') d s1 s2 (ys ++ [x]) v' := by
  have hne1 : ∀ {k : Nat} {c : Array Value} {e : TypeId}, wr.heap[k]? = some (.cells c e (0,0)) → e ≠ 2 → w1.heap[k]? = wr.heap[k]? := by
    intro k c e hk he
    refine hg.block k (blk_lt hk) (fun hc => ?_)
    obtain ⟨c', hc'⟩ := own_block h.own hc.symm
    exact he (blk_type hk hc')
  refine ⟨?_, ?_, ?_, ?_⟩
  · rw [Below.heap_setCell _ _ _ _ (by simp), hne1 h.g (by decide)]; exact h.g
  · have := (hne1 h.p (by decide)).trans h.p
    have := blk_set this 0 v'
    simpa using this
  · have h2 : w1.heap[w.heap.size + 1]? = some (.cells #[vi, .slice none 0 0, .slice none 0 0] 83 (0, 0)) := (hne1 h.p (by decide)).trans h.p
    have h3 : w1.ownsRow w.heap.size 2 1 v' (ys ++ [x]).length (nums .i64 (ys ++ [x])) := by simpa [nums] using hown
    refine own_of_heap h3 (fun k hk => ?_)
    obtain ⟨c, hc⟩ := own_block h3 hk
    rw [Below.heap_setCell _ _ _ _ (by rintro rfl; exact absurd (blk_type hc h2) (by decide))]
  · exact (h.bel.grown hg h.bel.size (fun k hk => own_base h.own k hk)).setCell (by simp) _

theorem Rd1.far {w wr : World} {d : Bool} {s1 s2 : Value} {ys : List Int} {vi : Value} (h : Rd1 w wr d s1 s2 ys vi) {w1 : World} (hg : wr.grownBy w1 vi.ownBlock) {k : Nat} {c : Array Value} {e : TypeId} (hk : wr.heap[k]? = some (.cells c e (0,0))) (he : e ≠ 2) : w1.heap[k]? = wr.heap[k]? :=
  hg.block k (blk_lt hk) (fun hc => by
    obtain ⟨c', hc'⟩ := own_block h.own hc.symm
    exact he (blk_type hk hc'))

theorem Rd1.sorted {w wr w1 : World} {d : Bool} {s1 s2 : Value} {ys ys' : List Int} {vi : Value} (h : Rd1 w wr d s1 s2 ys vi) (hl : ys'.length = ys.length)
    (hown : w1.ownsRow w.heap.size 2 1 vi ys.length (nums .i64 ys')) (hg : wr.grownBy w1 vi.ownBlock) : Rd1 w w1 d s1 s2 ys' vi :=
  ⟨(h.far hg h.g (by decide)).trans h.g, (h.far hg h.p (by decide)).trans h.p, by rw [hl]; exact hown, h.bel.grown hg h.bel.size (fun k hk => own_base h.own k hk)⟩

theorem Rd1.below {w wr w1 : World} {d : Bool} {s1 s2 : Value} {ys : List Int} {vi : Value} (h : Rd1 w wr d s1 s2 ys vi) (hb : Below wr.heap.size wr w1) : Rd1 w w1 d s1 s2 ys vi :=
  ⟨(hb.block _ (blk_lt h.g)).trans h.g, (hb.block _ (blk_lt h.p)).trans h.p, h.own.kept (grown_of_below hb none) (by cases vi.ownBlock <;> simp), h.bel.trans (hb.mono h.bel.size)⟩

theorem Tryz.info195 : (Tryz.prog.info? 195).map (fun i => (i.zero, i.size, i.bytes)) = some (some (.slice none 0 0), 1, 24) := by kernel_rfl

/-- the graph with no edges -/
def pl0 (ids : List Int) : Pl := ⟨ids, List.replicate ids.length [], List.replicate ids.length []⟩

theorem pl0_good (ids : List Int) (h : ids.length ≤ 1000) : (pl0 ids).Good := by
  have hr : ∀ i, GoodRow ids.length ((List.replicate ids.length ([] : List (Int × Nat))).getD i []) := by
    intro i
    have : (List.replicate ids.length ([] : List (Int × Nat))).getD i [] = [] := by
      rw [List.getD_eq_getElem?_getD, List.getElem?_replicate]; split <;> rfl
    rw [this]
    exact ⟨List.Pairwise.nil, by simp⟩
  exact ⟨h, hr, hr⟩

theorem rows0 {w : World} {base : Nat} {n : Nat} : ∀ i (h : i < (List.replicate n (Value.slice none 0 0)).length), w.ownsRow base 231 2 (List.replicate n (Value.slice none 0 0))[i] ((List.replicate n ([] : List (Int × Nat))).getD i []).length (fl ((List.replicate n ([] : List (Int × Nat))).getD i [])) := by
  intro i h
  have : (List.replicate n ([] : List (Int × Nat))).getD i [] = [] := by
    rw [List.getD_eq_getElem?_getD, List.getElem?_replicate]; split <;> rfl
  rw [this, List.getElem_replicate]
  exact World.ownsRow_nil _ _ _ _

theorem apart_nil (v : Value) : ApartS (.slice none 0 0) v := fun k hk => by simp [Value.ownBlock] at hk

theorem made_toList (n : Nat) : (madeCells #[Value.slice none 0 0] n).toList = List.replicate n (Value.slice none 0 0) := by
  apply List.ext_getElem
  · simp [madeCells]
  · intro i h1 h2
    simp [madeCells, Nat.mod_one]

/-- the two tables just made -/
theorem pl0_ok {w wr w1 : World} {d : Bool} {s1 s2 vi : Value} {ids : List Int} (h : Rd1 w wr d s1 s2 ids vi) (ga gb : Nat) (hab : ga ≠ gb) (ha : wr.heap.size ≤ ga) (hb : wr.heap.size ≤ gb) (hlen : ids.length ≤ 1000)
    (h1 : w1.heap[ga]? = some (.cells (madeCells #[.slice none 0 0] ids.length) 195 (0, 0))) (h2 : w1.heap[gb]? = some (.cells (madeCells #[.slice none 0 0] ids.length) 195 (0, 0)))
    (hp : w1.heap[w.heap.size + 1]? = some (.cells #[vi, .slice (some ⟨ga, 0, none⟩) ids.length ids.length, .slice (some ⟨gb, 0, none⟩) ids.length ids.length] 83 (0, 0)))
    (hk : ∀ k, k < wr.heap.size → k ≠ w.heap.size + 1 → w1.heap[k]? = wr.heap[k]?) : PlOk w1 w.heap.size (w.heap.size + 1) (pl0 ids) := by
  have hsz := h.bel.size
  have hown : ∀ g, w.heap.size ≤ g → w1.heap[g]? = some (.cells (madeCells #[.slice none 0 0] ids.length) 195 (0, 0)) →
      w1.ownsRow w.heap.size 195 1 (.slice (some ⟨g, 0, none⟩) ids.length ids.length) (List.replicate ids.length (Value.slice none 0 0)).length (List.replicate ids.length (Value.slice none 0 0)) := by
    intro g hg hh
    refine ⟨by simp, .inr ⟨g, ids.length, _, by simp, hg, hh, by simp, by unfold maxLen; omega, by simp [size_madeCells], ?_⟩⟩
    rw [made_toList, List.length_replicate, Nat.mul_one, List.take_of_length_le (by simp)]
  refine ⟨List.replicate ids.length (.slice none 0 0), List.replicate ids.length (.slice none 0 0), vi, _, _, ⟨hp, by omega, ?_, ⟨hown ga (by omega) h1, hown gb (by omega) h2, ?_, ?_, rows0, rows0, ?_, ?_, ?_, ?_⟩, ?_, ?_⟩⟩
  · refine own_of_heap h.own (fun k hk1 => ?_)
    obtain ⟨c, hc⟩ := own_block h.own hk1
    refine hk k (blk_lt hc) ?_
    rintro rfl
    exact absurd (blk_type hc h.p) (by decide)
  · simp [pl0]
  · simp [pl0]
  · intro k h1 h2
    simp [Value.ownBlock] at h1 h2
    omega
  · intro i j hi hj _
    rw [List.getElem_replicate]; exact apart_nil _
  · intro i j hi hj _
    rw [List.getElem_replicate]; exact apart_nil _
  · intro i j hi hj
    rw [List.getElem_replicate]; exact apart_nil _
  · simp [pl0]
  · simp [pl0]

theorem two_tables {w wr : World} {d : Bool} {s1 s2 vi : Value} {ids : List Int} (h : Rd1 w wr d s1 s2 ids vi) (hlen : ids.length ≤ 1000) (n : Nat) (hn : n = ids.length) (NC : Array Value) (hNC : NC = madeCells #[.slice none 0 0] n) (ga gb : Nat)
    (hab : (ga = wr.heap.size ∧ gb = wr.heap.size + 1) ∨ (ga = wr.heap.size + 1 ∧ gb = wr.heap.size)) :
    PlOk ((((wr.setCell ⟨w.heap.size + 1, 1, none⟩ (.slice (some ⟨ga, 0, none⟩) n n)).setCell ⟨w.heap.size + 1, 2, none⟩ (.slice (some ⟨gb, 0, none⟩) n n)).alloc (.cells NC 195)).alloc (.cells NC 195)).drew w.heap.size (w.heap.size + 1) (pl0 ids) ∧
    ((((wr.setCell ⟨w.heap.size + 1, 1, none⟩ (.slice (some ⟨ga, 0, none⟩) n n)).setCell ⟨w.heap.size + 1, 2, none⟩ (.slice (some ⟨gb, 0, none⟩) n n)).alloc (.cells NC 195)).alloc (.cells NC 195)).drew.heap[w.heap.size]? = some (.cells #[.bool d, s1, s2] 25 (0, 0)) ∧
    Below w.heap.size w ((((wr.setCell ⟨w.heap.size + 1, 1, none⟩ (.slice (some ⟨ga, 0, none⟩) n n)).setCell ⟨w.heap.size + 1, 2, none⟩ (.slice (some ⟨gb, 0, none⟩) n n)).alloc (.cells NC 195)).alloc (.cells NC 195)).drew := by
  subst hn hNC
  obtain ⟨X, hX⟩ : ∃ X, X = (wr.setCell ⟨w.heap.size + 1, 1, none⟩ (.slice (some ⟨ga, 0, none⟩) ids.length ids.length)).setCell ⟨w.heap.size + 1, 2, none⟩ (.slice (some ⟨gb, 0, none⟩) ids.length ids.length) := ⟨_, rfl⟩
  have hxs : X.heap.size = wr.heap.size := by rw [hX]; simp [World.setCell]
  have hxb : ∀ k, k ≠ w.heap.size + 1 → X.heap[k]? = wr.heap[k]? := by
    intro k hk
    rw [hX, Below.heap_setCell _ _ _ _ hk, Below.heap_setCell _ _ _ _ hk]
  have hxp : X.heap[w.heap.size + 1]? = some (.cells #[vi, .slice (some ⟨ga, 0, none⟩) ids.length ids.length, .slice (some ⟨gb, 0, none⟩) ids.length ids.length] 83 (0, 0)) := by
    rw [hX]
    have h1 := blk_set h.p 1 (.slice (some ⟨ga, 0, none⟩) ids.length ids.length)
    have h2 := blk_set h1 2 (.slice (some ⟨gb, 0, none⟩) ids.length ids.length)
    simpa using h2
  rw [← hX]
  have hpl := blk_lt h.p
  have hA : ((X.alloc (.cells (madeCells #[.slice none 0 0] ids.length) 195)).alloc (.cells (madeCells #[.slice none 0 0] ids.length) 195)).drew.heap[wr.heap.size]? = some (.cells (madeCells #[.slice none 0 0] ids.length) 195 (0, 0)) := by
    show ((X.alloc _).alloc _).heap[_]? = _
    rw [Below.heap_alloc _ _ _ (by simp [hxs]), ← hxs]; exact heap_alloc_new _ _
  have hB : ((X.alloc (.cells (madeCells #[.slice none 0 0] ids.length) 195)).alloc (.cells (madeCells #[.slice none 0 0] ids.length) 195)).drew.heap[wr.heap.size + 1]? = some (.cells (madeCells #[.slice none 0 0] ids.length) 195 (0, 0)) := by
    show ((X.alloc _).alloc _).heap[_]? = _
    have := heap_alloc_new (X.alloc (.cells (madeCells #[.slice none 0 0] ids.length) 195)) (.cells (madeCells #[.slice none 0 0] ids.length) 195)
    rw [show (X.alloc (.cells (madeCells #[.slice none 0 0] ids.length) 195)).heap.size = wr.heap.size + 1 by simp [hxs]] at this
    exact this
  have hold : ∀ k, k < wr.heap.size → ((X.alloc (.cells (madeCells #[.slice none 0 0] ids.length) 195)).alloc (.cells (madeCells #[.slice none 0 0] ids.length) 195)).drew.heap[k]? = X.heap[k]? := by
    intro k hk
    show ((X.alloc _).alloc _).heap[_]? = _
    rw [Below.heap_alloc _ _ _ (by simp [hxs]; omega), Below.heap_alloc _ _ _ (by rw [hxs]; exact hk)]
  refine ⟨?_, ?_, ?_⟩
  · refine pl0_ok h ga gb (by omega) (by omega) (by omega) hlen ?_ ?_ ((hold _ hpl).trans hxp) (fun k hk hne => (hold k hk).trans (hxb k hne))
    · rcases hab with ⟨h1, _⟩ | ⟨h1, _⟩ <;> rw [h1] <;> assumption
    · rcases hab with ⟨_, h1⟩ | ⟨_, h1⟩ <;> rw [h1] <;> assumption
  · rw [hold _ (blk_lt h.g), hxb _ (by omega)]; exact h.g
  · have h1 : Below w.heap.size w X := by
      rw [hX]; exact (h.bel.setCell (by simp) _).setCell (by simp) _
    exact ((h1.alloc h1.size _).alloc (by simp; have := h1.size; omega) _).drew

/-- an edge that joins two of the nodes, with a weight that is not too great -/
def goodE (zs : List Int) (e : S95) : Bool := decide (e.f0 ∈ zs) && decide (e.f1 ∈ zs) && !decide (e.f0 = e.f1) && !decide (1099511627776 < e.f2) && !decide (e.f2 < -1099511627776)
def layE (d : Bool) (p : Pl) (e : S95) : Pl := p.lay (rank p.ids e.f0) (rank p.ids e.f1) (floatOfInt .f64 e.f2) d
/-- the plain graph of lists of nodes and edges -/
def plOf (d : Bool) (zs : List Int) (es : List S95) : Pl := es.foldl (layE d) (pl0 (srt zs))
/-- whether a graph is good -/
def readOk (zs : List Int) (es : List S95) : Bool := decide ((srt zs).Pairwise (· < ·)) && es.all (goodE zs)

theorem Rows2.below {w w1 : World} {base : Nat} {A B : List (List (Int × Nat))} {ra rb : List Value} {va vb : Value} (h : Rows2 w base A B ra rb va vb) (hb : Below w.heap.size w w1) : Rows2 w1 base A B ra rb va vb := by
  have hk : ∀ {e : TypeId} {size n : Nat} {v : Value} {xs : List Value}, w.ownsRow base e size v n xs → w1.ownsRow base e size v n xs := fun h => pw_own_below h hb
  exact ⟨hk h.a, hk h.b, h.la, h.lb, fun i hi => hk (h.rowA i hi), fun i hi => hk (h.rowB i hi), h.sepT, h.sepA, h.sepB, h.sepAB⟩

theorem PlOk.below {w w1 : World} {base bp : Nat} {p : Pl} (h : PlOk w base bp p) (hb : Below w.heap.size w w1) : PlOk w1 base bp p := by
  obtain ⟨ro, ri, vi, vo, vn, hp⟩ := h
  exact ⟨ro, ri, vi, vo, vn, (hb.block _ (blk_lt hp.blk)).trans hp.blk, hp.hb, pw_own_below hp.ids hb, hp.rows.below hb, hp.po, hp.pi⟩

theorem PlOk.lt {w : World} {base bp : Nat} {p : Pl} (h : PlOk w base bp p) : bp < w.heap.size := by
  obtain ⟨ro, ri, vi, vo, vn, hp⟩ := h
  exact blk_lt hp.blk

theorem pl_index (base bp : Nat) (p : Pl) (t : Int) (w : World) (h : PlOk w base bp p) (hs : p.ids.Pairwise (· < ·)) (hb : p.ids.length ≤ 1000) :
    Calls Tryz.prog 42 #[.pointer (some ⟨bp, 0, none⟩), .int .i64 t] w fun e w' => e = .returned (.tuple #[.int .i64 (rank p.ids t), .bool (decide (t ∈ p.ids))]) ∧ w = w' := by
  obtain ⟨ro, ri, vi, vo, vn, hp⟩ := h
  exact index_any base bp vi p.ids t w (by rw [blk_cell hp.blk]; rfl) hp.ids hs hb

/-- the ways through read's test of an edge -/
theorem edge_ways {zs : List Int} (hs : (srt zs).Pairwise (· < ·)) (e : S95) :
    (goodE zs e = true ∧ (decide (e.f0 ∈ srt zs) = true ∧ decide (e.f1 ∈ srt zs) = true ∧ (((rank (srt zs) e.f0 : Nat) : Int) == ((rank (srt zs) e.f1 : Nat) : Int)) = false ∧ decide (1099511627776 < e.f2) = false ∧ decide (e.f2 < -1099511627776) = false)) ∨
    (goodE zs e = false ∧ (decide (e.f0 ∈ srt zs) = false ∨
      (decide (e.f0 ∈ srt zs) = true ∧ decide (e.f1 ∈ srt zs) = false) ∨
      (decide (e.f0 ∈ srt zs) = true ∧ decide (e.f1 ∈ srt zs) = true ∧ (((rank (srt zs) e.f0 : Nat) : Int) == ((rank (srt zs) e.f1 : Nat) : Int)) = true) ∨
      (decide (e.f0 ∈ srt zs) = true ∧ decide (e.f1 ∈ srt zs) = true ∧ (((rank (srt zs) e.f0 : Nat) : Int) == ((rank (srt zs) e.f1 : Nat) : Int)) = false ∧ decide (1099511627776 < e.f2) = true) ∨
      (decide (e.f0 ∈ srt zs) = true ∧ decide (e.f1 ∈ srt zs) = true ∧ (((rank (srt zs) e.f0 : Nat) : Int) == ((rank (srt zs) e.f1 : Nat) : Int)) = false ∧ decide (1099511627776 < e.f2) = false ∧ decide (e.f2 < -1099511627776) = true))) := by
  have hm0 : decide (e.f0 ∈ zs) = decide (e.f0 ∈ srt zs) := by simp [mem_srt]
  have hm1 : decide (e.f1 ∈ zs) = decide (e.f1 ∈ srt zs) := by simp [mem_srt]
  have hr : decide (e.f0 ∈ srt zs) = true → decide (e.f1 ∈ srt zs) = true → (((rank (srt zs) e.f0 : Nat) : Int) == ((rank (srt zs) e.f1 : Nat) : Int)) = decide (e.f0 = e.f1) := by
    intro h0 h1
    obtain ⟨a0, b0⟩ := (rank_mem hs _).1 (of_decide_eq_true h0)
    obtain ⟨a1, b1⟩ := (rank_mem hs _).1 (of_decide_eq_true h1)
    by_cases he : e.f0 = e.f1
    · rw [decide_eq_true he, he]; simp
    · rw [decide_eq_false he]
      simp only [beq_eq_false_iff_ne, ne_eq]
      intro h
      have h' : rank (srt zs) e.f0 = rank (srt zs) e.f1 := by omega
      apply he
      rw [← b0, ← b1]
      simp [h']
  unfold goodE
  rw [hm0, hm1]
  generalize decide (e.f0 ∈ srt zs) = x0 at *
  generalize decide (e.f1 ∈ srt zs) = x1 at *
  generalize (((rank (srt zs) e.f0 : Nat) : Int) == ((rank (srt zs) e.f1 : Nat) : Int)) = x2 at *
  generalize decide (1099511627776 < e.f2) = x3
  generalize decide (e.f2 < -1099511627776) = x4
  generalize decide (e.f0 = e.f1) = x5 at *
  revert hr
  cases x0 <;> cases x1 <;> cases x2 <;> cases x3 <;> cases x4 <;> cases x5 <;> simp

/-- the state of read behind k edges -/
structure Rd2 (w wr : World) (d : Bool) (s1 s2 : Value) (zs : List Int) (es : List S95) : Prop where
  all : es.all (goodE zs) = true
  ok : PlOk wr w.heap.size (w.heap.size + 1) (plOf d zs es)
  g : wr.heap[w.heap.size]? = some (.cells #[.bool d, s1, s2] 25 (0, 0))
  bel : Below w.heap.size w wr

theorem foldl_ids (d : Bool) : ∀ (es : List S95) (p : Pl), (es.foldl (layE d) p).ids = p.ids
  | [], _ => rfl
  | e :: es, p => by
    rw [List.foldl_cons, foldl_ids d es]
    unfold layE Pl.lay
    split <;> rfl

theorem plOf_ids (d : Bool) (zs : List Int) (es : List S95) : (plOf d zs es).ids = srt zs := foldl_ids d es _

theorem plOf_snoc (d : Bool) (zs : List Int) (es : List S95) (e : S95) : plOf d zs (es ++ [e]) = layE d (plOf d zs es) e := by
  unfold plOf; rw [List.foldl_append]; rfl

theorem goodE_rank {zs : List Int} (h : (srt zs).Pairwise (· < ·)) {e : S95} (hg : goodE zs e = true) : rank (srt zs) e.f0 < (srt zs).length ∧ rank (srt zs) e.f1 < (srt zs).length := by
  unfold goodE at hg
  simp only [Bool.and_eq_true, decide_eq_true_eq] at hg
  obtain ⟨⟨⟨⟨h1, h2⟩, _⟩, _⟩, _⟩ := hg
  exact ⟨((rank_mem h _).1 ((mem_srt _ _).2 h1)).1, ((rank_mem h _).1 ((mem_srt _ _).2 h2)).1⟩

theorem plOf_good (d : Bool) (zs : List Int) (hz : zs.length ≤ 1000) (h : (srt zs).Pairwise (· < ·)) : ∀ (es : List S95), es.all (goodE zs) = true → (plOf d zs es).Good := by
  intro es hes
  unfold plOf
  suffices hh : ∀ (es : List S95) (p : Pl), p.ids = srt zs → p.Good → es.all (goodE zs) = true → (es.foldl (layE d) p).Good from hh es _ rfl (pl0_good _ (by rw [srt_length]; exact hz)) hes
  intro es
  induction es with
  | nil => intro p _ hp _; exact hp
  | cons e es ih =>
    intro p hi hp ha
    rw [List.all_cons, Bool.and_eq_true] at ha
    rw [List.foldl_cons]
    have hr := goodE_rank h ha.1
    have h2 : (layE d p e).ids = srt zs := by rw [← hi]; unfold layE Pl.lay; split <;> rfl
    refine ih _ h2 ?_ ha.2
    unfold layE
    rw [hi]
    exact hp.lay _ _ _ d (by rw [hi]; exact hr.1) (by rw [hi]; exact hr.2)

end Go.Proofs.YtddklkgcodjijaaGreat.R


namespace Go.Proofs.YtddklkgcodjijaaGreat.R
open Go.RowKit Go.Lab Go.Proofs.YtddklkgcodjijaaGreatW.PrintWords Go.Proofs.YtddklkgcodjijaaGreatW.PrintLast Go.Proofs.YtddklkgcodjijaaGreatW.PrintMore PL

/-- the row of a node -/
def Pl.row (p : Pl) (u : Int) : List (Int × Nat) := p.out.getD (rank p.ids u) []
/-- the arc from a node to another one -/
def Pl.find (p : Pl) (u v : Int) : Option (Int × Nat) :=
  if u ∈ p.ids ∧ v ∈ p.ids ∧ ((rank p.ids v : Nat) : Int) ∈ keys (p.row u) then (p.row u)[rank (keys (p.row u)) ((rank p.ids v : Nat) : Int)]? else none

theorem Below.up {B : Nat} {w W w' : World} (h : Below B w W) (k : Below W.heap.size W w') (hB : B ≤ w.heap.size) : Below B w w' := h.trans (k.mono (Nat.le_trans hB h.size))

/-- whether there is an edge from u to v -/
def Pl.has (p : Pl) (u v : Int) : Bool := (p.find u v).isSome

end Go.Proofs.YtddklkgcodjijaaGreat.R


/- Frames: what changes between two places of the heap alone. -/
namespace Go.Proofs.YtddklkgcodjijaaGreat.R
open Go.RowKit Go.Lab Go.Proofs.YtddklkgcodjijaaGreatW.PrintWords Go.Proofs.YtddklkgcodjijaaGreatW.PrintLast Go.Proofs.YtddklkgcodjijaaGreatW.PrintMore PL

def nodeV (x : Int) : Value := .iface 272 (.int .i64 x)
theorem Tryz.info88 : (Tryz.prog.info? 88).map (fun i => (i.zero, i.size, i.bytes)) = some (some .nilIface, 1, 16) := by kernel_rfl
def nodeVs (xs : List Int) : List Value := xs.map nodeV

/-- of what was there, what lies from lo on and below B alone may change -/
structure Mid (lo B : Nat) (w w' : World) : Prop where
  os : w'.os = w.os
  tape : w'.tape = w.tape
  output : w'.output = w.output
  size : w.heap.size ≤ w'.heap.size
  block : ∀ k, k < w.heap.size → (k < lo ∨ B ≤ k) → w'.heap[k]? = w.heap[k]?

theorem Mid.refl (lo B : Nat) (w : World) : Mid lo B w w := ⟨rfl, rfl, rfl, Nat.le_refl _, fun _ _ _ => rfl⟩
theorem Mid.trans {lo B : Nat} {a b c : World} (h : Mid lo B a b) (k : Mid lo B b c) : Mid lo B a c :=
  ⟨k.os.trans h.os, k.tape.trans h.tape, k.output.trans h.output, Nat.le_trans h.size k.size, fun i hi ho => (k.block i (Nat.lt_of_lt_of_le hi h.size) ho).trans (h.block i hi ho)⟩
theorem Mid.below {lo B : Nat} {w w' : World} (h : Mid lo B w w') (hlo : lo ≤ w.heap.size) : Below lo w w' :=
  ⟨h.os, h.tape, h.output, h.size, fun k hk => h.block k (by omega) (.inl hk)⟩
theorem Mid.of_below {lo B : Nat} {w w' : World} (h : Below w.heap.size w w') : Mid lo B w w' :=
  ⟨h.os, h.tape, h.output, h.size, fun k hk _ => h.block k hk⟩
theorem Mid.of_grown {lo B : Nat} {w w' : World} {row : Option Nat} (h : w.grownBy w' row) (hr : ∀ k, row = some k → k < w.heap.size → lo ≤ k ∧ k < B) : Mid lo B w w' :=
  ⟨h.os, h.tape, h.output, h.size, fun k hk ho => h.block k hk (fun e => by have := hr k e.symm hk; omega)⟩
theorem Mid.set {lo B : Nat} (w : World) (a : Addr) (v : Value) (h1 : lo ≤ a.block) (h2 : a.block < B) : Mid lo B w (w.setCell a v) :=
  ⟨rfl, rfl, rfl, by simp [World.setCell], fun k _ ho => Below.heap_setCell _ _ _ _ (by omega)⟩
theorem Mid.wide {lo B lo' B' : Nat} {w w' : World} (h : Mid lo B w w') (h1 : lo' ≤ lo) (h2 : B ≤ B') : Mid lo' B' w w' :=
  ⟨h.os, h.tape, h.output, h.size, fun k hk ho => h.block k hk (by omega)⟩
theorem Mid.own {lo B : Nat} {w w' : World} (h : Mid lo B w w') {base : Nat} {e : TypeId} {size n : Nat} {v : Value} {xs : List Value} (ho : w.ownsRow base e size v n xs) (hk : ∀ k, v.ownBlock = some k → k < lo ∨ B ≤ k) : w'.ownsRow base e size v n xs :=
  own_move ho fun k hv => by
    obtain ⟨c, hc⟩ := own_block ho hv
    exact h.block k (blk_lt hc) (hk k hv)

/-- an iterator over nodes in order, in block b; k - 1 is its place -/
structure OIt (lo B : Nat) (w : World) (b : Nat) (xs : List Int) (k : Nat) : Prop where
  ex : ∃ v, w.heap[b]? = some (.cells #[.int .i64 ((k : Int) - 1), v] 278 (0, 0)) ∧ w.ownsRow lo 88 1 v xs.length (nodeVs xs) ∧ (∀ q, v.ownBlock = some q → q < B)
  hb : lo ≤ b ∧ b < B
  hk : k ≤ xs.length + 1

theorem OIt.far {lo B : Nat} {w w' : World} {b : Nat} {xs : List Int} {k : Nat} (h : OIt lo B w b xs k) (hk : ∀ q, lo ≤ q → q < B → w'.heap[q]? = w.heap[q]?) : OIt lo B w' b xs k := by
  obtain ⟨v, h1, h2, h3⟩ := h.ex
  exact ⟨⟨v, (hk b h.hb.1 h.hb.2).trans h1, own_move h2 (fun q hq => hk q (own_base h2 q hq) (h3 q hq)), h3⟩, h.hb, h.hk⟩

theorem OIt.lt {lo B : Nat} {w : World} {b : Nat} {xs : List Int} {k : Nat} (h : OIt lo B w b xs k) : b < w.heap.size := by
  obtain ⟨v, h1, _⟩ := h.ex
  exact blk_lt h1

theorem OIt.to {lo B : Nat} {w : World} {b : Nat} {xs : List Int} {k : Nat} (h : OIt lo B w b xs k) (k' : Nat) (hk : k' ≤ xs.length + 1) : OIt lo B (w.setCell ⟨b, 0, none⟩ (.int .i64 ((k' : Int) - 1))) b xs k' := by
  obtain ⟨v, h1, h2, h3⟩ := h.ex
  refine ⟨⟨v, ?_, ?_, h3⟩, h.hb, hk⟩
  · have := blk_set h1 0 (.int .i64 ((k' : Int) - 1))
    simpa using this
  · refine own_move h2 fun q hq => Below.heap_setCell _ _ _ _ ?_
    rintro rfl
    obtain ⟨c, hc⟩ := own_block h2 hq
    exact absurd (blk_type h1 hc) (by decide)

/-- the same iterator, seen from wider places -/
theorem OIt.wide {lo B lo' B' : Nat} {w : World} {b : Nat} {xs : List Int} {k : Nat} (h : OIt lo B w b xs k) (h1 : lo' ≤ lo) (h2 : B ≤ B') : OIt lo' B' w b xs k := by
  obtain ⟨v, e1, e2, e3⟩ := h.ex
  exact ⟨⟨v, e1, own_less e2 h1, fun q hq => Nat.lt_of_lt_of_le (e3 q hq) h2⟩, ⟨Nat.le_trans h1 h.hb.1, Nat.lt_of_lt_of_le h.hb.2 h2⟩, h.hk⟩
end Go.Proofs.YtddklkgcodjijaaGreat.R


namespace Go.Proofs.YtddklkgcodjijaaGreat.R
open Go.RowKit Go.Lab Go.Proofs.YtddklkgcodjijaaGreatW.PrintWords Go.Proofs.YtddklkgcodjijaaGreatW.PrintLast Go.Proofs.YtddklkgcodjijaaGreatW.PrintMore PL

end Go.Proofs.YtddklkgcodjijaaGreat.R


namespace Go.Proofs.YtddklkgcodjijaaGreat.Q
open Go.RowKit Go.Lab Go.Proofs.YtddklkgcodjijaaGreatW.PrintWords Go.Proofs.YtddklkgcodjijaaGreatW.PrintLast Go.Proofs.YtddklkgcodjijaaGreatW.PrintMore

theorem Tryz.info2 : (Tryz.prog.info? 2).map (fun i => (i.zero, i.size, i.bytes)) = some (some (.int .i64 0), 1, 8) := by kernel_rfl
theorem Tryz.info3 : (Tryz.prog.info? 3).map (fun i => (i.zero, i.size, i.bytes)) = some (some (.int .i64 0), 1, 8) := by kernel_rfl

/-- cells of a read slice of ints -/
theorem C_int_cells {w : World} {A : Option Addr} {n : Nat} {xs : List Int} {k : IntKind} (h : Kd.C (Kd.int k) w A n xs) {ad : Addr} (hA : A = some ad) :
    ∀ j u, (nums k xs)[j]? = some u → w.cell? (ad.add j) = some u := by
  intro j u hu
  obtain ⟨hl, _, hc⟩ := h
  have hj : j < xs.length := by
    rcases Nat.lt_or_ge j xs.length with h | h
    · exact h
    · rw [List.getElem?_eq_none (by rw [nums_length]; exact h)] at hu; cases hu
  obtain ⟨ad', e, hc⟩ := hc (by omega)
  rw [hA] at e; cases e
  obtain ⟨c, _, hr, hcell⟩ := hc j _ (List.getElem?_eq_getElem hj)
  have hr' : c = [.int k xs[j]] := hr
  subst hr'
  have := hcell 0 (.int k xs[j]) rfl
  simp only [nums, List.getElem?_map, List.getElem?_eq_getElem hj, Option.map_some, Option.some.injEq] at hu
  subst hu
  have hs : (Kd.int k).sz = 1 := rfl
  rw [hs] at this
  simpa using this

theorem C_int_at {w : World} {A : Option Addr} {n : Nat} {xs : List Int} {k : IntKind} (h : Kd.C (Kd.int k) w A n xs) (i : Nat) (hi : i < n) : ∃ ad, A = some ad ∧ w.cell? (ad.add i) = some (.int k (xs.getD i 0)) := by
  obtain ⟨ad, e, hc⟩ := Kd.at_int h i (by omega) (by omega)
  exact ⟨ad, e, by simpa [rd] using hc⟩

theorem Below.up {B : Nat} {w W w' : World} (h : Below B w W) (k : Below W.heap.size W w') (hB : B ≤ w.heap.size) : Below B w w' := h.trans (k.mono (Nat.le_trans hB h.size))

theorem own_of_heap {w w1 : World} {base : Nat} {e : TypeId} {size n : Nat} {v : Value} {xs : List Value} (h : w.ownsRow base e size v n xs) (hk : ∀ k, v.ownBlock = some k → w1.heap[k]? = w.heap[k]?) : w1.ownsRow base e size v n xs := own_move h hk

theorem own_block {w : World} {base : Nat} {e : TypeId} {size n : Nat} {v : Value} {xs : List Value} (h : w.ownsRow base e size v n xs) {k : Nat} (hk : v.ownBlock = some k) : ∃ cells, w.heap[k]? = some (.cells cells e (0, 0)) := own_typed h k hk

theorem blk_type {w : World} {k : Nat} {c c' : Array Value} {e e' : TypeId} (h : w.heap[k]? = some (.cells c e (0,0))) (h' : w.heap[k]? = some (.cells c' e' (0,0))) : e = e' := by
  rw [h] at h'
  injection h' with h'
  injection h' with _ h'

end Go.Proofs.YtddklkgcodjijaaGreat.Q


/- The contract of slices.Clone at int, in the printed contracts' form. -/
namespace Go.Proofs.YtddklkgcodjijaaGreat.Q
open Go.RowKit Go.Lab Go.Proofs.YtddklkgcodjijaaGreatW.PrintWords Go.Proofs.YtddklkgcodjijaaGreatW.PrintLast Go.Proofs.YtddklkgcodjijaaGreatW.PrintMore

end Go.Proofs.YtddklkgcodjijaaGreat.Q
namespace Go.Proofs.YtddklkgcodjijaaGreat.PL
open Go.RowKit Go.Lab Go.Proofs.YtddklkgcodjijaaGreatW.PrintWords Go.Proofs.YtddklkgcodjijaaGreatW.PrintLast Go.Proofs.YtddklkgcodjijaaGreatW.PrintMore Go.Proofs.YtddklkgcodjijaaGreat.Q
end Go.Proofs.YtddklkgcodjijaaGreat.PL


namespace Go.Proofs.YtddklkgcodjijaaGreat.Q
open Go.RowKit Go.Lab Go.Proofs.YtddklkgcodjijaaGreatW.PrintWords Go.Proofs.YtddklkgcodjijaaGreatW.PrintLast Go.Proofs.YtddklkgcodjijaaGreatW.PrintMore PL

theorem news1 (w : World) (x : Value) (t : TypeId) : ∀ j u, [x][j]? = some u → (w.alloc (.cells #[x] t)).cell? ((⟨w.heap.size, 0, none⟩ : Addr).add j) = some u := by
  intro j u hu
  rw [add_plain, blk_cell (heap_alloc_new w (.cells #[x] t))]
  match j, hu with
  | 0, hu => exact hu
  | j + 1, hu => simp at hu

theorem news1' (w : World) (x : Value) (t : TypeId) (B : Nat) (hB : w.heap.size = B) : ∀ j u, [x][j]? = some u → (w.alloc (.cells #[x] t)).drew.cell? ((⟨B, 0, none⟩ : Addr).add j) = some u := by
  subst hB
  exact news1 w x t

end Go.Proofs.YtddklkgcodjijaaGreat.Q


/- The iterator over nodes in order. -/
namespace Go.Proofs.YtddklkgcodjijaaGreat.R
open Go.RowKit Go.Lab Go.Proofs.YtddklkgcodjijaaGreatW.PrintWords Go.Proofs.YtddklkgcodjijaaGreatW.PrintLast Go.Proofs.YtddklkgcodjijaaGreatW.PrintMore PL

theorem OIt.cells {lo B : Nat} {w : World} {b : Nat} {xs : List Int} {k : Nat} (h : OIt lo B w b xs k) : ∃ A c, w.cell? ⟨b, 0, none⟩ = some (.int .i64 ((k : Int) - 1)) ∧ w.cell? ⟨b, 1, none⟩ = some (.slice A xs.length c) ∧ w.frozen? ⟨b, 0, none⟩ = false ∧
    (∀ i (hi : i < xs.length), ∃ g, A = some ⟨g, 0, none⟩ ∧ w.cell? ⟨g, i, none⟩ = some (nodeV xs[i]) ∧ g < w.heap.size ∧ xs.length ≤ c) := by
  obtain ⟨v, h1, h2, h3⟩ := h.ex
  obtain ⟨A, c, rfl⟩ := own_slice h2
  refine ⟨A, c, by rw [blk_cell h1]; rfl, by rw [blk_cell h1]; rfl, blk_frozen h1 _, fun i hi => ?_⟩
  obtain ⟨g, c', e1, hvb, hgl⟩ := h2.form (by omega)
  injection e1 with e1 _ e3
  subst e1 e3
  refine ⟨g, rfl, ?_, hgl, own_le h2⟩
  have := h2.cells (g := g) rfl i (nodeV xs[i]) (by simp [nodeVs, hi])
  rw [add_plain] at this
  exact this

theorem Mid.drew (lo B : Nat) (w : World) : Mid lo B w w.drew := ⟨rfl, rfl, rfl, Nat.le_refl _, fun _ _ _ => rfl⟩
theorem OIt.drew {lo B : Nat} {w : World} {b : Nat} {xs : List Int} {k : Nat} (h : OIt lo B w b xs k) : OIt lo B w.drew b xs k := h.far fun _ _ _ => rfl

theorem OIt.to' {lo B : Nat} {w : World} {b : Nat} {xs : List Int} {k : Nat} (h : OIt lo B w b xs k) (k' : Nat) (hk : k' ≤ xs.length + 1) (v : Int) (hv : v = (k' : Int) - 1) : OIt lo B (w.setCell ⟨b, 0, none⟩ (.int .i64 v)) b xs k' := by
  subst hv; exact h.to k' hk

set_option maxHeartbeats 4000000 in
set_option maxRecDepth 100000 in
theorem next_any (lo B b k : Nat) (xs : List Int) (w : World) (h : OIt lo B w b xs k) (hl : xs.length ≤ 100000) :
    Calls Tryz.prog 245 #[.pointer (some ⟨b, 0, none⟩)] w fun e w' => e = .returned (.bool (decide (k < xs.length))) ∧ OIt lo B w' b xs (if k < xs.length then k + 1 else xs.length + 1) ∧ Mid lo B w w' := by
  have HO := Aside0.mk h
  obtain ⟨A, c, h0, h1, hf, hx⟩ := h.cells
  have hk := h.hk
  have hb := h.lt
  have hb2 := h.hb
  have hwr : IntKind.u64.wrap (IntKind.u64.wrap ((k : Int) - 1) + 1) = (k : Int) := by
    simp only [IntKind.wrap_u64]; omega
  clear h hx
  by_cases hlt : k < xs.length
  · rw [if_pos hlt]
    have hd : decide (k < xs.length) = true := by simpa using hlt
    have hdd : decide ((k : Int) < (xs.length : Int)) = true := by simpa using hlt
    rw [hd]
    have HE := Aside0.mk (HO.out.to' (k + 1) (by omega) (k : Int) (by omega)).drew
    go_enter Tryz.func245, Tryz.ntmps245
    go_wp2_with fail
    go_region
    all_goals
      go_wp2
      go_ret
      exact ⟨rfl, HE.out, (Mid.set _ _ _ hb2.1 hb2.2).trans (Mid.drew lo B _)⟩
  · rw [if_neg hlt]
    have hd : decide (k < xs.length) = false := by simpa using hlt
    have hdd : decide ((k : Int) < (xs.length : Int)) = false := by simpa using hlt
    rw [hd]
    have HE := Aside0.mk (HO.out.to' (xs.length + 1) (by omega) (xs.length : Int) (by omega)).drew
    go_enter Tryz.func245, Tryz.ntmps245
    go_wp2_with fail
    go_region
    all_goals
      go_wp2
      go_ret
      exact ⟨rfl, HE.out, (Mid.set _ _ _ hb2.1 hb2.2).trans (Mid.drew lo B _)⟩
end Go.Proofs.YtddklkgcodjijaaGreat.R


/- Node, Reset, NewOrderedNodes, and the iterator over all nodes of a plain graph. -/
namespace Go.Proofs.YtddklkgcodjijaaGreat.R
open Go.RowKit Go.Lab Go.Proofs.YtddklkgcodjijaaGreatW.PrintWords Go.Proofs.YtddklkgcodjijaaGreatW.PrintLast Go.Proofs.YtddklkgcodjijaaGreatW.PrintMore PL

set_option maxHeartbeats 4000000 in
set_option maxRecDepth 100000 in
theorem nodeI_any (lo B b k : Nat) (xs : List Int) (w : World) (h : OIt lo B w b xs (k + 1)) (hk : k < xs.length) (hl : xs.length ≤ 100000) :
    Calls Tryz.prog 246 #[.pointer (some ⟨b, 0, none⟩)] w fun e w' => e = .returned (nodeV xs[k]) ∧ Drawn0 w w' := by
  obtain ⟨A, c, h0, h1, hf, hx⟩ := h.cells
  obtain ⟨g, rfl, hg, hgl, hc⟩ := hx k hk
  have hb := h.lt
  rw [show (((k + 1 : Nat) : Int) - 1) = (k : Int) by omega] at h0
  clear h hx
  have hi1 : (0 : Int) ≤ (k : Int) := by omega
  have hi2 : (k : Int) < (xs.length : Int) := by omega
  have hd1 : decide ((xs.length : Int) ≤ (k : Int)) = false := by simp; omega
  have hd2 : decide ((k : Int) < 0) = false := by simp
  generalize xs[k] = x at hg
  go_enter Tryz.func246, Tryz.ntmps246
  go_wp2_with fail
  go_quiet (fail)
  go_wp2_with fail
  go_quiet (fail)
  go_wp2
  go_ret
  exact ⟨rfl, by repeat (first | exact Drawn0.refl _ | apply Drawn0.step)⟩

set_option maxHeartbeats 400000 in
theorem new_any (A : Option Addr) (n c : Nat) (w : World) :
    Calls Tryz.prog 212 #[.slice A n c] w fun e w' => e = .returned (.pointer (some ⟨w.heap.size, 0, none⟩)) ∧ w.alloc (.cells #[.int .i64 (-1), .slice A n c] 278) = w' := by
  go_enter Tryz.func212, Tryz.ntmps212
  go_wp2
  go_ret
  exact ⟨rfl, rfl⟩

/-- a row of nodes with a new iterator -/
theorem OIt.made {w wr : World} {v : Value} {xs : List Int} (ho : wr.ownsRow w.heap.size 88 1 v xs.length (nodeVs xs)) (hw : w.heap.size ≤ wr.heap.size) :
    OIt w.heap.size (wr.heap.size + 1) (wr.alloc (.cells #[.int .i64 (-1), v] 278)) wr.heap.size xs 0 :=
  ⟨⟨v, heap_alloc_new _ _, ho.alloc _, fun q hq => Nat.lt_succ_of_lt (ho.lt q hq).2⟩, ⟨hw, Nat.lt_succ_self _⟩, Nat.zero_le _⟩

theorem PlOk.idsC {w : World} {base bp : Nat} {p : Pl} (h : PlOk w base bp p) : ∃ A c, w.cell? ⟨bp, 0, none⟩ = some (.slice A p.ids.length c) ∧ Kd.C (Kd.int .i64) w A p.ids.length p.ids ∧ bp < w.heap.size := by
  obtain ⟨ro, ri, vi, vo, vn, hp⟩ := h
  obtain ⟨A, c, rfl, hr⟩ := own_reads hp.ids
  exact ⟨A, c, by rw [blk_cell hp.blk]; rfl, Kd.C_of_reads hr, blk_lt hp.blk⟩

theorem make_nodes (n : Nat) (hn : n ≤ 1000) (W : World) : (Instr.makeSlice 60 (.int .i64 0) (.int .i64 (n : Int))).run Tryz.prog W = .ok (.slice (some ⟨W.heap.size, 0, none⟩) 0 n) (W.alloc (.cells (madeCells #[.nilIface] n) 88)) := by
  obtain ⟨i0, hi, hz0, hz1, hz2⟩ := info_parts Tryz.info88
  have := run_make (P := Tryz.prog) W 60 88 i0 .nilIface Tryz.underlying60 hi hz0 .i64 .i64 0 n (by omega) (by omega) (by rw [hz2]; omega) (by omega)
  simpa [hz1, Value.cells] using this

set_option maxHeartbeats 2000000 in
set_option maxRecDepth 100000 in
theorem all_any (base bp : Nat) (p : Pl) (w : World) (h : PlOk w base bp p) (hn : p.ids.length ≤ 1000) :
    Calls Tryz.prog 210 #[.pointer (some ⟨bp, 0, none⟩)] w fun e w' => ∃ b, e = .returned (.iface 275 (.pointer (some ⟨b, 0, none⟩))) ∧ OIt w.heap.size w'.heap.size w' b p.ids 0 ∧ Below w.heap.size w w' := by
  obtain ⟨A, c, hcell, hC, hbl⟩ := h.idsC
  have HC := Aside0.mk hC
  obtain ⟨i0, hi, hz0, hz1, hz2⟩ := info_parts Tryz.info88
  have HI := Aside0.mk (And.intro hi (And.intro hz0 (And.intro hz1 hz2)))
  have hmk := make_nodes p.ids.length hn
  clear h hC hi hz0 hz1 hz2
  generalize p.ids = xs at *
  go_enter Tryz.func210, Tryz.ntmps210
  go_wp2
  go_loopw [3, 17] (fun v i wr => ∃ k : Nat, k ≤ xs.length ∧ i = .int .i64 k ∧ Aside0 (wr.ownsRow w.heap.size 88 1 v k (nodeVs (xs.take k)) ∧ Below w.heap.size w wr)) (fun _ i _ => xs.length - (intOf i).toNat)
  case atStart => exact ⟨0, Nat.zero_le _, rfl, ⟨World.ownsRow_made w _ xs.length (Nat.le_refl _) (by unfold maxLen; omega) (by rw [size_madeCells, Nat.mul_one]), (Below.refl _ _).alloc (Nat.le_refl _) _⟩⟩
  case round =>
    obtain ⟨k, hk, rfl, HR⟩ := hrel
    by_cases hlt : k < xs.length
    · have hbw := HR.out.2.size
      obtain ⟨ad, rfl, hc⟩ := C_int_at (Kd.C_below HC.out HR.out.2) k hlt
      have hts : nodeVs (xs.take (k + 1)) = nodeVs (xs.take k) ++ [nodeV (xs.getD k 0)] := by
        have hge : xs.getD k 0 = xs[k] := by simp [List.getD_eq_getElem?_getD, hlt]
        rw [hge, List.take_succ_eq_append_getElem hlt]; unfold nodeVs; rw [List.map_append]; rfl
      have HTS := Aside0.mk hts
      clear hts
      generalize xs.getD k 0 = x at hc HTS
      go_wp2_with (at_builtin; refine wpList_append_own _ rfl _ _ 60 rfl w.heap.size 88 i0 .nilIface 1 16 Tryz.underlying60 HI.out.1 HI.out.2.1 HI.out.2.2.1 HI.out.2.2.2 rfl (by decide) _ k (nodeVs (xs.take k)) rfl (World.ownsRow.alloc HR.out.1 _) ⟨wr.heap.size, 0, none⟩ 1 1 [nodeV x] rfl rfl (cell_one_new _ _ _) ?q2 ?q3 ?q4 ?q5 ?_)
      case q2 => intro u hu; simp at hu; subst hu; rfl
      case q3 => unfold maxLen; omega
      case q4 => omega
      case q5 => simp; omega
      intro v' w1 hown hgr _
      have HO := Aside0.mk hown
      have HGR := Aside0.mk hgr
      clear hown hgr
      go_wp2
      go_roundw
      case rel => exact ⟨k + 1, by omega, by go_num, ⟨by rw [HTS.out]; exact HO.out, (HR.out.2.alloc hbw _).grown HGR.out (by simp; omega) (fun q hq => own_base HR.out.1 q hq)⟩⟩
      case measure => simp [intOf]; omega
    · have hk' : k = xs.length := by omega
      have hts : xs.take k = xs := by rw [hk', List.take_length]
      have h1 := HR.out
      rw [hts, hk'] at h1
      obtain ⟨V, C, rfl⟩ := own_slice h1.1
      have H1 := Aside0.mk h1
      clear h1 hts HR
      go_wp2_with (go_at_call 212; refine (new_any _ _ _ _).mono ?_; rintro e w1 ⟨rfl, rfl⟩)
      go_ret
      exact ⟨wr.heap.size, rfl, by simpa using OIt.made H1.out.1 H1.out.2.size, H1.out.2.alloc H1.out.2.size _⟩
end Go.Proofs.YtddklkgcodjijaaGreat.R


/- The iterator over the ends of arcs. -/
namespace Go.Proofs.YtddklkgcodjijaaGreat.R
open Go.RowKit Go.Lab Go.Maps Go.Proofs.YtddklkgcodjijaaGreatW.PrintWords Go.Proofs.YtddklkgcodjijaaGreatW.PrintLast Go.Proofs.YtddklkgcodjijaaGreatW.PrintMore PL

def en.T5 : Bool × List (List Nat × List Nat) := (true, [([], []), ([], []), ([1], [1]), ([2], [2]), ([3], [3]), ([], []), ([5], [5]), ([4, 6], [4, 6]), ([7], [7]), ([8], [8]), ([9], [9]), ([0, 10], [0, 10]), ([11, 11, 0, 1, 2, 3, 4, 5, 6, 7, 8, 9, 10, 11], [0, 11])])
def en.B5 : List Nat := [0, 0, 2, 6, 14, 0, 32, 126, 254, 510, 1022, 2047, 4095]
theorem en.tab5 : rtab .any (opsOf Tryz.f208 5) = en.T5 := by kernel_rfl
theorem en.bits5 : waitsOk en.T5.2 en.B5 = true := by kernel_rfl

/-- the nodes at which arcs end -/
def endsN (ids : List Int) (l : List (Int × Nat)) : List Int := l.map fun a => ids.getD a.1.toNat 0
theorem endsN_length (ids : List Int) (l : List (Int × Nat)) : (endsN ids l).length = l.length := by simp [endsN]
theorem endsN_get (ids : List Int) (l : List (Int × Nat)) (k : Nat) (h : k < l.length) : (endsN ids l)[k]'(by rw [endsN_length]; exact h) = ids.getD l[k].1.toNat 0 := by simp [endsN]
theorem nodes_step (r : List Int) (k : Nat) (hk : k < r.length) : nodeVs (r.take (k + 1)) = nodeVs (r.take k) ++ [nodeV r[k]] := by
  rw [List.take_succ_eq_append_getElem hk]; unfold nodeVs; rw [List.map_append]; rfl

set_option maxHeartbeats 8000000 in
set_option maxRecDepth 100000 in
theorem ends_any (base bp bl : Nat) (p : Pl) (v : Value) (l : List (Int × Nat)) (w : World) (h : PlOk w base bp p) (hv : w.ownsRow bl 231 2 v l.length (fl l)) (hn : p.ids.length ≤ 1000) (hl : l.length ≤ 1000) (ha : ∀ a ∈ l, 0 ≤ a.1 ∧ a.1 < p.ids.length) :
    Calls Tryz.prog 208 #[.pointer (some ⟨bp, 0, none⟩), v] w fun e w' => ∃ b, e = .returned (.iface 275 (.pointer (some ⟨b, 0, none⟩))) ∧ OIt w.heap.size w'.heap.size w' b (endsN p.ids l) 0 ∧ Below w.heap.size w w' := by
  obtain ⟨Ai, ci, hcell, hC, hbl⟩ := h.idsC
  have HC := Aside0.mk hC
  have HV := Aside0.mk hv
  have HA := Aside0.mk ha
  obtain ⟨VA, vc, rfl⟩ := own_slice hv
  obtain ⟨i0, hi, hz0, hz1, hz2⟩ := info_parts Tryz.info88
  have HI := Aside0.mk (And.intro hi (And.intro hz0 (And.intro hz1 hz2)))
  have hmk := make_nodes l.length hl
  have hel := endsN_length p.ids l
  clear h hC hv ha hi hz0 hz1 hz2
  generalize p.ids = ids at *
  go_enter Tryz.func208, Tryz.ntmps208
  go_wp2
  go_loopw [5, 13] (fun v i wr => ∃ V C k, v = .slice V k C ∧ k ≤ l.length ∧ i = .int .i64 k ∧ Aside0 (wr.ownsRow w.heap.size 88 1 (.slice V k C) k (nodeVs ((endsN ids l).take k)) ∧ Below w.heap.size w wr)) (fun _ i _ => l.length - (intOf i).toNat)
  case atStart => exact ⟨_, l.length, 0, rfl, Nat.zero_le _, rfl, ⟨World.ownsRow_made w _ l.length (Nat.le_refl _) (by unfold maxLen; omega) (by rw [size_madeCells, Nat.mul_one]), (Below.refl _ _).alloc (Nat.le_refl _) _⟩⟩
  case round =>
    obtain ⟨V, C, k, rfl, hk, rfl, HR⟩ := hrel
    have hbw := HR.out.2.size
    by_cases hlt : k < l.length
    · obtain ⟨g, cap, hve, hgl, hcap, hc0, hc1⟩ := fl_cells HV.out k hlt
      injection hve with e1 _ e3
      subst e1 e3
      have hak := HA.out _ (List.getElem_mem hlt)
      have hn0 : 0 < ids.length := by omega
      have hlt2 : l[k].1.toNat < ids.length := by omega
      obtain ⟨ad, rfl, hcx⟩ := C_int_at (Kd.C_below HC.out HR.out.2) l[k].1.toNat hlt2
      have HS := Aside0.mk (nodes_step (endsN ids l) k (by omega))
      rw [endsN_get ids l k hlt] at HS
      replace hc0 := (HR.out.2.cell (p := ⟨g, k * 2, none⟩) hgl).trans hc0
      replace hc1 := (HR.out.2.cell (p := ⟨g, k * 2 + 1, none⟩) hgl).trans hc1
      have hcb := (HR.out.2.cell (p := ⟨bp, 0, none⟩) hbl).trans hcell
      have hbb : bp < wr.heap.size := by omega
      obtain ⟨q, hq⟩ : ∃ q : Nat, l[k].1 = (q : Int) := ⟨l[k].1.toNat, by omega⟩
      rw [hq] at hlt2 hcx HS hc0
      rw [Int.toNat_natCast] at hlt2 hcx HS
      generalize ids.getD q 0 = x at hcx HS
      generalize l[k].2 = a1 at hc1
      clear hak hq
      have hcb2 : (World.drew (wr.alloc (.cells #[.int .i64 q, .float .f64 a1] 231))).cell? ⟨bp, 0, none⟩ = some (.slice (some ad) ids.length ci) := Lib.cell?_alloc_some _ hcb
      have hca2 : (World.drew (wr.alloc (.cells #[.int .i64 q, .float .f64 a1] 231))).cell? ⟨wr.heap.size, 0, none⟩ = some (.int .i64 q) := (blk_cell (heap_alloc_new _ _) 0).trans rfl
      have hcx2 : (World.drew (wr.alloc (.cells #[.int .i64 q, .float .f64 a1] 231))).cell? (ad.add q) = some (.int .i64 x) := Lib.cell?_alloc_some _ hcx
      have HOW := Aside0.mk (show (World.drew (wr.alloc (.cells #[.int .i64 q, .float .f64 a1] 231))).ownsRow w.heap.size 88 1 (.slice V k C) k (nodeVs ((endsN ids l).take k)) from World.ownsRow.alloc HR.out.1 _)
      have hq0 : (0 : Int) ≤ (q : Int) := by omega
      have hq1 : (q : Int) < (ids.length : Int) := by omega
      go_wp2_with fail
      refine start_ (n := 13) (S := fun w' => w'.cell? ⟨bp, 0, none⟩ = some (.slice (some ad) ids.length ci) ∧ w'.cell? ⟨wr.heap.size, 0, none⟩ = some (.int .i64 q) ∧ w'.cell? (ad.add q) = some (.int .i64 x)) (ds := [10, 11]) #[false, false, false, false, false, false, false, false, false, false, false, false, false] (by kernel_rfl) rfl rfl ⟨hcb2, hca2, hcx2⟩ (fun hHeld => ?_)
      refine with_tabW en.tab5 en.bits5 (fun HT_ HW_ => ?_)
      refine pure_ (i := 0) (N := some 17) (v := ?_) (a' := ?_) #[true, false, false, false, false, false, false, false, false, false, false, false, false] rfl rfl (any_of HT_.out (by kernel_rfl)) (fun _ _ _ h => h) (Or.inl ⟨by rfl, ?_⟩) ?_ ?_
      rotate_left
      · intro w'
        go_simp
        with_reducible rfl
      rotate_left
      · simp only [Act.put, List.setIfInBounds_toArray, List.set_cons_zero, List.set_cons_succ, i64_w, i32_w]
        rfl
      refine pure_ (i := 1) (N := some 18) (v := ?_) (a' := ?_) #[true, true, false, false, false, false, false, false, false, false, false, false, false] rfl rfl (any_of HT_.out (by kernel_rfl)) (fun _ _ _ h => h) (Or.inl ⟨by rfl, ?_⟩) ?_ ?_
      rotate_left
      · intro w'
        go_simp
        with_reducible rfl
      rotate_left
      · simp only [Act.put, List.setIfInBounds_toArray, List.set_cons_zero, List.set_cons_succ, i64_w, i32_w]
        rfl
      refine pure_ (i := 2) (N := some 19) (v := ?_) (a' := ?_) #[true, true, true, false, false, false, false, false, false, false, false, false, false] rfl rfl (any_of HT_.out (by kernel_rfl)) (fun _ _ _ h => h) (Or.inl ⟨by rfl, ?_⟩) ?_ ?_
      rotate_left
      · intro w'
        go_simp
        with_reducible rfl
      rotate_left
      · simp only [Act.put, List.setIfInBounds_toArray, List.set_cons_zero, List.set_cons_succ, i64_w, i32_w]
        rfl
      refine pure_ (i := 3) (N := some 20) (v := ?_) (a' := ?_) #[true, true, true, true, false, false, false, false, false, false, false, false, false] rfl rfl (any_of HT_.out (by kernel_rfl)) (fun _ _ _ h => h) (Or.inl ⟨by rfl, ?_⟩) ?_ ?_
      rotate_left
      · intro w'
        go_simp
        with_reducible rfl
      rotate_left
      · simp only [Act.put, List.setIfInBounds_toArray, List.set_cons_zero, List.set_cons_succ, i64_w, i32_w]
        rfl
      refine pure_ (i := 5) (N := some 22) (v := ?_) (a' := ?_) #[true, true, true, true, false, true, false, false, false, false, false, false, false] rfl rfl (any_of HT_.out (by kernel_rfl)) (fun _ _ _ h => h) (Or.inl ⟨by rfl, ?_⟩) ?_ ?_
      rotate_left
      · intro w'
        go_simp
        with_reducible rfl
      rotate_left
      · simp only [Act.put, List.setIfInBounds_toArray, List.set_cons_zero, List.set_cons_succ, i64_w, i32_w]
        rfl
      refine take_ (i := 4) (N := some 21) (v := ?_) (a' := ?_) #[true, true, true, true, true, true, false, false, false, false, false, false, false] rfl rfl (take_ofW HT_.out HW_.out (by kernel_rfl)) (fun _ _ _ h => h) (Or.inl ⟨by rfl, ?_⟩) hHeld ?_ ?_
      rotate_left
      · rintro w' ⟨s0, s1, s2⟩
        go_simp
        with_reducible rfl
      rotate_left
      · simp only [Act.put, List.setIfInBounds_toArray, List.set_cons_zero, List.set_cons_succ, i64_w, i32_w]
        rfl
      refine take_ (i := 6) (N := some 23) (v := ?_) (a' := ?_) #[true, true, true, true, true, true, true, false, false, false, false, false, false] rfl rfl (take_ofW HT_.out HW_.out (by kernel_rfl)) (fun _ _ _ h => h) (Or.inl ⟨by rfl, ?_⟩) hHeld ?_ ?_
      rotate_left
      · rintro w' ⟨s0, s1, s2⟩
        go_simp
        with_reducible rfl
      rotate_left
      · simp only [Act.put, List.setIfInBounds_toArray, List.set_cons_zero, List.set_cons_succ, i64_w, i32_w]
        rfl
      refine pure_ (i := 7) (N := some 24) (v := ?_) (a' := ?_) #[true, true, true, true, true, true, true, true, false, false, false, false, false] rfl rfl (any_of HT_.out (by kernel_rfl)) (fun _ _ _ h => h) (Or.inl ⟨by rfl, ?_⟩) ?_ ?_
      rotate_left
      · intro w'
        go_simp
        with_reducible rfl
      rotate_left
      · simp only [Act.put, List.setIfInBounds_toArray, List.set_cons_zero, List.set_cons_succ, i64_w, i32_w]
        rfl
      refine take_ (i := 8) (N := some 25) (v := ?_) (a' := ?_) #[true, true, true, true, true, true, true, true, true, false, false, false, false] rfl rfl (take_ofW HT_.out HW_.out (by kernel_rfl)) (fun _ _ _ h => h) (Or.inl ⟨by rfl, ?_⟩) hHeld ?_ ?_
      rotate_left
      · rintro w' ⟨s0, s1, s2⟩
        go_simp
        with_reducible rfl
      rotate_left
      · simp only [Act.put, List.setIfInBounds_toArray, List.set_cons_zero, List.set_cons_succ, i64_w, i32_w]
        rfl
      refine pure_ (i := 9) (N := some 26) (v := ?_) (a' := ?_) #[true, true, true, true, true, true, true, true, true, true, false, false, false] rfl rfl (any_of HT_.out (by kernel_rfl)) (fun _ _ _ h => h) (Or.inl ⟨by rfl, ?_⟩) ?_ ?_
      rotate_left
      · intro w'
        go_simp
        with_reducible rfl
      rotate_left
      · simp only [Act.put, List.setIfInBounds_toArray, List.set_cons_zero, List.set_cons_succ, i64_w, i32_w]
        rfl
      refine last_ (i := 10) (N := some 27) #[true, true, true, true, true, true, true, true, true, true, true, false, false] rfl rfl (one_of HT_.out (by kernel_rfl)) (by decide) (fun K hK => ?_)
      refine value_ (w1 := ?_) (v := ?_) (by rfl) rfl ?_ ?_
      rotate_left 2
      · go_simp
        constructor
        · rfl
        · rfl
      refine hK.out _ _ ?_
      clear hK K
      refine norm_ (a' := ?_) ?_ ?_
      rotate_left
      · show Act.put _ (some 27) _ = _
        simp only [Act.put, List.setIfInBounds_toArray, List.set_cons_zero, List.set_cons_succ, i64_w, i32_w]
        rfl
      refine last_ (i := 11) (N := some 28) #[true, true, true, true, true, true, true, true, true, true, true, true, false] rfl rfl (one_of HT_.out (by kernel_rfl)) (by decide) (fun K hK => ?_)
      refine step_append_lies _ (by rfl) _ _ _ (by rfl) w.heap.size 88 i0 _ 1 16 Tryz.underlying60 HI.out.1 HI.out.2.1 HI.out.2.2.1 HI.out.2.2.2 rfl (by omega) (.slice V k C) k (nodeVs ((endsN ids l).take k)) (by rfl) (by exact World.ownsRow.alloc HOW.out _) ⟨wr.heap.size + 1, 0, none⟩ 1 1 [nodeV x] (by rfl) (by rfl) (by exact Q.news1' _ _ _ _ (by simp)) (by simp [Value.oneCell', nodeV]) (by omega) (by unfold maxLen; omega) (by omega) (by simp; omega) _ rfl ?_
      intro gg cap w4 hown4 hgr4 hat4 hlt4
      have G4 := Aside0.mk (And.intro hown4 hgr4)
      clear hown4 hgr4 hat4 hlt4
      refine hK.out _ _ ?_
      clear hK K
      refine norm_ (a' := ?_) ?_ ?_
      rotate_left
      · show Act.put _ (some 28) _ = _
        simp only [Act.put, List.setIfInBounds_toArray, List.set_cons_zero, List.set_cons_succ, i64_w, i32_w]
        rfl
      refine pure_ (i := 12) (N := some 5) (v := ?_) (a' := ?_) #[true, true, true, true, true, true, true, true, true, true, true, true, true] rfl rfl (any_of HT_.out (by kernel_rfl)) (fun _ _ _ h => h) (Or.inl ⟨by rfl, ?_⟩) ?_ ?_
      rotate_left
      · intro w'
        go_simp
        with_reducible rfl
      rotate_left
      · simp only [Act.put, List.setIfInBounds_toArray, List.set_cons_zero, List.set_cons_succ, i64_w, i32_w]
        rfl
      refine done_ (done_of HT_.out (by kernel_rfl)) ?_
      go_wp2
      go_roundw
      case rel => exact ⟨_, cap, k + 1, rfl, by omega, by go_num, ⟨by rw [HS.out]; exact G4.out.1, ((HR.out.2.alloc hbw _).drew.alloc (by simp; omega) _).grown G4.out.2 (by simp; omega) (fun q hq => own_base HR.out.1 q hq)⟩⟩
      case measure => simp [intOf]; omega
    · obtain rfl : k = l.length := by omega
      have h1 := HR.out
      rw [← hel, List.take_length] at h1
      have H1 := Aside0.mk h1
      clear h1 HR
      go_wp2_with (go_at_call 212; refine (new_any _ _ _ _).mono ?_; rintro e w1 ⟨rfl, rfl⟩)
      go_ret
      have hmd := OIt.made H1.out.1 H1.out.2.size
      rw [hel] at hmd
      exact ⟨wr.heap.size, rfl, by simpa using hmd, H1.out.2.alloc H1.out.2.size _⟩
end Go.Proofs.YtddklkgcodjijaaGreat.R


/- The iterator over the nodes of two iterators, each once. -/
namespace Go.Proofs.YtddklkgcodjijaaGreat.R
open Go.RowKit Go.Lab Go.Maps Go.Proofs.YtddklkgcodjijaaGreatW.PrintWords Go.Proofs.YtddklkgcodjijaaGreatW.PrintLast Go.Proofs.YtddklkgcodjijaaGreatW.PrintMore PL

section
variable {lo : Nat} {w w1 : World} {b : Nat} {xs ys : List Int} {i j : Nat} {cur : Value} {la Ba ba lb Bb bb mb n : Nat} {c1 c2 : Int} {D : DataW Unit}

end
end Go.Proofs.YtddklkgcodjijaaGreat.R



/- What a plain graph of directed edges holds, in the words of its list of edges. -/
namespace Go.Proofs.YtddklkgcodjijaaGreat.R
open Go.RowKit Go.Lab Go.Proofs.YtddklkgcodjijaaGreatW.PrintWords Go.Proofs.YtddklkgcodjijaaGreatW.PrintLast Go.Proofs.YtddklkgcodjijaaGreatW.PrintMore PL

/-- the weight of the last edge from u to v -/
def arcW (es : List S95) (u v : Int) : Option Int := es.foldl (fun o e => if e.f0 = u ∧ e.f1 = v then some e.f2 else o) none

theorem arcW_snoc (es : List S95) (e : S95) (u v : Int) : arcW (es ++ [e]) u v = if e.f0 = u ∧ e.f1 = v then some e.f2 else arcW es u v := by
  unfold arcW; rw [List.foldl_append]; rfl

theorem keys_get (l : List (Int × Nat)) (i : Nat) (h : i < (keys l).length) : (keys l)[i] = (l[i]'(by simpa [keys] using h)).1 := by simp [keys]

theorem mem_setA {l : List (Int × Nat)} (hs : (keys l).Pairwise (· < ·)) (k : Int) (x : Nat) (a : Int × Nat) : a ∈ setA l k x ↔ a = (k, x) ∨ (a ∈ l ∧ a.1 ≠ k) := by
  unfold setA
  by_cases hm : k ∈ keys l
  · rw [if_pos hm]
    obtain ⟨hr, he⟩ := (rank_mem hs k).1 hm
    have hr' : rank (keys l) k < l.length := by rw [keys_length] at hr; exact hr
    constructor
    · intro h
      obtain ⟨j, hj, rfl⟩ := List.getElem_of_mem h
      rw [List.length_set] at hj
      rw [List.getElem_set]
      split
      · exact .inl rfl
      · rename_i hne
        refine .inr ⟨List.getElem_mem _, fun hk => hne ?_⟩
        have h1 : (keys l)[j]'(by rw [keys_length]; exact hj) = k := by rw [keys_get]; exact hk
        rcases Nat.lt_trichotomy (rank (keys l) k) j with h2 | h2 | h2
        · have := List.pairwise_iff_getElem.1 hs _ _ hr (by rw [keys_length]; exact hj) h2; omega
        · exact h2
        · have := List.pairwise_iff_getElem.1 hs _ _ (by rw [keys_length]; exact hj) hr h2; omega
    · rintro (rfl | ⟨h1, h2⟩)
      · exact List.mem_iff_getElem.2 ⟨rank (keys l) k, by rw [List.length_set]; exact hr', by simp⟩
      · obtain ⟨j, hj, rfl⟩ := List.getElem_of_mem h1
        refine List.mem_iff_getElem.2 ⟨j, by rw [List.length_set]; exact hj, ?_⟩
        rw [List.getElem_set, if_neg]
        rintro rfl
        rw [keys_get] at he
        exact h2 he
  · rw [if_neg hm]
    unfold insAt
    have hne : ∀ a ∈ l, a.1 ≠ k := fun a ha h => hm (List.mem_map.2 ⟨a, ha, h⟩)
    have hl : a ∈ l ↔ a ∈ l.take (rank (keys l) k) ∨ a ∈ l.drop (rank (keys l) k) := by
      rw [← List.mem_append, List.take_append_drop]
    rw [List.mem_append, List.mem_cons]
    constructor
    · rintro (h | h | h)
      · exact .inr ⟨hl.2 (.inl h), hne _ (hl.2 (.inl h))⟩
      · exact .inl h
      · exact .inr ⟨hl.2 (.inr h), hne _ (hl.2 (.inr h))⟩
    · rintro (h | ⟨h, _⟩)
      · exact .inr (.inl h)
      · rcases hl.1 h with h | h
        · exact .inl h
        · exact .inr (.inr h)

/-- what the rows of a plain graph are for a list of edges -/
structure Adj (zs : List Int) (es : List S95) (p : Pl) : Prop where
  ids : p.ids = srt zs
  lo : p.out.length = (srt zs).length
  li : p.inn.length = (srt zs).length
  out : ∀ i, i < (srt zs).length → ∀ a, a ∈ p.out.getD i [] ↔ ∃ k n, k < (srt zs).length ∧ a = ((k : Int), floatOfInt .f64 n) ∧ arcW es ((srt zs).getD i 0) ((srt zs).getD k 0) = some n
  inn : ∀ i, i < (srt zs).length → ∀ a, a ∈ p.inn.getD i [] ↔ ∃ k n, k < (srt zs).length ∧ a = ((k : Int), floatOfInt .f64 n) ∧ arcW es ((srt zs).getD k 0) ((srt zs).getD i 0) = some n

theorem getD_srt_inj {ids : List Int} (h : ids.Pairwise (· < ·)) {i j : Nat} (hi : i < ids.length) (hj : j < ids.length) (he : ids.getD i 0 = ids.getD j 0) : i = j := by
  simp only [List.getD_eq_getElem?_getD, List.getElem?_eq_getElem hi, List.getElem?_eq_getElem hj, Option.getD_some] at he
  rcases Nat.lt_trichotomy i j with h1 | h1 | h1
  · have := List.pairwise_iff_getElem.1 h _ _ hi hj h1; omega
  · exact h1
  · have := List.pairwise_iff_getElem.1 h _ _ hj hi h1; omega

theorem rank_at {ids : List Int} (h : ids.Pairwise (· < ·)) {t : Int} (ht : t ∈ ids) : rank ids t < ids.length ∧ ids.getD (rank ids t) 0 = t := by
  obtain ⟨hr, he⟩ := (rank_mem h t).1 ht
  exact ⟨hr, by simp [List.getD_eq_getElem?_getD, List.getElem?_eq_getElem hr, he]⟩

theorem getD_set_self {α : Type} (L : List α) (i : Nat) (x d : α) (h : i < L.length) : (L.set i x).getD i d = x := by
  simp [List.getD_eq_getElem?_getD, h]
theorem getD_set_other {α : Type} (L : List α) (i j : Nat) (x d : α) (h : i ≠ j) : (L.set i x).getD j d = L.getD j d := by
  simp [List.getD_eq_getElem?_getD, h]

theorem Adj.step {zs : List Int} {es : List S95} {p : Pl} (h : Adj zs es p) (hg : p.Good) (hs : (srt zs).Pairwise (· < ·)) (e : S95) (h0 : e.f0 ∈ srt zs) (h1 : e.f1 ∈ srt zs) : Adj zs (es ++ [e]) (layE true p e) := by
  obtain ⟨a0, b0⟩ := rank_at hs h0
  obtain ⟨a1, b1⟩ := rank_at hs h1
  have hl : layE true p e = (p.outs (rank (srt zs) e.f0) (rank (srt zs) e.f1) (floatOfInt .f64 e.f2)).inns (rank (srt zs) e.f1) (rank (srt zs) e.f0) (floatOfInt .f64 e.f2) := by
    unfold layE Pl.lay; rw [h.ids]; rfl
  rw [hl]
  refine ⟨h.ids, ?_, ?_, ?_, ?_⟩
  · show (p.out.set _ _).length = _; rw [List.length_set]; exact h.lo
  · show (p.inn.set _ _).length = _; rw [List.length_set]; exact h.li
  · intro i hi a
    show a ∈ (p.out.set (rank (srt zs) e.f0) (setA (p.out.getD (rank (srt zs) e.f0) []) (rank (srt zs) e.f1 : Nat) (floatOfInt .f64 e.f2))).getD i [] ↔ _
    by_cases hr : rank (srt zs) e.f0 = i
    · subst hr
      rw [getD_set_self _ _ _ _ (by rw [h.lo]; exact a0), mem_setA (hg.out _).1, b0, h.out _ a0, b0]
      constructor
      · rintro (rfl | ⟨⟨k, n, hk, rfl, hn⟩, hne⟩)
        · exact ⟨_, e.f2, a1, rfl, by rw [arcW_snoc, b1, if_pos ⟨rfl, rfl⟩]⟩
        · refine ⟨k, n, hk, rfl, ?_⟩
          rw [arcW_snoc, if_neg]
          · exact hn
          · rintro ⟨_, hh⟩
            have := getD_srt_inj hs a1 hk (by rw [b1, hh])
            subst this
            exact hne rfl
      · rintro ⟨k, n, hk, rfl, hn⟩
        rw [arcW_snoc] at hn
        by_cases hkk : k = rank (srt zs) e.f1
        · subst hkk
          rw [b1, if_pos ⟨rfl, rfl⟩] at hn
          injection hn with hn
          subst hn
          exact .inl rfl
        · rw [if_neg] at hn
          · refine .inr ⟨⟨k, n, hk, rfl, hn⟩, ?_⟩
            show ¬ (k : Int) = _
            omega
          · rintro ⟨_, hh⟩
            exact hkk (getD_srt_inj hs hk a1 (by rw [b1, hh]))
    · rw [getD_set_other _ _ _ _ _ hr, h.out i hi]
      have hne : ∀ k, arcW (es ++ [e]) ((srt zs).getD i 0) ((srt zs).getD k 0) = arcW es ((srt zs).getD i 0) ((srt zs).getD k 0) := by
        intro k
        rw [arcW_snoc, if_neg]
        rintro ⟨hh, _⟩
        exact hr (getD_srt_inj hs a0 hi (by rw [b0, hh]))
      simp only [hne]
  · intro i hi a
    show a ∈ (p.inn.set (rank (srt zs) e.f1) (setA (p.inn.getD (rank (srt zs) e.f1) []) (rank (srt zs) e.f0 : Nat) (floatOfInt .f64 e.f2))).getD i [] ↔ _
    by_cases hr : rank (srt zs) e.f1 = i
    · subst hr
      rw [getD_set_self _ _ _ _ (by rw [h.li]; exact a1), mem_setA (hg.inn _).1, b1, h.inn _ a1, b1]
      constructor
      · rintro (rfl | ⟨⟨k, n, hk, rfl, hn⟩, hne⟩)
        · exact ⟨_, e.f2, a0, rfl, by rw [arcW_snoc, b0, if_pos ⟨rfl, rfl⟩]⟩
        · refine ⟨k, n, hk, rfl, ?_⟩
          rw [arcW_snoc, if_neg]
          · exact hn
          · rintro ⟨hh, _⟩
            have := getD_srt_inj hs a0 hk (by rw [b0, hh])
            subst this
            exact hne rfl
      · rintro ⟨k, n, hk, rfl, hn⟩
        rw [arcW_snoc] at hn
        by_cases hkk : k = rank (srt zs) e.f0
        · subst hkk
          rw [b0, if_pos ⟨rfl, rfl⟩] at hn
          injection hn with hn
          subst hn
          exact .inl rfl
        · rw [if_neg] at hn
          · refine .inr ⟨⟨k, n, hk, rfl, hn⟩, ?_⟩
            show ¬ (k : Int) = _
            omega
          · rintro ⟨hh, _⟩
            exact hkk (getD_srt_inj hs hk a0 (by rw [b0, hh]))
    · rw [getD_set_other _ _ _ _ _ hr, h.inn i hi]
      have hne : ∀ k, arcW (es ++ [e]) ((srt zs).getD k 0) ((srt zs).getD i 0) = arcW es ((srt zs).getD k 0) ((srt zs).getD i 0) := by
        intro k
        rw [arcW_snoc, if_neg]
        rintro ⟨_, hh⟩
        exact hr (getD_srt_inj hs a1 hi (by rw [b1, hh]))
      simp only [hne]

/-- the nodes to which edges lead from u -/
def outN (zs : List Int) (es : List S95) (u : Int) : List Int := (srt zs).filter fun v => (arcW es u v).isSome
/-- the nodes from which edges lead to u -/
def innN (zs : List Int) (es : List S95) (u : Int) : List Int := (srt zs).filter fun v => (arcW es v u).isSome

theorem int_ext {l1 l2 : List Int} (h1 : l1.Pairwise (· < ·)) (h2 : l2.Pairwise (· < ·)) (hm : ∀ x, x ∈ l1 ↔ x ∈ l2) : l1 = l2 := by
  induction l1 generalizing l2 with
  | nil =>
    cases l2 with
    | nil => rfl
    | cons y r => exact absurd ((hm y).2 (by simp)) (by simp)
  | cons x r ih =>
    cases l2 with
    | nil => exact absurd ((hm x).1 (by simp)) (by simp)
    | cons y s =>
      rw [List.pairwise_cons] at h1 h2
      have e : x = y := by
        have a := (hm x).1 (by simp)
        have b := (hm y).2 (by simp)
        rw [List.mem_cons] at a b
        rcases a with a | a
        · exact a
        · rcases b with b | b
          · exact b.symm
          · have := h2.1 _ a; have := h1.1 _ b; omega
      subst e
      rw [ih h1.2 h2.2]
      intro z
      constructor
      · intro hz
        have := (hm z).1 (by simp [hz])
        rw [List.mem_cons] at this
        rcases this with rfl | h
        · exact absurd (h1.1 _ hz) (by omega)
        · exact h
      · intro hz
        have := (hm z).2 (by simp [hz])
        rw [List.mem_cons] at this
        rcases this with rfl | h
        · exact absurd (h2.1 _ hz) (by omega)
        · exact h

theorem ends_eq {ids : List Int} (hs : ids.Pairwise (· < ·)) {l : List (Int × Nat)} (hl : GoodRow ids.length l) {f : Int → Option Int}
    (hm : ∀ a, a ∈ l ↔ ∃ k n, k < ids.length ∧ a = ((k : Int), floatOfInt .f64 n) ∧ f (ids.getD k 0) = some n) : l.map (fun a => ids.getD a.1.toNat 0) = ids.filter fun v => (f v).isSome := by
  refine int_ext ?_ (hs.filter _) fun v => ?_
  · rw [List.pairwise_map]
    have h1 : l.Pairwise fun a b => a.1 < b.1 := by
      have := hl.1
      unfold keys at this
      rw [List.pairwise_map] at this
      exact this
    refine h1.imp_of_mem ?_
    intro a b ha hb hab
    obtain ⟨ka, _, hka, rfl, _⟩ := (hm a).1 ha
    obtain ⟨kb, _, hkb, rfl, _⟩ := (hm b).1 hb
    have hab : (ka : Int) < (kb : Int) := hab
    show ids.getD ((ka : Int)).toNat 0 < ids.getD ((kb : Int)).toNat 0
    simp only [Int.toNat_natCast, List.getD_eq_getElem?_getD, List.getElem?_eq_getElem hka, List.getElem?_eq_getElem hkb, Option.getD_some]
    exact List.pairwise_iff_getElem.1 hs _ _ hka hkb (by omega)
  · rw [List.mem_map, List.mem_filter]
    constructor
    · rintro ⟨a, ha, rfl⟩
      obtain ⟨k, n, hk, rfl, hn⟩ := (hm a).1 ha
      show ids.getD ((k : Int)).toNat 0 ∈ ids ∧ _
      rw [Int.toNat_natCast]
      refine ⟨?_, by rw [hn]; rfl⟩
      simp only [List.getD_eq_getElem?_getD, List.getElem?_eq_getElem hk, Option.getD_some]
      exact List.getElem_mem _
    · rintro ⟨h1, h2⟩
      obtain ⟨n, hn⟩ := Option.isSome_iff_exists.1 h2
      obtain ⟨a, b⟩ := rank_at hs h1
      exact ⟨((rank ids v : Nat), floatOfInt .f64 n), (hm _).2 ⟨_, n, a, rfl, by rw [b]; exact hn⟩, by show ids.getD ((rank ids v : Nat) : Int).toNat 0 = v; rw [Int.toNat_natCast, b]⟩

theorem Adj.outN {zs : List Int} {es : List S95} {p : Pl} (h : Adj zs es p) (hg : p.Good) (hs : (srt zs).Pairwise (· < ·)) {u : Int} (hu : u ∈ srt zs) :
    (p.out.getD (rank p.ids u) []).map (fun a => p.ids.getD a.1.toNat 0) = outN zs es u := by
  obtain ⟨a, b⟩ := rank_at hs hu
  have hrow := hg.out (rank p.ids u)
  rw [h.ids] at hrow ⊢
  exact ends_eq hs hrow (f := fun v => arcW es u v) fun c => by rw [h.out _ a, b]

theorem Adj.innN {zs : List Int} {es : List S95} {p : Pl} (h : Adj zs es p) (hg : p.Good) (hs : (srt zs).Pairwise (· < ·)) {u : Int} (hu : u ∈ srt zs) :
    (p.inn.getD (rank p.ids u) []).map (fun a => p.ids.getD a.1.toNat 0) = innN zs es u := by
  obtain ⟨a, b⟩ := rank_at hs hu
  have hrow := hg.inn (rank p.ids u)
  rw [h.ids] at hrow ⊢
  exact ends_eq hs hrow (f := fun v => arcW es v u) fun c => by rw [h.inn _ a, b]

theorem Adj.find {zs : List Int} {es : List S95} {p : Pl} (h : Adj zs es p) (hg : p.Good) (hs : (srt zs).Pairwise (· < ·)) {u v : Int} (hu : u ∈ srt zs) (hv : v ∈ srt zs) :
    p.find u v = (arcW es u v).map fun n => (((rank (srt zs) v : Nat) : Int), floatOfInt .f64 n) := by
  obtain ⟨a, b⟩ := rank_at hs hu
  obtain ⟨a', b'⟩ := rank_at hs hv
  have hrow := hg.out (rank p.ids u)
  have hm := h.out _ a
  unfold Pl.find Pl.row
  rw [h.ids] at hrow ⊢
  cases hn : arcW es u v with
  | none =>
    rw [if_neg]
    · rfl
    · rintro ⟨_, _, hk⟩
      obtain ⟨x, hx, hx2⟩ := List.mem_map.1 hk
      obtain ⟨k, n, hk1, rfl, hk2⟩ := (hm x).1 hx
      have : k = rank (srt zs) v := by have h9 : (k : Int) = ((rank (srt zs) v : Nat) : Int) := hx2; omega
      subst this
      rw [b, b', hn] at hk2
      cases hk2
  | some n =>
    have hmem : (((rank (srt zs) v : Nat) : Int), floatOfInt .f64 n) ∈ p.out.getD (rank (srt zs) u) [] := (hm _).2 ⟨_, n, a', rfl, by rw [b, b']; exact hn⟩
    have hk : ((rank (srt zs) v : Nat) : Int) ∈ keys (p.out.getD (rank (srt zs) u) []) := List.mem_map.2 ⟨_, hmem, rfl⟩
    rw [if_pos ⟨hu, hv, hk⟩]
    obtain ⟨hr, he⟩ := (rank_mem hrow.1 _).1 hk
    rw [keys_get] at he
    have hr' : rank (keys (p.out.getD (rank (srt zs) u) [])) ((rank (srt zs) v : Nat) : Int) < (p.out.getD (rank (srt zs) u) []).length := by rw [keys_length] at hr; exact hr
    rw [List.getElem?_eq_getElem hr']
    show _ = some _
    congr 1
    obtain ⟨k, n', hk1, e1, hk2⟩ := (hm _).1 (List.getElem_mem hr')
    rw [e1] at he ⊢
    have : k = rank (srt zs) v := by have h9 : (k : Int) = ((rank (srt zs) v : Nat) : Int) := he; omega
    subst this
    rw [b, b', hn] at hk2
    injection hk2 with hk2
    rw [hk2]
end Go.Proofs.YtddklkgcodjijaaGreat.R


/- The graph without directions, in the words of the list of edges. -/
namespace Go.Proofs.YtddklkgcodjijaaGreat.R
open Go.RowKit Go.Lab Go.Proofs.YtddklkgcodjijaaGreatW.PrintWords Go.Proofs.YtddklkgcodjijaaGreatW.PrintLast Go.Proofs.YtddklkgcodjijaaGreatW.PrintMore PL

/-- two lists in one: what the second one has more -/
def both (xs ys : List Int) : List Int := xs ++ ys.filter fun v => !decide (v ∈ xs)
end Go.Proofs.YtddklkgcodjijaaGreat.R


/- The methods of the iterator of two iterators. -/
namespace Go.Proofs.YtddklkgcodjijaaGreat.R
open Go.RowKit Go.Lab Go.Maps Go.Proofs.YtddklkgcodjijaaGreatW.PrintWords Go.Proofs.YtddklkgcodjijaaGreatW.PrintLast Go.Proofs.YtddklkgcodjijaaGreatW.PrintMore PL

theorem meth_ONext (a : Addr) (w : World) : (method 396 275 (.pointer (some a)) "Next").run Tryz.prog w = .ok (245, .pointer (some a)) w := by kernel_rfl
theorem meth_ONode (a : Addr) (w : World) : (method 396 275 (.pointer (some a)) "Node").run Tryz.prog w = .ok (246, .pointer (some a)) w := by kernel_rfl
theorem meth_ID (x : Int) (w : World) : (method 396 272 (.int .i64 x) "ID").run Tryz.prog w = .ok (239, .int .i64 x) w := by kernel_rfl

set_option maxHeartbeats 400000 in
theorem nodeID_any (n : Int) (w : World) :
    Calls Tryz.prog 239 #[.int .i64 n] w fun e w' => e = .returned (.int .i64 n) ∧ w = w' := by
  go_enter Tryz.func239, Tryz.ntmps239
  go_wp2
  go_ret
  exact ⟨rfl, rfl⟩

/-- where an iterator stands -/
def posI (w : World) (b : Nat) : Nat := match w.cell? ⟨b, 0, none⟩ with | some (.int _ n) => (n + 1).toNat | _ => 0
theorem OIt.pos {lo B : Nat} {w : World} {b : Nat} {xs : List Int} {k : Nat} (h : OIt lo B w b xs k) : posI w b = k := by
  obtain ⟨A, c, h0, _⟩ := h.cells
  unfold posI
  rw [h0]
  show ((k : Int) - 1 + 1).toNat = k
  omega

/-- what is left of two iterators -/
def rest (xs ys : List Int) (i j : Nat) : List Int := xs.drop i ++ (ys.drop j).filter fun v => !decide (v ∈ xs)
theorem Mid.drewN (lo B : Nat) (w : World) (n : Nat) : Mid lo B w (w.drewN n) := Mid.of_below (Drawn0.below ⟨⟨n, rfl⟩⟩)

theorem nodeI_q (lo B b k : Nat) (xs : List Int) (w : World) (h : OIt lo B w b xs (k + 1)) (hk : k < xs.length) (hl : xs.length ≤ 100000) :
    Calls Tryz.prog 246 #[.pointer (some ⟨b, 0, none⟩)] w fun e w' => e = .returned (.iface 272 (.int .i64 xs[k])) ∧ ∃ n, w' = w.drewN n :=
  (nodeI_any lo B b k xs w h hk hl).mono fun _ _ ⟨h1, h2⟩ => ⟨h1, h2.out⟩
end Go.Proofs.YtddklkgcodjijaaGreat.R



/- newNodeIteratorPair. -/
namespace Go.Proofs.YtddklkgcodjijaaGreat.R
open Go.RowKit Go.Lab Go.Maps Go.Proofs.YtddklkgcodjijaaGreatW.PrintWords Go.Proofs.YtddklkgcodjijaaGreatW.PrintLast Go.Proofs.YtddklkgcodjijaaGreatW.PrintMore PL

theorem Below.set (lo : Nat) (w : World) (a : Addr) {v : Value} (h : lo ≤ a.block) : Below lo w (w.setCell a v) :=
  ⟨rfl, rfl, rfl, by simp [World.setCell], fun k hk => Below.heap_setCell _ _ _ _ (by omega)⟩
end Go.Proofs.YtddklkgcodjijaaGreat.R



/- From, To, Nodes of a directed plain graph, and of one without directions. -/
namespace Go.Proofs.YtddklkgcodjijaaGreat.R
open Go.RowKit Go.Lab Go.Maps Go.Proofs.YtddklkgcodjijaaGreatW.PrintWords Go.Proofs.YtddklkgcodjijaaGreatW.PrintLast Go.Proofs.YtddklkgcodjijaaGreatW.PrintMore PL

set_option maxHeartbeats 4000000 in
set_option maxRecDepth 100000 in
theorem from_any (base bp : Nat) (p : Pl) (u : Int) (w : World) (h : PlOk w base bp p) (hs : p.ids.Pairwise (· < ·)) (hg : p.Good) (hu : u ∈ p.ids) :
    Calls Tryz.prog 203 #[.agg #[.pointer (some ⟨bp, 0, none⟩)], .int .i64 u] w fun e w' => ∃ b, e = .returned (.iface 275 (.pointer (some ⟨b, 0, none⟩))) ∧ OIt w.heap.size w'.heap.size w' b (endsN p.ids (p.out.getD (rank p.ids u) [])) 0 ∧ Below w.heap.size w w' := by
  have hb1 : Below w.heap.size w (w.alloc (.cells #[.pointer (some ⟨bp, 0, none⟩)] 57)) := (Below.refl _ _).alloc (Nat.le_refl _) _
  have hP1 : PlOk (w.alloc (.cells #[.pointer (some ⟨bp, 0, none⟩)] 57)) base bp p := h.below hb1
  have hd : decide (u ∈ p.ids) = true := decide_eq_true hu
  obtain ⟨hr, _⟩ := (rank_mem hs u).1 hu
  obtain ⟨ro, ri, vi, vn, g, cap, hi', hp, hcb, hce, hfr, hbw, hgw, hbg, hrl⟩ := hP1.open_out (rank p.ids u) hr
  have hn := hg.n
  have HP := Aside0.mk hP1
  have HP2 := Aside0.mk (show PlOk (World.drew (w.alloc (.cells #[.pointer (some ⟨bp, 0, none⟩)] 57))) base bp p from hP1.below ((Below.refl _ _).drew))
  have HROW := Aside0.mk (show (World.drew (w.alloc (.cells #[.pointer (some ⟨bp, 0, none⟩)] 57))).ownsRow base 231 2 ro[rank p.ids u] (p.out.getD (rank p.ids u) []).length (fl (p.out.getD (rank p.ids u) [])) from hp.rows.rowA _ hi')
  obtain ⟨VA, vc, hve⟩ := own_slice HROW.out
  rw [hve] at HROW hce
  have HS := Aside0.mk hs
  have HG := Aside0.mk (hg.out (rank p.ids u))
  have hc1 : (w.alloc (.cells #[.pointer (some ⟨bp, 0, none⟩)] 57)).cell? ⟨w.heap.size, 0, none⟩ = some (.pointer (some ⟨bp, 0, none⟩)) := (blk_cell (heap_alloc_new _ _) 0).trans rfl
  have hx1 : (0 : Int) ≤ ((rank p.ids u : Nat) : Int) := by omega
  have hx2 : ((rank p.ids u : Nat) : Int) < (ro.length : Int) := by omega
  clear h hs hg hu hP1 hp hve
  go_enter Tryz.func203, Tryz.ntmps203
  go_wp2_with (go_at_call 42; refine (pl_index base bp p _ _ HP.out HS.out hn).mono ?_; rintro e w1 ⟨rfl, rfl⟩; rw [hd])
  go_region_held3 (fun w' => w'.cell? ⟨w.heap.size, 0, none⟩ = some (.pointer (some ⟨bp, 0, none⟩)) ∧ w'.cell? ⟨bp, 1, none⟩ = some (.slice (some ⟨g, 0, none⟩) ro.length cap) ∧ w'.cell? ⟨g, rank p.ids u, none⟩ = some (.slice VA (p.out.getD (rank p.ids u) []).length vc))
    (first | (exact ⟨(hbel.cell (p := ⟨w.heap.size, 0, none⟩) (by simp)).trans hc1, (hbel.cell (p := ⟨bp, 1, none⟩) hbw).trans hcb, (hbel.cell (p := ⟨g, rank p.ids u, none⟩) hgw).trans hce⟩) | go_keep)
    (first
      | (go_at_call 208; refine (ends_any base bp base p _ (p.out.getD (rank p.ids u) []) _ HP2.out HROW.out hn (Nat.le_trans HG.out.len hn) HG.out.2).mono ?_; rintro e w2 ⟨b, rfl, hit, hbel⟩; have HIT := Aside0.mk hit; have HBEL := Aside0.mk hbel; clear hit))
  all_goals
    go_wp2
    go_ret
    have hz : w.heap.size ≤ (World.drew (w.alloc (.cells #[.pointer (some ⟨bp, 0, none⟩)] 57))).heap.size := by simp
    exact ⟨b, rfl, HIT.out.wide hz (Nat.le_refl _), (show Below w.heap.size w (World.drew (w.alloc (.cells #[.pointer (some ⟨bp, 0, none⟩)] 57))) from hb1.drew).trans (HBEL.out.mono hz)⟩

end Go.Proofs.YtddklkgcodjijaaGreat.R


/- Nodes and From of a graph without directions. -/
namespace Go.Proofs.YtddklkgcodjijaaGreat.R
open Go.RowKit Go.Lab Go.Maps Go.Proofs.YtddklkgcodjijaaGreatW.PrintWords Go.Proofs.YtddklkgcodjijaaGreatW.PrintLast Go.Proofs.YtddklkgcodjijaaGreatW.PrintMore PL

set_option maxHeartbeats 1000000 in
theorem nodes_any (base bp : Nat) (p : Pl) (w : World) (h : PlOk w base bp p) (hn : p.ids.length ≤ 1000) :
    Calls Tryz.prog 205 #[.agg #[.pointer (some ⟨bp, 0, none⟩)]] w fun e w' => ∃ b, e = .returned (.iface 275 (.pointer (some ⟨b, 0, none⟩))) ∧ OIt w.heap.size w'.heap.size w' b p.ids 0 ∧ Below w.heap.size w w' := by
  have hb1 : Below w.heap.size w (w.alloc (.cells #[.pointer (some ⟨bp, 0, none⟩)] 57)) := (Below.refl _ _).alloc (Nat.le_refl _) _
  have HP := Aside0.mk (h.below hb1)
  clear h
  go_enter Tryz.func205, Tryz.ntmps205
  go_wp2_with (go_at_call 210; refine (all_any base bp p _ HP.out hn).mono ?_; rintro e w2 ⟨b, rfl, hit, hbel⟩; have HIT := Aside0.mk hit; have HBEL := Aside0.mk hbel; clear hit hbel)
  go_ret
  exact ⟨b, rfl, HIT.out.wide (by simp) (Nat.le_refl _), hb1.trans (HBEL.out.mono (by simp))⟩

end Go.Proofs.YtddklkgcodjijaaGreat.R



/- Edge and Weight of a directed plain graph. -/
namespace Go.Proofs.YtddklkgcodjijaaGreat.R
open Go.RowKit Go.Lab Go.Maps Go.Proofs.YtddklkgcodjijaaGreatW.PrintWords Go.Proofs.YtddklkgcodjijaaGreatW.PrintLast Go.Proofs.YtddklkgcodjijaaGreatW.PrintMore PL

end Go.Proofs.YtddklkgcodjijaaGreat.R


/- slices.Clone of ints, and of edges, in the printed contracts' form. -/
namespace Go.Proofs.YtddklkgcodjijaaGreat.Q
open Go.RowKit Go.Lab Go.Proofs.YtddklkgcodjijaaGreatW.PrintWords Go.Proofs.YtddklkgcodjijaaGreatW.PrintLast Go.Proofs.YtddklkgcodjijaaGreatW.PrintMore Go.Proofs.YtddklkgcodjijaaGreat.R

set_option maxHeartbeats 1000000 in
theorem cloneI_some (A : Addr) (c : Nat) (xs : List Int) (w : World) (h : Kd.C (Kd.int .i64) w (some A) xs.length xs) (hb : xs.length * 8 ≤ 140737488355328) :
    Calls Tryz.prog 74 #[.slice (some A) xs.length c] w fun e w' => ∃ v', e = .returned v' ∧ w'.ownsRow w.heap.size 3 1 v' xs.length (nums .i64 xs) ∧ Below w.heap.size w w' := by
  have q22 : ∀ (w : World) (a : Option Addr) (n c n' c' : Nat), (binOp .eql 22 (.slice a n c) (.slice none n' c')).run Tryz.prog w = .ok (.bool a.isNone) w := fun w a n c n' c' => Lib.run_eql_slice_nil w _ _ a n c n' c' Tryz.underlying22
  have hcells := C_int_cells h rfl
  have HC := Aside0.mk hcells
  clear hcells
  have h1 : ∀ u ∈ nums .i64 xs, u.oneCell' = true := by intro u hu; obtain ⟨x, _, rfl⟩ := List.mem_map.1 hu; rfl
  have H1 := Aside0.mk h1
  clear h1
  have hn : xs.length ≤ maxLen := by unfold maxLen; omega
  obtain ⟨i0, hi, hz0, hz1, hz2⟩ := info_parts Tryz.info3
  have HL := Aside0.mk (nums_length .i64 xs)
  have HI := Aside0.mk (And.intro hi (And.intro hz0 (And.intro hz1 hz2)))
  clear hi hz0 hz1 hz2 h
  go_enter Tryz.func74, Tryz.ntmps74
  go_wp2_with (at_builtin; refine wpList_append_own _ rfl _ _ 22 rfl w.heap.size 3 i0 (.int .i64 0) 1 8 Tryz.underlying22 HI.out.1 HI.out.2.1 HI.out.2.2.1 HI.out.2.2.2 rfl (by decide) _ _ _ rfl (World.ownsRow_made w #[] 0 (Nat.le_refl _) (Nat.zero_le _) (by simp)) A xs.length c (nums .i64 xs) rfl ?qc1 ?qc2 ?qc3 ?qc4 ?qc5 ?qc6 ?_)
  case qc1 => rw [HL.out]; omega
  case qc2 =>
    intro j u hj
    exact Lib.cell?_alloc_some _ (HC.out j u hj)
  case qc3 => exact H1.out
  case qc4 => rw [Nat.zero_add]; exact hn
  case qc5 => rw [Nat.zero_add]; exact hb
  case qc6 => simp
  intro v' w1 hown hgrow hnil
  go_wp2
  go_ret
  refine ⟨v', rfl, by simpa using hown, ?_⟩
  exact ((Below.refl _ w).alloc (Nat.le_refl _) _).grown hgrow (by simp) (by intro k hk; simp [Value.ownBlock] at hk; omega)

set_option maxHeartbeats 400000 in
theorem cloneI_none (n c : Nat) (w : World) : Calls Tryz.prog 74 #[.slice none n c] w fun e w' => e = .returned (.slice none 0 0) ∧ w = w' := by
  have q22 : ∀ (w : World) (a : Option Addr) (n c n' c' : Nat), (binOp .eql 22 (.slice a n c) (.slice none n' c')).run Tryz.prog w = .ok (.bool a.isNone) w := fun w a n c n' c' => Lib.run_eql_slice_nil w _ _ a n c n' c' Tryz.underlying22
  go_enter Tryz.func74, Tryz.ntmps74
  go_wp2
  go_ret
  exact ⟨rfl, rfl⟩

/-- slices.Clone at int, of a slice that is read -/
theorem cloneI_any (A : Option Addr) (c : Nat) (xs : List Int) (w : World) (h : Kd.C (Kd.int .i64) w A xs.length xs) (hb : xs.length ≤ 100000) :
    Calls Tryz.prog 74 #[.slice A xs.length c] w fun e w' => ∃ v', e = .returned v' ∧ w'.ownsRow w.heap.size 3 1 v' xs.length (nums .i64 xs) ∧ Below w.heap.size w w' := by
  cases A with
  | none =>
    refine (cloneI_none _ _ w).mono ?_
    rintro e w' ⟨rfl, rfl⟩
    have h0 : xs.length = 0 := by
      rcases Nat.eq_zero_or_pos xs.length with h0 | h0
      · exact h0
      · obtain ⟨ad, e, _⟩ := h.2.2 h0; cases e
    have hx : xs = [] := List.eq_nil_of_length_eq_zero h0
    subst hx
    exact ⟨_, rfl, World.ownsRow_nil _ _ _ _, Below.refl _ _⟩
  | some ad => exact cloneI_some ad c xs w h (by omega)

theorem R_of_ints {w : World} {base : Nat} {e : TypeId} {v : Value} {xs : List Int} (h : w.ownsRow base e 1 v xs.length (nums .i64 xs)) : Kd.R (Kd.int .i64) e w base (fun _ => True) v xs := by
  refine ⟨fun _ _ => trivial, nums .i64 xs, h, by rw [nums_length]; exact (Nat.mul_one _).symm, fun j p hj => ?_⟩
  show List.take 1 (List.drop (j * 1) (nums .i64 xs)) = [.int .i64 p]
  obtain ⟨hl, rfl⟩ := List.getElem?_eq_some_iff.1 hj
  rw [Nat.mul_one, List.drop_eq_getElem_cons (by rw [nums_length]; exact hl)]
  simp [nums]

end Go.Proofs.YtddklkgcodjijaaGreat.Q
namespace Go.Proofs.YtddklkgcodjijaaGreat.PL
open Go.RowKit Go.Lab Go.Proofs.YtddklkgcodjijaaGreatW.PrintWords Go.Proofs.YtddklkgcodjijaaGreatW.PrintLast Go.Proofs.YtddklkgcodjijaaGreatW.PrintMore Go.Proofs.YtddklkgcodjijaaGreat.Q
def slices_Clone_int_int.f (l0 : List Int) : Option (List Int) := if l0.length ≤ 100000 then some l0 else none
theorem slices_Clone_int_int.calls (A0 : Option Addr) (c0 : Nat) (l0 : List Int) (r : List Int) (w : World) (hr0 : Kd.C (Kd.int .i64) w A0 l0.length l0) (hc0 : l0.length ≤ c0) (h : slices_Clone_int_int.f l0 = some r) :
    Calls Tryz.prog 74 #[.slice A0 l0.length c0] w fun e w' => ∃ v0_ : Value, e = .returned (v0_) ∧ Kd.R (Kd.int .i64) 3 w' w.heap.size (fun _ => True) v0_ r ∧ Below w.heap.size w w' := by
  unfold slices_Clone_int_int.f at h
  split at h
  · injection h with h
    subst h
    refine (cloneI_any A0 c0 l0 w hr0 (by assumption)).mono ?_
    rintro e w' ⟨v, rfl, ho, hb⟩
    exact ⟨v, rfl, R_of_ints ho, hb⟩
  · cases h
end Go.Proofs.YtddklkgcodjijaaGreat.PL
