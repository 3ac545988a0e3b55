import Derived.Shelf.Small.Bits
import Derived.Shelf.Small.Wraps
import Derived.Shelf.Strconv.Itoa0
import Derived.Shelf.Sort.Plain
import Derived.Shelf.Slices.Equal
import Derived.Ground.Names2Prog
import Derived.Shelf.Slices.Clone
import Derived.Shelf.Slices.SearchI
import Derived.Shelf.Slices.In.SortNone
import Derived.Shelf.Slices.Empties2
import Derived.Ground.SlgnProg
import Derived.Shelf.SlicesG.Clone
import Derived.Shelf.SlicesG.CompactI
import Derived.Shelf.SlicesG.SearchI
import Derived.Shelf.SlicesG.Cells
import Derived.Shelf.SlicesE.Equal
import Derived.Shelf.SlicesE.Compact
import Derived.Shelf.SlicesE.Clone
import Derived.Ground.SlgcProg
import Derived.Shelf.SlicesG.Cmp
import Derived.Ground.SlsfProg
import Derived.Shelf.SlSortCmp.Insertion
import Derived.Ground.SlgmProg
import Derived.Shelf.SortM.Plain
import Derived.Shelf.SortM.SortNone
import Derived.Shelf.SlSortCmp.SiftDown1
import Derived.Shelf.SlSortCmp.HeapSort1
import Derived.Shelf.SlSortCmp.Insertion1
import Derived.Shelf.SlSortCmp.Median1
import Derived.Shelf.SlSortCmp.Pivot1
import Derived.Shelf.SlSortCmp.ReverseRange1
import Derived.Shelf.SlSortCmp.PartialInsertion1
import Derived.Shelf.SlSortCmp.PartitionEqual1
import Derived.Shelf.SlSortCmp.Partition1
import Derived.Shelf.SlSortCmp.Pdq1
import Derived.Shelf.SlSortCmp.Whole1
import Derived.Shelf.SlSortCmp.NoneTotal
import Derived.Test.YtolbfjjgdheikaaGreatProg
import Derived.Test.YtolbfjjgdheikaaGreatFK6
import Derived.Test.YtolbfjjgdheikaaGreatFB5
set_option linter.unusedVariables false
set_option linter.unusedSimpArgs false
/-
  DERIVED: THE SHELF's CONTRACTS AT THIS DUMP, IN PLAIN WORDS (tools/lay-plain.mjs out of 'TryzShelfB.lean', which tools/lay-shelf.mjs wrote): THE SAME DECLARATIONS UNDER THE SAME NAMES: 'import', 'namespace', 'open', 'def', 'theorem' AND NOTHING ELSE: no command of the shelf's: FOR A HAND-IN. Each laying: the table of numbers ('.._ren') and one theorem, a field a fact of the dump's own or the kernel's comparison; each contract: ONE APPLICATION.
-/
namespace Go.Proofs
open Go.Shelf
def Tryz.lays122_ren : Go.Shelf.Ren := ⟨fun | 122 => 78 | 215 => 117 | n => n, fun | 3 => 3 | 4 => 4 | n => n, fun | n => n⟩
theorem Tryz.lays122 : Go.Proofs.Lays.n122 Tryz.prog Tryz.lays122_ren := {
  mixed := by kernel_rfl
  f122 := Tryz.func78.trans (congrArg some (by kernel_rfl))
  f215 := Tryz.func117.trans (congrArg some (by kernel_rfl))
  t3 := Tryz.underlying3
  a3 := Tryz.isAgg3
  z3 := Tryz.sizeOf3
  v3 := Tryz.zeroValue3
  t4 := Tryz.underlying4
  a4 := Tryz.isAgg4
  z4 := Tryz.sizeOf4
  v4 := Tryz.zeroValue4 }
open Go.RowKit in
/-- cmp.Compare at int: "Compare returns -1 if x is less than y, 0 if x equals y, +1 if x is greater than y.": IT RETURNS 'Lib.compareInt x y'; the world is as it was. (LAID: no walk: one application.) -/
theorem Tryz.cmp_Compare_int (x y : Int) (w : World) :
    Calls Tryz.prog 78 #[.int .i64 x, .int .i64 y] w fun e w' => e = .returned (.int .i64 (Lib.compareInt x y)) ∧ w' = w := Any.cmp_Compare_int Tryz.lays122 x y w
def Tryz.laysSlF6_f53_ren : Go.Shelf.Ren := ⟨fun | 6 => 53 | 15 => 59 | 14 => 77 | 28 => 93 | 29 => 94 | 20 => 109 | 21 => 110 | 22 => 111 | 23 => 112 | 24 => 113 | 25 => 114 | 26 => 115 | 27 => 116 | 46 => 140 | 47 => 120 | 48 => 121 | 49 => 141 | 50 => 142 | 57 => 151 | n => n, fun | 22 => 29 | 24 => 22 | 25 => 104 | 3 => 3 | 39 => 112 | 0 => 0 | 53 => 162 | 55 => 164 | 4 => 4 | 46 => 155 | 45 => 154 | 50 => 130 | 5 => 5 | 9 => 9 | 66 => 188 | 70 => 192 | 76 => 213 | 77 => 214 | n => n, fun | n => n⟩
theorem Tryz.laysSlF6_f53 : Go.Proofs.SlLaysF.n6 Tryz.prog Tryz.laysSlF6_f53_ren := {
  mixed := by kernel_rfl
  f6 := ⟨Tryz.f53.name, by decide, Tryz.func53.trans (congrArg some (by kernel_rfl))⟩
  f14 := ⟨Tryz.f77.name, by decide, Tryz.func77.trans (congrArg some (by kernel_rfl))⟩
  f15 := Tryz.func59.trans (congrArg some (by kernel_rfl))
  f20 := ⟨Tryz.f109.name, by decide, Tryz.func109.trans (congrArg some (by kernel_rfl))⟩
  f21 := ⟨Tryz.f110.name, by decide, Tryz.func110.trans (congrArg some (by kernel_rfl))⟩
  f22 := ⟨Tryz.f111.name, by decide, Tryz.func111.trans (congrArg some (by kernel_rfl))⟩
  f23 := ⟨Tryz.f112.name, by decide, Tryz.func112.trans (congrArg some (by kernel_rfl))⟩
  f24 := ⟨Tryz.f113.name, by decide, Tryz.func113.trans (congrArg some (by kernel_rfl))⟩
  f25 := ⟨Tryz.f114.name, by decide, Tryz.func114.trans (congrArg some (by kernel_rfl))⟩
  f26 := ⟨Tryz.f115.name, by decide, Tryz.func115.trans (congrArg some (by kernel_rfl))⟩
  f27 := ⟨Tryz.f116.name, by decide, Tryz.func116.trans (congrArg some (by kernel_rfl))⟩
  f28 := Tryz.func93.trans (congrArg some (by kernel_rfl))
  f29 := Tryz.func94.trans (congrArg some (by kernel_rfl))
  f46 := ⟨Tryz.f140.name, by decide, Tryz.func140.trans (congrArg some (by kernel_rfl))⟩
  f47 := Tryz.func120.trans (congrArg some (by kernel_rfl))
  f48 := Tryz.func121.trans (congrArg some (by kernel_rfl))
  f49 := ⟨Tryz.f141.name, by decide, Tryz.func141.trans (congrArg some (by kernel_rfl))⟩
  f50 := ⟨Tryz.f142.name, by decide, Tryz.func142.trans (congrArg some (by kernel_rfl))⟩
  f57 := ⟨Tryz.f151.name, by decide, Tryz.func151.trans (congrArg some (by kernel_rfl))⟩
  t0 := Tryz.underlying0
  a0 := Tryz.isAgg0
  z0 := Tryz.sizeOf0
  v0 := Tryz.zeroValue0
  t3 := Tryz.underlying3
  a3 := Tryz.isAgg3
  z3 := Tryz.sizeOf3
  v3 := Tryz.zeroValue3
  t4 := Tryz.underlying4
  a4 := Tryz.isAgg4
  z4 := Tryz.sizeOf4
  v4 := Tryz.zeroValue4
  t5 := Tryz.underlying5
  a5 := Tryz.isAgg5
  z5 := Tryz.sizeOf5
  v5 := Tryz.zeroValue5
  t9 := Tryz.underlying9
  a9 := Tryz.isAgg9
  z9 := Tryz.sizeOf9
  v9 := Tryz.zeroValue9
  t22 := Tryz.underlying29
  a22 := Tryz.isAgg29
  z22 := Tryz.sizeOf29
  v22 := Tryz.zeroValue29
  a24 := Tryz.isAgg22
  z24 := Tryz.sizeOf22
  t25 := Tryz.underlying104
  a25 := Tryz.isAgg104
  z25 := Tryz.sizeOf104
  v25 := Tryz.zeroValue104
  t39 := Tryz.underlying112
  a39 := Tryz.isAgg112
  z39 := Tryz.sizeOf112
  v39 := Tryz.zeroValue112
  t45 := Tryz.underlying154
  a45 := Tryz.isAgg154
  z45 := Tryz.sizeOf154
  v45 := Tryz.zeroValue154
  t46 := Tryz.underlying155
  a46 := Tryz.isAgg155
  z46 := Tryz.sizeOf155
  v46 := Tryz.zeroValue155
  t50 := Tryz.underlying130
  a50 := Tryz.isAgg130
  z50 := Tryz.sizeOf130
  v50 := Tryz.zeroValue130
  t53 := Tryz.underlying162
  a53 := Tryz.isAgg162
  z53 := Tryz.sizeOf162
  v53 := Tryz.zeroValue162
  t55 := Tryz.underlying164
  a55 := Tryz.isAgg164
  z55 := Tryz.sizeOf164
  v55 := Tryz.zeroValue164
  t66 := Tryz.underlying188
  a66 := Tryz.isAgg188
  z66 := Tryz.sizeOf188
  v66 := Tryz.zeroValue188
  t70 := Tryz.underlying192
  a70 := Tryz.isAgg192
  z70 := Tryz.sizeOf192
  v70 := Tryz.zeroValue192
  t76 := Tryz.underlying213
  a76 := Tryz.isAgg213
  z76 := Tryz.sizeOf213
  v76 := Tryz.zeroValue213
  t77 := Tryz.underlying214
  a77 := Tryz.isAgg214
  z77 := Tryz.sizeOf214
  v77 := Tryz.zeroValue214 }
def Tryz.laysSlF06_f53_ren : Go.Shelf.Ren := ⟨fun | 6 => 53 | 15 => 59 | 14 => 77 | 28 => 93 | 29 => 94 | 20 => 109 | 21 => 110 | 22 => 111 | 23 => 112 | 24 => 113 | 25 => 114 | 26 => 115 | 27 => 116 | 46 => 140 | 47 => 120 | 48 => 121 | 49 => 141 | 50 => 142 | 57 => 151 | n => n, fun | 22 => 29 | 24 => 22 | 25 => 104 | 3 => 3 | 39 => 112 | 0 => 0 | 53 => 162 | 55 => 164 | 4 => 4 | 46 => 155 | 45 => 154 | 50 => 130 | 5 => 5 | 9 => 9 | 66 => 188 | 70 => 192 | 76 => 213 | 77 => 214 | n => n, fun | n => n⟩
theorem Tryz.laysSlF06_f53 : Go.Proofs.SlLaysF0.n6 Tryz.prog Tryz.laysSlF06_f53_ren := {
  mixed := by kernel_rfl
  f6 := ⟨Tryz.f53.name, by decide, Tryz.func53.trans (congrArg some (by kernel_rfl))⟩
  f14 := ⟨Tryz.f77.name, by decide, Tryz.func77.trans (congrArg some (by kernel_rfl))⟩
  f15 := Tryz.func59.trans (congrArg some (by kernel_rfl))
  f20 := ⟨Tryz.f109.name, by decide, Tryz.func109.trans (congrArg some (by kernel_rfl))⟩
  f21 := ⟨Tryz.f110.name, by decide, Tryz.func110.trans (congrArg some (by kernel_rfl))⟩
  f22 := ⟨Tryz.f111.name, by decide, Tryz.func111.trans (congrArg some (by kernel_rfl))⟩
  f23 := ⟨Tryz.f112.name, by decide, Tryz.func112.trans (congrArg some (by kernel_rfl))⟩
  f24 := ⟨Tryz.f113.name, by decide, Tryz.func113.trans (congrArg some (by kernel_rfl))⟩
  f25 := ⟨Tryz.f114.name, by decide, Tryz.func114.trans (congrArg some (by kernel_rfl))⟩
  f26 := ⟨Tryz.f115.name, by decide, Tryz.func115.trans (congrArg some (by kernel_rfl))⟩
  f27 := ⟨Tryz.f116.name, by decide, Tryz.func116.trans (congrArg some (by kernel_rfl))⟩
  f28 := Tryz.func93.trans (congrArg some (by kernel_rfl))
  f29 := Tryz.func94.trans (congrArg some (by kernel_rfl))
  f46 := ⟨Tryz.f140.name, by decide, Tryz.func140.trans (congrArg some (by kernel_rfl))⟩
  f47 := Tryz.func120.trans (congrArg some (by kernel_rfl))
  f48 := Tryz.func121.trans (congrArg some (by kernel_rfl))
  f49 := ⟨Tryz.f141.name, by decide, Tryz.func141.trans (congrArg some (by kernel_rfl))⟩
  f50 := ⟨Tryz.f142.name, by decide, Tryz.func142.trans (congrArg some (by kernel_rfl))⟩
  f57 := ⟨Tryz.f151.name, by decide, Tryz.func151.trans (congrArg some (by kernel_rfl))⟩
  t0 := Tryz.underlying0
  a0 := Tryz.isAgg0
  z0 := Tryz.sizeOf0
  v0 := Tryz.zeroValue0
  t3 := Tryz.underlying3
  a3 := Tryz.isAgg3
  z3 := Tryz.sizeOf3
  v3 := Tryz.zeroValue3
  t4 := Tryz.underlying4
  a4 := Tryz.isAgg4
  z4 := Tryz.sizeOf4
  v4 := Tryz.zeroValue4
  t5 := Tryz.underlying5
  a5 := Tryz.isAgg5
  z5 := Tryz.sizeOf5
  v5 := Tryz.zeroValue5
  t9 := Tryz.underlying9
  a9 := Tryz.isAgg9
  z9 := Tryz.sizeOf9
  v9 := Tryz.zeroValue9
  t22 := Tryz.underlying29
  a22 := Tryz.isAgg29
  z22 := Tryz.sizeOf29
  v22 := Tryz.zeroValue29
  t25 := Tryz.underlying104
  a25 := Tryz.isAgg104
  z25 := Tryz.sizeOf104
  v25 := Tryz.zeroValue104
  t39 := Tryz.underlying112
  a39 := Tryz.isAgg112
  z39 := Tryz.sizeOf112
  v39 := Tryz.zeroValue112
  t45 := Tryz.underlying154
  a45 := Tryz.isAgg154
  z45 := Tryz.sizeOf154
  v45 := Tryz.zeroValue154
  t46 := Tryz.underlying155
  a46 := Tryz.isAgg155
  z46 := Tryz.sizeOf155
  v46 := Tryz.zeroValue155
  t50 := Tryz.underlying130
  a50 := Tryz.isAgg130
  z50 := Tryz.sizeOf130
  v50 := Tryz.zeroValue130
  t53 := Tryz.underlying162
  a53 := Tryz.isAgg162
  z53 := Tryz.sizeOf162
  v53 := Tryz.zeroValue162
  t55 := Tryz.underlying164
  a55 := Tryz.isAgg164
  z55 := Tryz.sizeOf164
  v55 := Tryz.zeroValue164
  t66 := Tryz.underlying188
  a66 := Tryz.isAgg188
  z66 := Tryz.sizeOf188
  v66 := Tryz.zeroValue188
  t70 := Tryz.underlying192
  a70 := Tryz.isAgg192
  z70 := Tryz.sizeOf192
  v70 := Tryz.zeroValue192
  t76 := Tryz.underlying213
  a76 := Tryz.isAgg213
  z76 := Tryz.sizeOf213
  v76 := Tryz.zeroValue213
  t77 := Tryz.underlying214
  a77 := Tryz.isAgg214
  z77 := Tryz.sizeOf214
  v77 := Tryz.zeroValue214 }
open Go.RowKit Go.Lib Go.Sort in
/-- **slices.SortFunc AT NO ELEMENT, A nil SLICE TOO: nothing turns.** (LAID AT THE INSTANCE 'slices.SortFunc[[][]int,[]int]': no walk: one application.) -/
theorem Tryz.slices_SortFunc_none {α : Type} [Inhabited α] (p : Option Addr) (cap : Nat) (fv : Value) (w : World) :
    Calls Tryz.prog 53 #[.slice p 0 cap, fv] w fun e w' => e = .returned (.tuple #[]) ∧ w' = w := AnyF.slices_SortFunc_none Tryz.laysSlF06_f53 p cap fv w
open Go.RowKit Go.Lib Go.Sort in
/-- **slices.SortFunc AT ONE CELL, UNDER A 'cmp' THAT PARTS WHATEVER TWO THAT ARE NOT ONE: THE ROW HOLDS core's 'mergeSort'.** (LAID AT THE INSTANCE 'slices.SortFunc[[][]int,[]int]': no walk: one application.) -/
theorem Tryz.slices_SortFunc_total {α : Type} [Inhabited α] (enc : α → Value) (h1 : OneCell enc) (cf : α → α → Int) (hO : SWO (ltOf cf)) (g : Nat) (cb : Array Value) (blk off cap : Nat) (d : Array α) (w : World) (eg : ∀ args w, (callFunc g args).run Tryz.prog w = .ok (.enter g args) w) (hcmp : CmpLays1 Tryz.prog g cb enc cf blk off d.size w) (hH : Holds enc w blk off d) (hblk : blk < w.heap.size) (hsz : d.size < 4611686018427387904) (hT : ∀ x y, (ltOf cf) x y = false → (ltOf cf) y x = false → x = y) :
    Calls Tryz.prog 53 #[.slice (some ⟨blk, off, none⟩) d.size cap, .func (.func g) #[] cb] w fun e w' =>
      e = .returned (.tuple #[]) ∧ ∃ n os, w' = sortWorld enc w blk off n (d.toList.mergeSort fun x y => !(ltOf cf) y x).toArray os := Any.slices_SortFunc_total Tryz.laysSlF6_f53 enc h1 cf hO g cb blk off cap d w eg hcmp hH hblk hsz hT
end Go.Proofs

/- slices.Compare, and slices.SortFunc of lists by it. -/
namespace Go.Proofs.YtolbfjjgdheikaaGreat.R
open Go.RowKit Go.Lab Go.Maps Go.Proofs.YtolbfjjgdheikaaGreatW.PrintWords Go.Proofs.YtolbfjjgdheikaaGreatW.PrintLast Go.Proofs.YtolbfjjgdheikaaGreatW.PrintMore PL

end Go.Proofs.YtolbfjjgdheikaaGreat.R

/- slices.Sort of ints; slices.SortFunc of lists. -/
namespace Go.Proofs.YtolbfjjgdheikaaGreat.R
open Go.RowKit Go.Lab Go.Maps Go.Proofs.YtolbfjjgdheikaaGreatW.PrintWords Go.Proofs.YtolbfjjgdheikaaGreatW.PrintLast Go.Proofs.YtolbfjjgdheikaaGreatW.PrintMore PL

open Go.Sort in
theorem putCells_takeE {α : Type} [Inhabited α] (enc : α → Value) (cur : Array Value) (n : Nat) (ys : List α) (hl : ys.length = n) (hn : n ≤ cur.size) : (putCells enc 0 ys.toArray cur).toList.take n = ys.map enc := by
  apply List.ext_getElem?
  intro j
  rw [List.getElem?_take]
  by_cases hj : j < n
  · rw [if_pos hj, Array.getElem?_toList]
    unfold putCells
    rw [Array.getElem?_mapIdx, Array.getElem?_eq_getElem (by omega), List.getElem?_map, List.getElem?_eq_getElem (by omega)]
    have : j < ys.toArray.size := by simp; omega
    simp only [Option.map_some, Nat.zero_le, true_and, Nat.zero_add, Nat.sub_zero]
    rw [if_pos this, getElem!_pos ys.toArray j this]
    simp
  · rw [if_neg hj, List.getElem?_eq_none (by rw [List.length_map]; omega)]
theorem lexB_ntrans {a b c : List Int} (h1 : lexB a b = false) (h2 : lexB b c = false) : lexB a c = false := by
  cases h : lexB a c with
  | false => rfl
  | true =>
    cases h3 : lexB b a with
    | false =>
      have := lexB_total h1 h3
      subst this
      rw [h] at h2; exact h2
    | true =>
      have := lexB_trans h3 h
      rw [this] at h2; exact h2

open Go.Sort in
theorem sortWorld_heap {α : Type} [Inhabited α] (enc : α → Value) (w : World) (g m : Nat) (dk : Array α) (os : Array Obj) (k : Nat) (hk : k < w.heap.size) (hne : k ≠ g) : (sortWorld enc w g 0 m dk os).heap[k]? = w.heap[k]? := by
  unfold sortWorld
  have hsz : (putRow enc (Go.Sort.ahead w m) g 0 dk).heap.size = w.heap.size := by simp [putRow, mapBlock, Go.Sort.ahead]
  rw [heap_grow_old _ _ (by rw [hsz]; exact hk)]
  unfold putRow mapBlock
  have : (Go.Sort.ahead w m).heap = w.heap := rfl
  simp only [this, Array.getElem?_modify]
  rw [if_neg (Ne.symm hne)]

end Go.Proofs.YtolbfjjgdheikaaGreat.R

/- A graph that was read, by its arcs. -/
namespace Go.Proofs.YtolbfjjgdheikaaGreat.R
open Go.RowKit Go.Lab Go.Maps Go.Proofs.YtolbfjjgdheikaaGreatW.PrintWords Go.Proofs.YtolbfjjgdheikaaGreatW.PrintLast Go.Proofs.YtolbfjjgdheikaaGreatW.PrintMore PL

theorem snoc_ind {α : Type} {P : List α → Prop} (l : List α) (h0 : P []) (h1 : ∀ l a, P l → P (l ++ [a])) : P l := by
  rw [← List.reverse_reverse l]
  generalize l.reverse = m
  induction m with
  | nil => exact h0
  | cons a m ih => rw [List.reverse_cons]; exact h1 _ _ ih
theorem arcW_mem {es : List S34} {u v n : Int} (h : arcW es u v = some n) : ∃ e ∈ es, e.f0 = u ∧ e.f1 = v ∧ e.f2 = n := by
  revert h
  refine snoc_ind (P := fun es => arcW es u v = some n → ∃ e ∈ es, e.f0 = u ∧ e.f1 = v ∧ e.f2 = n) es (fun h => by cases h) fun es e ih h => ?_
  rw [arcW_snoc] at h
  split at h
  · rename_i hc
    injection h with h
    exact ⟨e, by simp, hc.1, hc.2, h⟩
  · obtain ⟨e', h1, h2⟩ := ih h
    exact ⟨e', by simp [h1], h2⟩
theorem arcW_some {es : List S34} {u v : Int} : (arcW es u v).isSome = true ↔ ∃ e ∈ es, e.f0 = u ∧ e.f1 = v := by
  constructor
  · intro h
    obtain ⟨n, hn⟩ := Option.isSome_iff_exists.1 h
    obtain ⟨e, h1, h2, h3, _⟩ := arcW_mem hn
    exact ⟨e, h1, h2, h3⟩
  · rintro ⟨e, h1, h2, h3⟩
    revert h1
    refine snoc_ind (P := fun es => e ∈ es → (arcW es u v).isSome = true) es (fun h => by cases h) fun es e' ih h1 => ?_
    rw [arcW_snoc]
    split
    · rfl
    · rename_i hc
      rw [List.mem_append, List.mem_singleton] at h1
      rcases h1 with h1 | rfl
      · exact ih h1
      · exact absurd ⟨h2, h3⟩ hc
theorem pl0_adj (zs : List Int) : Adj zs [] (pl0 (srt zs)) := by
  have hr : ∀ i, (List.replicate (srt zs).length ([] : List (Int × Nat))).getD i [] = [] := by
    intro i
    rw [List.getD_eq_getElem?_getD, List.getElem?_replicate]; split <;> rfl
  refine ⟨rfl, by simp [pl0], by simp [pl0], ?_, ?_⟩
  all_goals
    intro i hi a
    unfold pl0
    rw [hr]
    constructor
    · intro h; cases h
    · rintro ⟨k, n, _, _, hn⟩; cases hn
theorem plOf_adj (zs : List Int) (hz : zs.length ≤ 1000) (h : (srt zs).Pairwise (· < ·)) (es : List S34) (he : es.all (goodE zs) = true) : Adj zs es (plOf true zs es) := by
  revert he
  refine snoc_ind (P := fun es => es.all (goodE zs) = true → Adj zs es (plOf true zs es)) es (fun _ => pl0_adj zs) fun es e ih he => ?_
  rw [List.all_append, Bool.and_eq_true] at he
  have he2 : goodE zs e = true := by simpa using he.2
  rw [plOf_snoc]
  unfold goodE at he2
  simp only [Bool.and_eq_true, decide_eq_true_eq] at he2
  exact (ih he.1).step (plOf_good true zs hz h es he.1) h e ((mem_srt _ _).2 he2.1.1.1.1) ((mem_srt _ _).2 he2.1.1.1.2)
theorem dbl_good {zs : List Int} (d : Bool) {es : List S34} (h : es.all (goodE zs) = true) : (dbl d es).all (goodE zs) = true := by
  unfold dbl
  split
  · exact h
  · rw [List.all_eq_true] at h ⊢
    intro e he
    obtain ⟨a, ha, hm⟩ := List.mem_flatMap.1 he
    have hg := h a ha
    rcases List.mem_cons.1 hm with rfl | hm
    · exact hg
    · rw [List.mem_singleton] at hm
      subst hm
      unfold goodE at hg ⊢
      simp only [Bool.and_eq_true, decide_eq_true_eq, Bool.not_eq_true', decide_eq_false_iff_not] at hg ⊢
      obtain ⟨⟨⟨⟨h1, h2⟩, h3⟩, h4⟩, h5⟩ := hg
      exact ⟨⟨⟨⟨h2, h1⟩, fun e => h3 e.symm⟩, h4⟩, h5⟩
theorem plOf_dbl (d : Bool) (zs : List Int) (es : List S34) : plOf d zs es = plOf true zs (dbl d es) := by
  cases d with
  | true => rfl
  | false =>
    unfold plOf dbl
    rw [if_neg (by decide)]
    suffices h : ∀ (es : List S34) (p : Pl), es.foldl (layE false) p = (es.flatMap fun e => [e, ⟨e.f1, e.f0, e.f2⟩]).foldl (layE true) p from h es _
    intro es
    induction es with
    | nil => intro p; rfl
    | cons e es ih =>
      intro p
      rw [List.foldl_cons, List.flatMap_cons, List.foldl_append, ih]
      congr 1
theorem GrOk.mk' {w w' : World} {d : Bool} {zs : List Int} {es : List S34} {base bp : Nat} (hn : zs.length ≤ 1000) (hro : readOk zs es = true) (hpl : PlOk w' base bp (plOf d zs es)) : GrOk w' base bp zs (dbl d es) (plOf d zs es) := by
  unfold readOk at hro
  simp only [Bool.and_eq_true, decide_eq_true_eq] at hro
  refine ⟨hpl, plOf_good d zs hn hro.1 es hro.2, ?_, hro.1, hn⟩
  rw [plOf_dbl]
  exact plOf_adj zs hn hro.1 _ (dbl_good d hro.2)

theorem outN_mem' {zs : List Int} {es : List S34} {u v : Int} (h : v ∈ outN zs es u) : v ∈ zs ∧ (arcW es u v).isSome = true := by
  unfold outN at h
  obtain ⟨h1, h2⟩ := List.mem_filter.1 h
  exact ⟨(mem_srt _ _).1 h1, h2⟩
end Go.Proofs.YtolbfjjgdheikaaGreat.R

/- impl.lists, impl.Components. -/
namespace Go.Proofs.YtolbfjjgdheikaaGreat.R
open Go.RowKit Go.Lab Go.Maps Go.Proofs.YtolbfjjgdheikaaGreatW.PrintWords Go.Proofs.YtolbfjjgdheikaaGreatW.PrintLast Go.Proofs.YtolbfjjgdheikaaGreatW.PrintMore PL

theorem RwsV.snoc {K : Kp} {lo : Nat} {w : World} {lv : Value} {rows : List Value} {ps : List (List Int)} {v : Value} {pt : List Int} (h2 : w.ownsRow lo K.T 1 lv (rows ++ [v]).length (rows ++ [v])) (hl : rows.length = ps.length)
    (h3 : ∀ (i : Nat) (h : i < rows.length), w.ownsRow lo K.E 1 rows[i] (ps.getD i []).length (K.val (ps.getD i []))) (h4 : w.ownsRow lo K.E 1 v pt.length (K.val pt)) : RwsV K lo w lv (rows ++ [v]) (ps ++ [pt]) := by
  refine ⟨h2, by simp [hl], fun i hi => ?_⟩
  rw [List.length_append, List.length_singleton] at hi
  by_cases hlt : i < rows.length
  · have e1 : (rows ++ [v])[i]'(by simp; omega) = rows[i] := List.getElem_append_left hlt
    have e2 : (ps ++ [pt]).getD i [] = ps.getD i [] := by
      rw [List.getD_eq_getElem?_getD, List.getD_eq_getElem?_getD, List.getElem?_append_left (by omega)]
    rw [e1, e2]
    exact h3 i hlt
  · have hi2 : i = rows.length := by omega
    subst hi2
    have e1 : (rows ++ [v])[rows.length]'(by simp) = v := by simp
    have e2 : (ps ++ [pt]).getD rows.length [] = pt := by
      rw [hl, List.getD_eq_getElem?_getD]; simp
    rw [e1, e2]
    exact h4

end Go.Proofs.YtolbfjjgdheikaaGreat.R
