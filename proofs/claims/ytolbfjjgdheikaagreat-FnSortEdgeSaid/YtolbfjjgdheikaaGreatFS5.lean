import Derived.Shelf.Small.Bits
import Derived.Shelf.Small.Wraps
import Derived.Shelf.Strconv.Itoa0
import Derived.Shelf.Sort.Plain
import Derived.Shelf.Slices.Equal
import Derived.Ground.Names2Prog
import Derived.Shelf.Slices.Clone
import Derived.Shelf.Slices.SearchI
import Derived.Shelf.Slices.In.SortNone
import Derived.Shelf.Slices.Empties2
import Derived.Ground.SlgnProg
import Derived.Shelf.SlicesG.Clone
import Derived.Shelf.SlicesG.CompactI
import Derived.Shelf.SlicesG.SearchI
import Derived.Shelf.SlicesG.Cells
import Derived.Shelf.SlicesE.Equal
import Derived.Shelf.SlicesE.Compact
import Derived.Shelf.SlicesE.Clone
import Derived.Ground.SlgcProg
import Derived.Shelf.SlicesG.Cmp
import Derived.Ground.SlsfProg
import Derived.Shelf.SlSortCmp.Insertion
import Derived.Ground.SlgmProg
import Derived.Shelf.SortM.Plain
import Derived.Shelf.SortM.SortNone
import Derived.Shelf.SlSortCmp.SiftDown1
import Derived.Shelf.SlSortCmp.HeapSort1
import Derived.Shelf.SlSortCmp.Insertion1
import Derived.Shelf.SlSortCmp.Median1
import Derived.Shelf.SlSortCmp.Pivot1
import Derived.Shelf.SlSortCmp.ReverseRange1
import Derived.Shelf.SlSortCmp.PartialInsertion1
import Derived.Shelf.SlSortCmp.PartitionEqual1
import Derived.Shelf.SlSortCmp.Partition1
import Derived.Shelf.SlSortCmp.Pdq1
import Derived.Shelf.SlSortCmp.Whole1
import Derived.Shelf.SlSortCmp.NoneTotal
import Derived.Test.YtolbfjjgdheikaaGreatProg
import Derived.Test.YtolbfjjgdheikaaGreatFK8
import Derived.Shelf.SlicesE.Reverse
set_option linter.unusedVariables false
set_option linter.unusedSimpArgs false
/-
  DERIVED: THE SHELF's CONTRACTS AT THIS DUMP, IN PLAIN WORDS (tools/lay-plain.mjs out of 'TryzShelfB.lean', which tools/lay-shelf.mjs wrote): THE SAME DECLARATIONS UNDER THE SAME NAMES: 'import', 'namespace', 'open', 'def', 'theorem' AND NOTHING ELSE: no command of the shelf's: FOR A HAND-IN. Each laying: the table of numbers ('.._ren') and one theorem, a field a fact of the dump's own or the kernel's comparison; each contract: ONE APPLICATION.
-/
namespace Go.Proofs
open Go.Shelf
def Tryz.laysSlC25_f126_ren : Go.Shelf.Ren := ⟨fun | 5 => 126 | 7 => 145 | n => n, fun | 3 => 3 | 4 => 4 | 22 => 2 | n => n, fun | n => n⟩
theorem Tryz.laysSlC25_f126 : Go.Proofs.SlLaysC2.n5 Tryz.prog Tryz.laysSlC25_f126_ren := {
  mixed := by kernel_rfl
  f5 := ⟨Tryz.f126.name, by decide, Tryz.func126.trans (congrArg some (by kernel_rfl))⟩
  f7 := ⟨Tryz.f145.name, by decide, Tryz.func145.trans (congrArg some (by kernel_rfl))⟩
  t3 := Tryz.underlying3
  a3 := Tryz.isAgg3
  z3 := Tryz.sizeOf3
  v3 := Tryz.zeroValue3
  t4 := Tryz.underlying4
  a4 := Tryz.isAgg4
  z4 := Tryz.sizeOf4
  v4 := Tryz.zeroValue4
  t22 := Tryz.underlying2
  a22 := Tryz.isAgg2
  z22 := Tryz.sizeOf2
  v22 := Tryz.zeroValue2 }
open Go.RowKit in
/-- cmp.Compare at int64 -/
theorem Tryz.cmp_Compare_int_f126 (x y : Int) (w : World) :
    Calls Tryz.prog 126 #[.int .i64 x, .int .i64 y] w fun e w' => e = .returned (.int .i64 (Lib.compareInt x y)) ∧ w' = w := AnyG.cmp_Compare_int Tryz.laysSlC25_f126 x y w
def Tryz.laysSlF6_f124_ren : Go.Shelf.Ren := ⟨fun | 6 => 124 | 15 => 59 | 14 => 144 | 28 => 93 | 29 => 94 | 20 => 152 | 21 => 153 | 22 => 154 | 23 => 155 | 24 => 156 | 25 => 157 | 26 => 158 | 27 => 159 | 46 => 162 | 47 => 120 | 48 => 121 | 49 => 163 | 50 => 164 | 57 => 166 | n => n, fun | 22 => 68 | 24 => 72 | 25 => 200 | 3 => 3 | 39 => 112 | 0 => 0 | 53 => 162 | 55 => 164 | 4 => 4 | 46 => 155 | 45 => 154 | 50 => 130 | 5 => 5 | 9 => 9 | 66 => 188 | 70 => 192 | 76 => 213 | 77 => 214 | n => n, fun | n => n⟩
theorem Tryz.laysSlF6_f124 : Go.Proofs.SlLaysF.n6 Tryz.prog Tryz.laysSlF6_f124_ren := {
  mixed := by kernel_rfl
  f6 := ⟨Tryz.f124.name, by decide, Tryz.func124.trans (congrArg some (by kernel_rfl))⟩
  f14 := ⟨Tryz.f144.name, by decide, Tryz.func144.trans (congrArg some (by kernel_rfl))⟩
  f15 := Tryz.func59.trans (congrArg some (by kernel_rfl))
  f20 := ⟨Tryz.f152.name, by decide, Tryz.func152.trans (congrArg some (by kernel_rfl))⟩
  f21 := ⟨Tryz.f153.name, by decide, Tryz.func153.trans (congrArg some (by kernel_rfl))⟩
  f22 := ⟨Tryz.f154.name, by decide, Tryz.func154.trans (congrArg some (by kernel_rfl))⟩
  f23 := ⟨Tryz.f155.name, by decide, Tryz.func155.trans (congrArg some (by kernel_rfl))⟩
  f24 := ⟨Tryz.f156.name, by decide, Tryz.func156.trans (congrArg some (by kernel_rfl))⟩
  f25 := ⟨Tryz.f157.name, by decide, Tryz.func157.trans (congrArg some (by kernel_rfl))⟩
  f26 := ⟨Tryz.f158.name, by decide, Tryz.func158.trans (congrArg some (by kernel_rfl))⟩
  f27 := ⟨Tryz.f159.name, by decide, Tryz.func159.trans (congrArg some (by kernel_rfl))⟩
  f28 := Tryz.func93.trans (congrArg some (by kernel_rfl))
  f29 := Tryz.func94.trans (congrArg some (by kernel_rfl))
  f46 := ⟨Tryz.f162.name, by decide, Tryz.func162.trans (congrArg some (by kernel_rfl))⟩
  f47 := Tryz.func120.trans (congrArg some (by kernel_rfl))
  f48 := Tryz.func121.trans (congrArg some (by kernel_rfl))
  f49 := ⟨Tryz.f163.name, by decide, Tryz.func163.trans (congrArg some (by kernel_rfl))⟩
  f50 := ⟨Tryz.f164.name, by decide, Tryz.func164.trans (congrArg some (by kernel_rfl))⟩
  f57 := ⟨Tryz.f166.name, by decide, Tryz.func166.trans (congrArg some (by kernel_rfl))⟩
  t0 := Tryz.underlying0
  a0 := Tryz.isAgg0
  z0 := Tryz.sizeOf0
  v0 := Tryz.zeroValue0
  t3 := Tryz.underlying3
  a3 := Tryz.isAgg3
  z3 := Tryz.sizeOf3
  v3 := Tryz.zeroValue3
  t4 := Tryz.underlying4
  a4 := Tryz.isAgg4
  z4 := Tryz.sizeOf4
  v4 := Tryz.zeroValue4
  t5 := Tryz.underlying5
  a5 := Tryz.isAgg5
  z5 := Tryz.sizeOf5
  v5 := Tryz.zeroValue5
  t9 := Tryz.underlying9
  a9 := Tryz.isAgg9
  z9 := Tryz.sizeOf9
  v9 := Tryz.zeroValue9
  t22 := Tryz.underlying68
  a22 := Tryz.isAgg68
  z22 := Tryz.sizeOf68
  v22 := Tryz.zeroValue68
  a24 := Tryz.isAgg72
  z24 := Tryz.sizeOf72
  t25 := Tryz.underlying200
  a25 := Tryz.isAgg200
  z25 := Tryz.sizeOf200
  v25 := Tryz.zeroValue200
  t39 := Tryz.underlying112
  a39 := Tryz.isAgg112
  z39 := Tryz.sizeOf112
  v39 := Tryz.zeroValue112
  t45 := Tryz.underlying154
  a45 := Tryz.isAgg154
  z45 := Tryz.sizeOf154
  v45 := Tryz.zeroValue154
  t46 := Tryz.underlying155
  a46 := Tryz.isAgg155
  z46 := Tryz.sizeOf155
  v46 := Tryz.zeroValue155
  t50 := Tryz.underlying130
  a50 := Tryz.isAgg130
  z50 := Tryz.sizeOf130
  v50 := Tryz.zeroValue130
  t53 := Tryz.underlying162
  a53 := Tryz.isAgg162
  z53 := Tryz.sizeOf162
  v53 := Tryz.zeroValue162
  t55 := Tryz.underlying164
  a55 := Tryz.isAgg164
  z55 := Tryz.sizeOf164
  v55 := Tryz.zeroValue164
  t66 := Tryz.underlying188
  a66 := Tryz.isAgg188
  z66 := Tryz.sizeOf188
  v66 := Tryz.zeroValue188
  t70 := Tryz.underlying192
  a70 := Tryz.isAgg192
  z70 := Tryz.sizeOf192
  v70 := Tryz.zeroValue192
  t76 := Tryz.underlying213
  a76 := Tryz.isAgg213
  z76 := Tryz.sizeOf213
  v76 := Tryz.zeroValue213
  t77 := Tryz.underlying214
  a77 := Tryz.isAgg214
  z77 := Tryz.sizeOf214
  v77 := Tryz.zeroValue214 }
def Tryz.laysSlF06_f124_ren : Go.Shelf.Ren := ⟨fun | 6 => 124 | 15 => 59 | 14 => 144 | 28 => 93 | 29 => 94 | 20 => 152 | 21 => 153 | 22 => 154 | 23 => 155 | 24 => 156 | 25 => 157 | 26 => 158 | 27 => 159 | 46 => 162 | 47 => 120 | 48 => 121 | 49 => 163 | 50 => 164 | 57 => 166 | n => n, fun | 22 => 68 | 24 => 72 | 25 => 200 | 3 => 3 | 39 => 112 | 0 => 0 | 53 => 162 | 55 => 164 | 4 => 4 | 46 => 155 | 45 => 154 | 50 => 130 | 5 => 5 | 9 => 9 | 66 => 188 | 70 => 192 | 76 => 213 | 77 => 214 | n => n, fun | n => n⟩
theorem Tryz.laysSlF06_f124 : Go.Proofs.SlLaysF0.n6 Tryz.prog Tryz.laysSlF06_f124_ren := {
  mixed := by kernel_rfl
  f6 := ⟨Tryz.f124.name, by decide, Tryz.func124.trans (congrArg some (by kernel_rfl))⟩
  f14 := ⟨Tryz.f144.name, by decide, Tryz.func144.trans (congrArg some (by kernel_rfl))⟩
  f15 := Tryz.func59.trans (congrArg some (by kernel_rfl))
  f20 := ⟨Tryz.f152.name, by decide, Tryz.func152.trans (congrArg some (by kernel_rfl))⟩
  f21 := ⟨Tryz.f153.name, by decide, Tryz.func153.trans (congrArg some (by kernel_rfl))⟩
  f22 := ⟨Tryz.f154.name, by decide, Tryz.func154.trans (congrArg some (by kernel_rfl))⟩
  f23 := ⟨Tryz.f155.name, by decide, Tryz.func155.trans (congrArg some (by kernel_rfl))⟩
  f24 := ⟨Tryz.f156.name, by decide, Tryz.func156.trans (congrArg some (by kernel_rfl))⟩
  f25 := ⟨Tryz.f157.name, by decide, Tryz.func157.trans (congrArg some (by kernel_rfl))⟩
  f26 := ⟨Tryz.f158.name, by decide, Tryz.func158.trans (congrArg some (by kernel_rfl))⟩
  f27 := ⟨Tryz.f159.name, by decide, Tryz.func159.trans (congrArg some (by kernel_rfl))⟩
  f28 := Tryz.func93.trans (congrArg some (by kernel_rfl))
  f29 := Tryz.func94.trans (congrArg some (by kernel_rfl))
  f46 := ⟨Tryz.f162.name, by decide, Tryz.func162.trans (congrArg some (by kernel_rfl))⟩
  f47 := Tryz.func120.trans (congrArg some (by kernel_rfl))
  f48 := Tryz.func121.trans (congrArg some (by kernel_rfl))
  f49 := ⟨Tryz.f163.name, by decide, Tryz.func163.trans (congrArg some (by kernel_rfl))⟩
  f50 := ⟨Tryz.f164.name, by decide, Tryz.func164.trans (congrArg some (by kernel_rfl))⟩
  f57 := ⟨Tryz.f166.name, by decide, Tryz.func166.trans (congrArg some (by kernel_rfl))⟩
  t0 := Tryz.underlying0
  a0 := Tryz.isAgg0
  z0 := Tryz.sizeOf0
  v0 := Tryz.zeroValue0
  t3 := Tryz.underlying3
  a3 := Tryz.isAgg3
  z3 := Tryz.sizeOf3
  v3 := Tryz.zeroValue3
  t4 := Tryz.underlying4
  a4 := Tryz.isAgg4
  z4 := Tryz.sizeOf4
  v4 := Tryz.zeroValue4
  t5 := Tryz.underlying5
  a5 := Tryz.isAgg5
  z5 := Tryz.sizeOf5
  v5 := Tryz.zeroValue5
  t9 := Tryz.underlying9
  a9 := Tryz.isAgg9
  z9 := Tryz.sizeOf9
  v9 := Tryz.zeroValue9
  t22 := Tryz.underlying68
  a22 := Tryz.isAgg68
  z22 := Tryz.sizeOf68
  v22 := Tryz.zeroValue68
  t25 := Tryz.underlying200
  a25 := Tryz.isAgg200
  z25 := Tryz.sizeOf200
  v25 := Tryz.zeroValue200
  t39 := Tryz.underlying112
  a39 := Tryz.isAgg112
  z39 := Tryz.sizeOf112
  v39 := Tryz.zeroValue112
  t45 := Tryz.underlying154
  a45 := Tryz.isAgg154
  z45 := Tryz.sizeOf154
  v45 := Tryz.zeroValue154
  t46 := Tryz.underlying155
  a46 := Tryz.isAgg155
  z46 := Tryz.sizeOf155
  v46 := Tryz.zeroValue155
  t50 := Tryz.underlying130
  a50 := Tryz.isAgg130
  z50 := Tryz.sizeOf130
  v50 := Tryz.zeroValue130
  t53 := Tryz.underlying162
  a53 := Tryz.isAgg162
  z53 := Tryz.sizeOf162
  v53 := Tryz.zeroValue162
  t55 := Tryz.underlying164
  a55 := Tryz.isAgg164
  z55 := Tryz.sizeOf164
  v55 := Tryz.zeroValue164
  t66 := Tryz.underlying188
  a66 := Tryz.isAgg188
  z66 := Tryz.sizeOf188
  v66 := Tryz.zeroValue188
  t70 := Tryz.underlying192
  a70 := Tryz.isAgg192
  z70 := Tryz.sizeOf192
  v70 := Tryz.zeroValue192
  t76 := Tryz.underlying213
  a76 := Tryz.isAgg213
  z76 := Tryz.sizeOf213
  v76 := Tryz.zeroValue213
  t77 := Tryz.underlying214
  a77 := Tryz.isAgg214
  z77 := Tryz.sizeOf214
  v77 := Tryz.zeroValue214 }
open Go.RowKit Go.Lib Go.Sort in
/-- **slices.SortFunc AT NO ELEMENT, A nil SLICE TOO: nothing turns.** (LAID AT THE INSTANCE 'slices.SortFunc at []Node': no walk: one application.) -/
theorem Tryz.slices_SortFunc_none_f124 {α : Type} [Inhabited α] (p : Option Addr) (cap : Nat) (fv : Value) (w : World) :
    Calls Tryz.prog 124 #[.slice p 0 cap, fv] w fun e w' => e = .returned (.tuple #[]) ∧ w' = w := AnyF.slices_SortFunc_none Tryz.laysSlF06_f124 p cap fv w
open Go.RowKit Go.Lib Go.Sort in
/-- **slices.SortFunc AT ONE CELL, UNDER A 'cmp' THAT PARTS WHATEVER TWO THAT ARE NOT ONE: THE ROW HOLDS core's 'mergeSort'.** (LAID AT THE INSTANCE 'slices.SortFunc at []Node': no walk: one application.) -/
theorem Tryz.slices_SortFunc_total_f124 {α : Type} [Inhabited α] (enc : α → Value) (h1 : OneCell enc) (cf : α → α → Int) (hO : SWO (ltOf cf)) (g : Nat) (cb : Array Value) (blk off cap : Nat) (d : Array α) (w : World) (eg : ∀ args w, (callFunc g args).run Tryz.prog w = .ok (.enter g args) w) (hcmp : CmpLays1 Tryz.prog g cb enc cf blk off d.size w) (hH : Holds enc w blk off d) (hblk : blk < w.heap.size) (hsz : d.size < 4611686018427387904) (hT : ∀ x y, (ltOf cf) x y = false → (ltOf cf) y x = false → x = y) :
    Calls Tryz.prog 124 #[.slice (some ⟨blk, off, none⟩) d.size cap, .func (.func g) #[] cb] w fun e w' =>
      e = .returned (.tuple #[]) ∧ ∃ n os, w' = sortWorld enc w blk off n (d.toList.mergeSort fun x y => !(ltOf cf) y x).toArray os := Any.slices_SortFunc_total Tryz.laysSlF6_f124 enc h1 cf hO g cb blk off cap d w eg hcmp hH hblk hsz hT
end Go.Proofs

/- order.ByID: nodes are sorted by their numbers. -/
namespace Go.Proofs.YtolbfjjgdheikaaGreat.R
open Go.RowKit Go.Lab Go.Maps Go.Proofs.YtolbfjjgdheikaaGreatW.PrintWords Go.Proofs.YtolbfjjgdheikaaGreatW.PrintLast Go.Proofs.YtolbfjjgdheikaaGreatW.PrintMore PL

set_option maxHeartbeats 4000000 in
set_option maxRecDepth 100000 in
theorem compareN_any (x y : Int) (w : World) : Calls Tryz.prog 125 #[.iface 97 (.int .i64 x), .iface 97 (.int .i64 y)] w fun e w' => e = .returned (.int .i64 (Lib.compareInt x y)) ∧ w' = w := by
  have m1 := meth_ID x
  have m2 := meth_ID y
  go_enter Tryz.func125, Tryz.ntmps125
  go_wp2_with (first
    | (go_at_call 202; refine (nodeID_any x _).mono ?_; rintro e wi ⟨rfl, rfl⟩)
    | (go_at_call 202; refine (nodeID_any y _).mono ?_; rintro e wi ⟨rfl, rfl⟩)
    | (go_at_call 126; refine (Tryz.cmp_Compare_int_f126 x y _).mono ?_; rintro e wi ⟨rfl, rfl⟩))
  go_ret
  exact ⟨rfl, rfl⟩
open Go.Sort in
theorem ltOf_cmp (x y : Int) : ltOf Lib.compareInt x y = decide (x < y) := by
  unfold ltOf Lib.compareInt
  by_cases h1 : x < y
  · simp [h1]
  · by_cases h2 : x = y
    · simp [h2]
    · have : y < x := by omega
      simp [h1, h2, this]
open Go.Sort in
set_option maxHeartbeats 2000000 in
theorem sortN_own (base : Nat) (v : Value) (xs : List Int) (w : World) (h : w.ownsRow base 72 1 v xs.length (nodeVs xs)) (hn : xs.length ≤ 100000) :
    Calls Tryz.prog 124 #[v, .func (.func 125) #[] #[]] w fun e w' => e = .returned (.tuple #[]) ∧ ∃ ys : List Int, ys.Perm xs ∧ w'.ownsRow base 72 1 v xs.length (nodeVs ys) ∧ w.grownBy w' v.ownBlock := by
  by_cases h0 : xs.length = 0
  · have hx : xs = [] := List.eq_nil_of_length_eq_zero h0
    subst hx
    obtain ⟨A, c, rfl⟩ := own_slice h
    refine (Tryz.slices_SortFunc_none_f124 (α := Nat) A c _ w).mono ?_
    rintro e w' ⟨rfl, rfl⟩
    exact ⟨rfl, [], List.Perm.refl _, h, ⟨rfl, rfl, rfl, Nat.le_refl _, fun _ _ _ => rfl⟩⟩
  · rcases h.2 with ⟨_, hn0⟩ | ⟨g, cap, cur, rfl, hb1, hg, hc1, hc2, hcs, htk⟩
    · exact absurd hn0 h0
    · have hgl : g < w.heap.size := blk_lt hg
      have hH : Holds nodeV w g 0 xs.toArray := by
        intro j hj
        have hj' : j < xs.length := by simpa using hj
        refine ⟨?_, blk_frozen hg _⟩
        rw [Nat.zero_add, blk_cell hg]
        have h1 : (cur.toList.take (xs.length * 1))[j]? = some (nodeV xs[j]) := by rw [htk]; unfold nodeVs; simp [hj']
        rw [List.getElem?_take] at h1
        split at h1
        · rw [getElem!_pos xs.toArray j (by simpa using hj)]
          simpa using h1
        · cases h1
      have hlt := ltOf_cmp
      have hsw : SWO (ltOf Lib.compareInt) :=
        ⟨fun x => by rw [hlt]; simp, fun x y z h1 h2 => by rw [hlt, decide_eq_true_iff] at *; omega, fun x y z h1 h2 => by rw [hlt, decide_eq_false_iff_not] at *; omega⟩
      have eg : ∀ args w, (callFunc 125 args).run Tryz.prog w = .ok (.enter 125 args) w := enters_of Tryz.func125 (by kernel_rfl) rfl
      have hcmp : CmpReads Tryz.prog 125 #[] nodeV Lib.compareInt g 0 xs.toArray.size w := by
        intro m os dk hdk x y
        refine (compareN_any x y _).mono ?_
        rintro e w' ⟨rfl, rfl⟩
        exact ⟨rfl, 0, rfl⟩
      have hone : OneCell nodeV := fun i => rfl
      have hcon := Tryz.slices_SortFunc_total_f124 nodeV hone Lib.compareInt hsw 125 #[] g 0 cap xs.toArray w eg hcmp.lays hH hgl (by simp; omega) (fun x y h1 h2 => by rw [hlt, decide_eq_false_iff_not] at h1 h2; omega)
      rw [List.size_toArray] at hcon
      refine hcon.mono ?_
      rintro e w' ⟨rfl, n, os, rfl⟩
      obtain ⟨m, hm⟩ : ∃ m, ((xs.toArray).toList.mergeSort fun x y => !(ltOf Lib.compareInt) y x) = m := ⟨_, rfl⟩
      have hmp : m.Perm xs := hm ▸ List.mergeSort_perm _ _
      have hml : m.length = xs.length := hmp.length_eq
      rw [hm]
      have hh : (sortWorld nodeV w g 0 n m.toArray os).heap[g]? = some (.cells (putCells nodeV 0 m.toArray cur) 72 (0, 0)) := by
        unfold sortWorld
        have hsz : (putRow nodeV (Go.Sort.ahead w n) g 0 m.toArray).heap.size = w.heap.size := by simp [putRow, mapBlock, Go.Sort.ahead]
        rw [heap_grow_old _ _ (by rw [hsz]; exact hgl)]
        unfold putRow mapBlock
        have : (Go.Sort.ahead w n).heap = w.heap := rfl
        simp only [this, Array.getElem?_modify, if_true]
        rw [hg]
        rfl
      have hsl : (putCells nodeV 0 m.toArray cur).size = cur.size := by simp [putCells]
      refine ⟨rfl, m, hmp, ⟨by rw [nodeVs_len, Nat.mul_one]; exact hml, .inr ⟨g, cap, _, rfl, hb1, hh, hc1, hc2, by rw [hsl]; exact hcs, ?_⟩⟩, ⟨rfl, rfl, rfl, ?_, fun k hk hne => ?_⟩⟩
      · rw [Nat.mul_one]
        exact putCells_takeE nodeV cur xs.length m hml (by rw [hcs]; omega)
      · unfold sortWorld; simp [grow, putRow, mapBlock, Go.Sort.ahead]
      · exact sortWorld_heap nodeV w g n m.toArray os k hk (fun e => hne (by simp [Value.ownBlock, e]))

set_option maxHeartbeats 4000000 in
set_option maxRecDepth 100000 in
theorem lexical_own (base : Nat) (v : Value) (xs : List Int) (w : World) (h : w.ownsRow base 72 1 v xs.length (nodeVs xs)) (hn : xs.length ≤ 100000) :
    Calls Tryz.prog 69 #[v] w fun e w' => e = .returned (.tuple #[]) ∧ ∃ ys : List Int, ys.Perm xs ∧ w'.ownsRow base 72 1 v xs.length (nodeVs ys) ∧ w.grownBy w' v.ownBlock := by
  have HO := Aside0.mk h
  clear h
  have h105 : Calls Tryz.prog 105 #[v] w fun e w' => e = .returned (.tuple #[]) ∧ ∃ ys : List Int, ys.Perm xs ∧ w'.ownsRow base 72 1 v xs.length (nodeVs ys) ∧ w.grownBy w' v.ownBlock := by
    go_enter Tryz.func105, Tryz.ntmps105
    go_wp2_with (go_at_call 124; refine (sortN_own base v xs _ HO.out hn).mono ?_; rintro e w1 ⟨rfl, hp⟩; have HP := Aside0.mk hp; clear hp)
    go_end0
    exact ⟨rfl, HP.out⟩
  go_enter Tryz.func69, Tryz.ntmps69
  go_wp2_with (go_at_call 105; refine h105.mono ?_; rintro e w1 ⟨rfl, hp⟩; have HP := Aside0.mk hp; clear hp)
  go_end0
  exact ⟨rfl, HP.out⟩
end Go.Proofs.YtolbfjjgdheikaaGreat.R

/- slices.Reverse of nodes, and of lists of nodes. -/
namespace Go.Proofs
open Go.Shelf
def Tryz.laysSlE35_f81_ren : Go.Shelf.Ren := ⟨fun | 35 => 81 | n => n, fun | 22 => 68 | 23 => 72 | 0 => 0 | 3 => 3 | 4 => 4 | n => n, fun | n => n⟩
theorem Tryz.laysSlE35_f81 : Go.Proofs.SlLaysE.n35 Tryz.prog Tryz.laysSlE35_f81_ren := {
  mixed := by kernel_rfl
  f35 := ⟨Tryz.f81.name, by decide, Tryz.func81.trans (congrArg some (by kernel_rfl))⟩
  t0 := Tryz.underlying0
  a0 := Tryz.isAgg0
  z0 := Tryz.sizeOf0
  v0 := Tryz.zeroValue0
  t3 := Tryz.underlying3
  a3 := Tryz.isAgg3
  z3 := Tryz.sizeOf3
  v3 := Tryz.zeroValue3
  t4 := Tryz.underlying4
  a4 := Tryz.isAgg4
  z4 := Tryz.sizeOf4
  v4 := Tryz.zeroValue4
  t22 := Tryz.underlying68
  a22 := Tryz.isAgg68
  z22 := Tryz.sizeOf68
  v22 := Tryz.zeroValue68
  a23 := Tryz.isAgg72
  z23 := Tryz.sizeOf72 }
def Tryz.laysSlE35_f104_ren : Go.Shelf.Ren := ⟨fun | 35 => 104 | n => n, fun | 22 => 128 | 23 => 68 | 0 => 0 | 3 => 3 | 4 => 4 | n => n, fun | n => n⟩
theorem Tryz.laysSlE35_f104 : Go.Proofs.SlLaysE.n35 Tryz.prog Tryz.laysSlE35_f104_ren := {
  mixed := by kernel_rfl
  f35 := ⟨Tryz.f104.name, by decide, Tryz.func104.trans (congrArg some (by kernel_rfl))⟩
  t0 := Tryz.underlying0
  a0 := Tryz.isAgg0
  z0 := Tryz.sizeOf0
  v0 := Tryz.zeroValue0
  t3 := Tryz.underlying3
  a3 := Tryz.isAgg3
  z3 := Tryz.sizeOf3
  v3 := Tryz.zeroValue3
  t4 := Tryz.underlying4
  a4 := Tryz.isAgg4
  z4 := Tryz.sizeOf4
  v4 := Tryz.zeroValue4
  t22 := Tryz.underlying128
  a22 := Tryz.isAgg128
  z22 := Tryz.sizeOf128
  v22 := Tryz.zeroValue128
  a23 := Tryz.isAgg68
  z23 := Tryz.sizeOf68 }
end Go.Proofs
namespace Go.Proofs.YtolbfjjgdheikaaGreat.R
open Go.RowKit Go.Lab Go.Maps Go.Proofs.YtolbfjjgdheikaaGreatW.PrintWords Go.Proofs.YtolbfjjgdheikaaGreatW.PrintLast Go.Proofs.YtolbfjjgdheikaaGreatW.PrintMore PL

/-- a value of one cell -/
abbrev OneV := {u : Value // u.oneCell' = true}
instance : Inhabited OneV := ⟨⟨.nilIface, rfl⟩⟩
theorem oneV_list : ∀ (vs : List Value), (∀ u ∈ vs, u.oneCell' = true) → ∃ zs : List OneV, zs.map (·.1) = vs
  | [], _ => ⟨[], rfl⟩
  | v :: vs, h => by
    obtain ⟨zs, e⟩ := oneV_list vs (fun u hu => h u (by simp [hu]))
    exact ⟨⟨v, h v (by simp)⟩ :: zs, by simp [e]⟩
open Go.Sort in
theorem rev_law {F : Nat} {T : TypeId} (base : Nat) (v : Value) (vs : List Value) (w : World) (h : w.ownsRow base T 1 v vs.length vs) (hone : ∀ u ∈ vs, u.oneCell' = true) (hn : vs.length ≤ 100000)
    (h0 : ∀ (a : Option Addr) (cap : Nat) (w : World), Calls Tryz.prog F #[.slice a 0 cap] w fun e w' => e = .returned (.tuple #[]) ∧ w' = w)
    (h1 : ∀ (blk cap : Nat) (zs : List OneV) (w : World), Holds (fun u : OneV => u.1) w blk 0 zs.toArray → zs.length ≤ 9223372036854775807 → Calls Tryz.prog F #[.slice (some ⟨blk, 0, none⟩) zs.length cap] w fun e w' => e = .returned (.tuple #[]) ∧ ∃ n, w' = putRow (fun u : OneV => u.1) (Go.Sort.ahead w n) blk 0 zs.reverse.toArray) :
    Calls Tryz.prog F #[v] w fun e w' => e = .returned (.tuple #[]) ∧ w'.ownsRow base T 1 v vs.length vs.reverse ∧ w.grownBy w' v.ownBlock := by
  by_cases hz : vs.length = 0
  · have hx : vs = [] := List.eq_nil_of_length_eq_zero hz
    subst hx
    obtain ⟨A, c, rfl⟩ := own_slice h
    refine (h0 A c w).mono ?_
    rintro e w' ⟨rfl, rfl⟩
    exact ⟨rfl, h, ⟨rfl, rfl, rfl, Nat.le_refl _, fun _ _ _ => rfl⟩⟩
  · rcases h.2 with ⟨_, hn0⟩ | ⟨g, cap, cur, rfl, hb1, hg, hc1, hc2, hcs, htk⟩
    · exact absurd hn0 hz
    · obtain ⟨zs, rfl⟩ := oneV_list vs hone
      have hgl : g < w.heap.size := blk_lt hg
      rw [List.length_map] at hn hz hc1 htk
      have hH : Holds (fun u : OneV => u.1) w g 0 zs.toArray := by
        intro j hj
        have hj' : j < zs.length := by simpa using hj
        refine ⟨?_, blk_frozen hg _⟩
        rw [Nat.zero_add, blk_cell hg]
        have h2 : (cur.toList.take (zs.length * 1))[j]? = some zs[j].1 := by rw [htk]; simp [hj']
        rw [List.getElem?_take] at h2
        split at h2
        · rw [getElem!_pos zs.toArray j (by simpa using hj)]
          simpa using h2
        · cases h2
      rw [List.length_map]
      refine (h1 g cap zs w hH (by omega)).mono ?_
      rintro e w' ⟨rfl, n, rfl⟩
      have hsz : (putRow (fun u : OneV => u.1) (Go.Sort.ahead w n) g 0 zs.reverse.toArray).heap.size = w.heap.size := by simp [putRow, mapBlock, Go.Sort.ahead]
      have hh : (putRow (fun u : OneV => u.1) (Go.Sort.ahead w n) g 0 zs.reverse.toArray).heap[g]? = some (.cells (putCells (fun u : OneV => u.1) 0 zs.reverse.toArray cur) T (0, 0)) := by
        unfold putRow mapBlock
        have : (Go.Sort.ahead w n).heap = w.heap := rfl
        simp only [this, Array.getElem?_modify, if_true]
        rw [hg]
        rfl
      have hsl : (putCells (fun u : OneV => u.1) 0 zs.reverse.toArray cur).size = cur.size := by simp [putCells]
      refine ⟨rfl, ⟨by simp, .inr ⟨g, cap, _, rfl, hb1, hh, hc1, hc2, by rw [hsl]; exact hcs, ?_⟩⟩, ⟨rfl, rfl, rfl, by rw [hsz]; exact Nat.le_refl _, fun k hk hne => ?_⟩⟩
      · rw [Nat.mul_one, ← List.map_reverse]
        exact putCells_takeE (fun u : OneV => u.1) cur zs.length zs.reverse (by simp) (by omega)
      · have hkg : k ≠ g := fun e => hne (by simp [Value.ownBlock, e])
        unfold putRow mapBlock
        have : (Go.Sort.ahead w n).heap = w.heap := rfl
        simp only [this, Array.getElem?_modify]
        rw [if_neg (Ne.symm hkg)]
open Go.Sort in
theorem revN_own (base : Nat) (v : Value) (vs : List Value) (w : World) (h : w.ownsRow base 72 1 v vs.length vs) (hone : ∀ u ∈ vs, u.oneCell' = true) (hn : vs.length ≤ 100000) :
    Calls Tryz.prog 81 #[v] w fun e w' => e = .returned (.tuple #[]) ∧ w'.ownsRow base 72 1 v vs.length vs.reverse ∧ w.grownBy w' v.ownBlock :=
  rev_law base v vs w h hone hn (fun a cap w => AnyE.slices_Reverse_empty Tryz.laysSlE35_f81 a cap w) (fun blk cap zs w hH hs => AnyE.slices_Reverse Tryz.laysSlE35_f81 (fun u : OneV => u.1) (fun u => u.2) blk 0 cap zs w hH hs)
open Go.Sort in
theorem revL_own (base : Nat) (v : Value) (vs : List Value) (w : World) (h : w.ownsRow base 68 1 v vs.length vs) (hone : ∀ u ∈ vs, u.oneCell' = true) (hn : vs.length ≤ 100000) :
    Calls Tryz.prog 104 #[v] w fun e w' => e = .returned (.tuple #[]) ∧ w'.ownsRow base 68 1 v vs.length vs.reverse ∧ w.grownBy w' v.ownBlock :=
  rev_law base v vs w h hone hn (fun a cap w => AnyE.slices_Reverse_empty Tryz.laysSlE35_f104 a cap w) (fun blk cap zs w hH hs => AnyE.slices_Reverse Tryz.laysSlE35_f104 (fun u : OneV => u.1) (fun u => u.2) blk 0 cap zs w hH hs)
end Go.Proofs.YtolbfjjgdheikaaGreat.R
