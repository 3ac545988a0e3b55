import Derived.Shelf.Small.Bits
import Derived.Shelf.Small.Wraps
import Derived.Shelf.Strconv.Itoa0
import Derived.Shelf.Sort.Plain
import Derived.Shelf.Slices.Equal
import Derived.Ground.Names2Prog
import Derived.Shelf.Slices.Clone
import Derived.Shelf.Slices.SearchI
import Derived.Shelf.Slices.In.SortNone
import Derived.Shelf.Slices.Empties2
import Derived.Ground.SlgnProg
import Derived.Shelf.SlicesG.Clone
import Derived.Shelf.SlicesG.CompactI
import Derived.Shelf.SlicesG.SearchI
import Derived.Shelf.SlicesG.Cells
import Derived.Shelf.SlicesE.Equal
import Derived.Shelf.SlicesE.Compact
import Derived.Shelf.SlicesE.Clone
import Derived.Ground.SlgcProg
import Derived.Shelf.SlicesG.Cmp
import Derived.Ground.SlsfProg
import Derived.Shelf.SlSortCmp.Insertion
import Derived.Ground.SlgmProg
import Derived.Shelf.SortM.Plain
import Derived.Shelf.SortM.SortNone
import Derived.Shelf.SlSortCmp.SiftDown1
import Derived.Shelf.SlSortCmp.HeapSort1
import Derived.Shelf.SlSortCmp.Insertion1
import Derived.Shelf.SlSortCmp.Median1
import Derived.Shelf.SlSortCmp.Pivot1
import Derived.Shelf.SlSortCmp.ReverseRange1
import Derived.Shelf.SlSortCmp.PartialInsertion1
import Derived.Shelf.SlSortCmp.PartitionEqual1
import Derived.Shelf.SlSortCmp.Partition1
import Derived.Shelf.SlSortCmp.Pdq1
import Derived.Shelf.SlSortCmp.Whole1
import Derived.Shelf.SlSortCmp.NoneTotal
import Derived.Test.YtolbfjjgdheikaaGreatProg
import Derived.Test.YtolbfjjgdheikaaGreatCK7
set_option linter.unusedVariables false
set_option linter.unusedSimpArgs false
/-
  DERIVED: THE SHELF's CONTRACTS AT THIS DUMP, IN PLAIN WORDS (tools/lay-plain.mjs out of 'TryzShelfB.lean', which tools/lay-shelf.mjs wrote): THE SAME DECLARATIONS UNDER THE SAME NAMES: 'import', 'namespace', 'open', 'def', 'theorem' AND NOTHING ELSE: no command of the shelf's: FOR A HAND-IN. Each laying: the table of numbers ('.._ren') and one theorem, a field a fact of the dump's own or the kernel's comparison; each contract: ONE APPLICATION.
-/
namespace Go.Proofs
open Go.Shelf
def Tryz.lays122_ren : Go.Shelf.Ren := ⟨fun | 122 => 78 | 215 => 117 | n => n, fun | 3 => 3 | 4 => 4 | n => n, fun | n => n⟩
theorem Tryz.lays122 : Go.Proofs.Lays.n122 Tryz.prog Tryz.lays122_ren := {
  mixed := by kernel_rfl
  f122 := Tryz.func78.trans (congrArg some (by kernel_rfl))
  f215 := Tryz.func117.trans (congrArg some (by kernel_rfl))
  t3 := Tryz.underlying3
  a3 := Tryz.isAgg3
  z3 := Tryz.sizeOf3
  v3 := Tryz.zeroValue3
  t4 := Tryz.underlying4
  a4 := Tryz.isAgg4
  z4 := Tryz.sizeOf4
  v4 := Tryz.zeroValue4 }
open Go.RowKit in
/-- cmp.Compare at int: "Compare returns -1 if x is less than y, 0 if x equals y, +1 if x is greater than y.": IT RETURNS 'Lib.compareInt x y'; the world is as it was. (LAID: no walk: one application.) -/
theorem Tryz.cmp_Compare_int (x y : Int) (w : World) :
    Calls Tryz.prog 78 #[.int .i64 x, .int .i64 y] w fun e w' => e = .returned (.int .i64 (Lib.compareInt x y)) ∧ w' = w := Any.cmp_Compare_int Tryz.lays122 x y w
def Tryz.laysSlF6_f53_ren : Go.Shelf.Ren := ⟨fun | 6 => 53 | 15 => 59 | 14 => 77 | 28 => 93 | 29 => 94 | 20 => 109 | 21 => 110 | 22 => 111 | 23 => 112 | 24 => 113 | 25 => 114 | 26 => 115 | 27 => 116 | 46 => 140 | 47 => 120 | 48 => 121 | 49 => 141 | 50 => 142 | 57 => 151 | n => n, fun | 22 => 29 | 24 => 22 | 25 => 104 | 3 => 3 | 39 => 112 | 0 => 0 | 53 => 162 | 55 => 164 | 4 => 4 | 46 => 155 | 45 => 154 | 50 => 130 | 5 => 5 | 9 => 9 | 66 => 188 | 70 => 192 | 76 => 213 | 77 => 214 | n => n, fun | n => n⟩
theorem Tryz.laysSlF6_f53 : Go.Proofs.SlLaysF.n6 Tryz.prog Tryz.laysSlF6_f53_ren := {
  mixed := by kernel_rfl
  f6 := ⟨Tryz.f53.name, by decide, Tryz.func53.trans (congrArg some (by kernel_rfl))⟩
  f14 := ⟨Tryz.f77.name, by decide, Tryz.func77.trans (congrArg some (by kernel_rfl))⟩
  f15 := Tryz.func59.trans (congrArg some (by kernel_rfl))
  f20 := ⟨Tryz.f109.name, by decide, Tryz.func109.trans (congrArg some (by kernel_rfl))⟩
  f21 := ⟨Tryz.f110.name, by decide, Tryz.func110.trans (congrArg some (by kernel_rfl))⟩
  f22 := ⟨Tryz.f111.name, by decide, Tryz.func111.trans (congrArg some (by kernel_rfl))⟩
  f23 := ⟨Tryz.f112.name, by decide, Tryz.func112.trans (congrArg some (by kernel_rfl))⟩
  f24 := ⟨Tryz.f113.name, by decide, Tryz.func113.trans (congrArg some (by kernel_rfl))⟩
  f25 := ⟨Tryz.f114.name, by decide, Tryz.func114.trans (congrArg some (by kernel_rfl))⟩
  f26 := ⟨Tryz.f115.name, by decide, Tryz.func115.trans (congrArg some (by kernel_rfl))⟩
  f27 := ⟨Tryz.f116.name, by decide, Tryz.func116.trans (congrArg some (by kernel_rfl))⟩
  f28 := Tryz.func93.trans (congrArg some (by kernel_rfl))
  f29 := Tryz.func94.trans (congrArg some (by kernel_rfl))
  f46 := ⟨Tryz.f140.name, by decide, Tryz.func140.trans (congrArg some (by kernel_rfl))⟩
  f47 := Tryz.func120.trans (congrArg some (by kernel_rfl))
  f48 := Tryz.func121.trans (congrArg some (by kernel_rfl))
  f49 := ⟨Tryz.f141.name, by decide, Tryz.func141.trans (congrArg some (by kernel_rfl))⟩
  f50 := ⟨Tryz.f142.name, by decide, Tryz.func142.trans (congrArg some (by kernel_rfl))⟩
  f57 := ⟨Tryz.f151.name, by decide, Tryz.func151.trans (congrArg some (by kernel_rfl))⟩
  t0 := Tryz.underlying0
  a0 := Tryz.isAgg0
  z0 := Tryz.sizeOf0
  v0 := Tryz.zeroValue0
  t3 := Tryz.underlying3
  a3 := Tryz.isAgg3
  z3 := Tryz.sizeOf3
  v3 := Tryz.zeroValue3
  t4 := Tryz.underlying4
  a4 := Tryz.isAgg4
  z4 := Tryz.sizeOf4
  v4 := Tryz.zeroValue4
  t5 := Tryz.underlying5
  a5 := Tryz.isAgg5
  z5 := Tryz.sizeOf5
  v5 := Tryz.zeroValue5
  t9 := Tryz.underlying9
  a9 := Tryz.isAgg9
  z9 := Tryz.sizeOf9
  v9 := Tryz.zeroValue9
  t22 := Tryz.underlying29
  a22 := Tryz.isAgg29
  z22 := Tryz.sizeOf29
  v22 := Tryz.zeroValue29
  a24 := Tryz.isAgg22
  z24 := Tryz.sizeOf22
  t25 := Tryz.underlying104
  a25 := Tryz.isAgg104
  z25 := Tryz.sizeOf104
  v25 := Tryz.zeroValue104
  t39 := Tryz.underlying112
  a39 := Tryz.isAgg112
  z39 := Tryz.sizeOf112
  v39 := Tryz.zeroValue112
  t45 := Tryz.underlying154
  a45 := Tryz.isAgg154
  z45 := Tryz.sizeOf154
  v45 := Tryz.zeroValue154
  t46 := Tryz.underlying155
  a46 := Tryz.isAgg155
  z46 := Tryz.sizeOf155
  v46 := Tryz.zeroValue155
  t50 := Tryz.underlying130
  a50 := Tryz.isAgg130
  z50 := Tryz.sizeOf130
  v50 := Tryz.zeroValue130
  t53 := Tryz.underlying162
  a53 := Tryz.isAgg162
  z53 := Tryz.sizeOf162
  v53 := Tryz.zeroValue162
  t55 := Tryz.underlying164
  a55 := Tryz.isAgg164
  z55 := Tryz.sizeOf164
  v55 := Tryz.zeroValue164
  t66 := Tryz.underlying188
  a66 := Tryz.isAgg188
  z66 := Tryz.sizeOf188
  v66 := Tryz.zeroValue188
  t70 := Tryz.underlying192
  a70 := Tryz.isAgg192
  z70 := Tryz.sizeOf192
  v70 := Tryz.zeroValue192
  t76 := Tryz.underlying213
  a76 := Tryz.isAgg213
  z76 := Tryz.sizeOf213
  v76 := Tryz.zeroValue213
  t77 := Tryz.underlying214
  a77 := Tryz.isAgg214
  z77 := Tryz.sizeOf214
  v77 := Tryz.zeroValue214 }
def Tryz.laysSlF06_f53_ren : Go.Shelf.Ren := ⟨fun | 6 => 53 | 15 => 59 | 14 => 77 | 28 => 93 | 29 => 94 | 20 => 109 | 21 => 110 | 22 => 111 | 23 => 112 | 24 => 113 | 25 => 114 | 26 => 115 | 27 => 116 | 46 => 140 | 47 => 120 | 48 => 121 | 49 => 141 | 50 => 142 | 57 => 151 | n => n, fun | 22 => 29 | 24 => 22 | 25 => 104 | 3 => 3 | 39 => 112 | 0 => 0 | 53 => 162 | 55 => 164 | 4 => 4 | 46 => 155 | 45 => 154 | 50 => 130 | 5 => 5 | 9 => 9 | 66 => 188 | 70 => 192 | 76 => 213 | 77 => 214 | n => n, fun | n => n⟩
theorem Tryz.laysSlF06_f53 : Go.Proofs.SlLaysF0.n6 Tryz.prog Tryz.laysSlF06_f53_ren := {
  mixed := by kernel_rfl
  f6 := ⟨Tryz.f53.name, by decide, Tryz.func53.trans (congrArg some (by kernel_rfl))⟩
  f14 := ⟨Tryz.f77.name, by decide, Tryz.func77.trans (congrArg some (by kernel_rfl))⟩
  f15 := Tryz.func59.trans (congrArg some (by kernel_rfl))
  f20 := ⟨Tryz.f109.name, by decide, Tryz.func109.trans (congrArg some (by kernel_rfl))⟩
  f21 := ⟨Tryz.f110.name, by decide, Tryz.func110.trans (congrArg some (by kernel_rfl))⟩
  f22 := ⟨Tryz.f111.name, by decide, Tryz.func111.trans (congrArg some (by kernel_rfl))⟩
  f23 := ⟨Tryz.f112.name, by decide, Tryz.func112.trans (congrArg some (by kernel_rfl))⟩
  f24 := ⟨Tryz.f113.name, by decide, Tryz.func113.trans (congrArg some (by kernel_rfl))⟩
  f25 := ⟨Tryz.f114.name, by decide, Tryz.func114.trans (congrArg some (by kernel_rfl))⟩
  f26 := ⟨Tryz.f115.name, by decide, Tryz.func115.trans (congrArg some (by kernel_rfl))⟩
  f27 := ⟨Tryz.f116.name, by decide, Tryz.func116.trans (congrArg some (by kernel_rfl))⟩
  f28 := Tryz.func93.trans (congrArg some (by kernel_rfl))
  f29 := Tryz.func94.trans (congrArg some (by kernel_rfl))
  f46 := ⟨Tryz.f140.name, by decide, Tryz.func140.trans (congrArg some (by kernel_rfl))⟩
  f47 := Tryz.func120.trans (congrArg some (by kernel_rfl))
  f48 := Tryz.func121.trans (congrArg some (by kernel_rfl))
  f49 := ⟨Tryz.f141.name, by decide, Tryz.func141.trans (congrArg some (by kernel_rfl))⟩
  f50 := ⟨Tryz.f142.name, by decide, Tryz.func142.trans (congrArg some (by kernel_rfl))⟩
  f57 := ⟨Tryz.f151.name, by decide, Tryz.func151.trans (congrArg some (by kernel_rfl))⟩
  t0 := Tryz.underlying0
  a0 := Tryz.isAgg0
  z0 := Tryz.sizeOf0
  v0 := Tryz.zeroValue0
  t3 := Tryz.underlying3
  a3 := Tryz.isAgg3
  z3 := Tryz.sizeOf3
  v3 := Tryz.zeroValue3
  t4 := Tryz.underlying4
  a4 := Tryz.isAgg4
  z4 := Tryz.sizeOf4
  v4 := Tryz.zeroValue4
  t5 := Tryz.underlying5
  a5 := Tryz.isAgg5
  z5 := Tryz.sizeOf5
  v5 := Tryz.zeroValue5
  t9 := Tryz.underlying9
  a9 := Tryz.isAgg9
  z9 := Tryz.sizeOf9
  v9 := Tryz.zeroValue9
  t22 := Tryz.underlying29
  a22 := Tryz.isAgg29
  z22 := Tryz.sizeOf29
  v22 := Tryz.zeroValue29
  t25 := Tryz.underlying104
  a25 := Tryz.isAgg104
  z25 := Tryz.sizeOf104
  v25 := Tryz.zeroValue104
  t39 := Tryz.underlying112
  a39 := Tryz.isAgg112
  z39 := Tryz.sizeOf112
  v39 := Tryz.zeroValue112
  t45 := Tryz.underlying154
  a45 := Tryz.isAgg154
  z45 := Tryz.sizeOf154
  v45 := Tryz.zeroValue154
  t46 := Tryz.underlying155
  a46 := Tryz.isAgg155
  z46 := Tryz.sizeOf155
  v46 := Tryz.zeroValue155
  t50 := Tryz.underlying130
  a50 := Tryz.isAgg130
  z50 := Tryz.sizeOf130
  v50 := Tryz.zeroValue130
  t53 := Tryz.underlying162
  a53 := Tryz.isAgg162
  z53 := Tryz.sizeOf162
  v53 := Tryz.zeroValue162
  t55 := Tryz.underlying164
  a55 := Tryz.isAgg164
  z55 := Tryz.sizeOf164
  v55 := Tryz.zeroValue164
  t66 := Tryz.underlying188
  a66 := Tryz.isAgg188
  z66 := Tryz.sizeOf188
  v66 := Tryz.zeroValue188
  t70 := Tryz.underlying192
  a70 := Tryz.isAgg192
  z70 := Tryz.sizeOf192
  v70 := Tryz.zeroValue192
  t76 := Tryz.underlying213
  a76 := Tryz.isAgg213
  z76 := Tryz.sizeOf213
  v76 := Tryz.zeroValue213
  t77 := Tryz.underlying214
  a77 := Tryz.isAgg214
  z77 := Tryz.sizeOf214
  v77 := Tryz.zeroValue214 }
open Go.RowKit Go.Lib Go.Sort in
/-- **slices.SortFunc AT NO ELEMENT, A nil SLICE TOO: nothing turns.** (LAID AT THE INSTANCE 'slices.SortFunc[[][]int,[]int]': no walk: one application.) -/
theorem Tryz.slices_SortFunc_none {α : Type} [Inhabited α] (p : Option Addr) (cap : Nat) (fv : Value) (w : World) :
    Calls Tryz.prog 53 #[.slice p 0 cap, fv] w fun e w' => e = .returned (.tuple #[]) ∧ w' = w := AnyF.slices_SortFunc_none Tryz.laysSlF06_f53 p cap fv w
open Go.RowKit Go.Lib Go.Sort in
/-- **slices.SortFunc AT ONE CELL, UNDER A 'cmp' THAT PARTS WHATEVER TWO THAT ARE NOT ONE: THE ROW HOLDS core's 'mergeSort'.** (LAID AT THE INSTANCE 'slices.SortFunc[[][]int,[]int]': no walk: one application.) -/
theorem Tryz.slices_SortFunc_total {α : Type} [Inhabited α] (enc : α → Value) (h1 : OneCell enc) (cf : α → α → Int) (hO : SWO (ltOf cf)) (g : Nat) (cb : Array Value) (blk off cap : Nat) (d : Array α) (w : World) (eg : ∀ args w, (callFunc g args).run Tryz.prog w = .ok (.enter g args) w) (hcmp : CmpLays1 Tryz.prog g cb enc cf blk off d.size w) (hH : Holds enc w blk off d) (hblk : blk < w.heap.size) (hsz : d.size < 4611686018427387904) (hT : ∀ x y, (ltOf cf) x y = false → (ltOf cf) y x = false → x = y) :
    Calls Tryz.prog 53 #[.slice (some ⟨blk, off, none⟩) d.size cap, .func (.func g) #[] cb] w fun e w' =>
      e = .returned (.tuple #[]) ∧ ∃ n os, w' = sortWorld enc w blk off n (d.toList.mergeSort fun x y => !(ltOf cf) y x).toArray os := Any.slices_SortFunc_total Tryz.laysSlF6_f53 enc h1 cf hO g cb blk off cap d w eg hcmp hH hblk hsz hT
end Go.Proofs

/- slices.Compare, and slices.SortFunc of lists by it. -/
namespace Go.Proofs.YtolbfjjgdheikaaGreat.R
open Go.RowKit Go.Lab Go.Maps Go.Proofs.YtolbfjjgdheikaaGreatW.PrintWords Go.Proofs.YtolbfjjgdheikaaGreatW.PrintLast Go.Proofs.YtolbfjjgdheikaaGreatW.PrintMore PL

/-- how one list stands to another one -/
def cmpL : List Int → List Int → Int
  | [], [] => 0
  | [], _ :: _ => -1
  | _ :: _, [] => 1
  | x :: a, y :: b => if x < y then -1 else if x > y then 1 else cmpL a b
theorem cmpL_lt : ∀ (a b : List Int), decide (cmpL a b < 0) = lexB a b
  | [], [] => by simp [cmpL, lexB]
  | [], _ :: _ => by simp [cmpL, lexB]
  | _ :: _, [] => by simp [cmpL, lexB]
  | x :: a, y :: b => by
    unfold cmpL lexB
    by_cases h1 : x < y
    · rw [if_pos h1, if_neg (by omega)]; simp [h1]
    · rw [if_neg h1]
      by_cases h2 : x > y
      · rw [if_pos h2, if_neg (by omega)]; simp [h1]
      · rw [if_neg h2, if_pos (by omega)]; exact cmpL_lt a b

set_option maxHeartbeats 2000000 in
set_option maxRecDepth 100000 in
theorem compare_any (A1 A2 : Option Addr) (c1 c2 : Nat) (xs ys : List Int) (w : World) (hx : Kd.C (Kd.int .i64) w A1 xs.length xs) (hy : Kd.C (Kd.int .i64) w A2 ys.length ys) (hl : xs.length ≤ 100000) (hl2 : ys.length ≤ 100000) :
    Calls Tryz.prog 54 #[.slice A1 xs.length c1, .slice A2 ys.length c2] w fun e w' => e = .returned (.int .i64 (cmpL xs ys)) ∧ w' = w := by
  have HX := Aside0.mk hx
  have HY := Aside0.mk hy
  clear hx hy
  go_enter Tryz.func54, Tryz.ntmps54
  go_wp2
  go_loopw [11] (fun i wr => ∃ k : Nat, k ≤ xs.length ∧ k ≤ ys.length ∧ i = .int .i64 k ∧ Aside0 (cmpL xs ys = cmpL (xs.drop k) (ys.drop k) ∧ wr = w)) (fun i _ => xs.length - (intOf i).toNat)
  case atStart => exact ⟨0, Nat.zero_le _, Nat.zero_le _, rfl, ⟨by simp, rfl⟩⟩
  case round =>
    obtain ⟨k, hk, hk2, rfl, HR⟩ := hrel
    obtain ⟨hcm, rfl⟩ := HR.out
    have HC := Aside0.mk hcm
    clear hcm HR
    by_cases hlt : k < xs.length
    · obtain ⟨ad, rfl, hc⟩ := C_int_at HX.out k hlt
      have hdx : xs.drop k = xs.getD k 0 :: xs.drop (k + 1) := by
        rw [List.drop_eq_getElem_cons hlt]; simp [List.getD_eq_getElem?_getD, hlt]
      have HDX := Aside0.mk hdx
      clear hdx
      generalize xs.getD k 0 = x at hc HDX
      by_cases hly : k < ys.length
      · obtain ⟨ad2, rfl, hc2⟩ := C_int_at HY.out k hly
        have hdy : ys.drop k = ys.getD k 0 :: ys.drop (k + 1) := by
          rw [List.drop_eq_getElem_cons hly]; simp [List.getD_eq_getElem?_getD, hly]
        have HDY := Aside0.mk hdy
        clear hdy
        generalize ys.getD k 0 = y at hc2 HDY
        have hcc := Tryz.cmp_Compare_int x y wr
        have hge : decide ((ys.length : Int) ≤ (k : Int)) = false := by simp; omega
        by_cases h1 : x < y
        · have hv : Lib.compareInt x y = -1 := by unfold Lib.compareInt; rw [if_pos h1]
          have hres : cmpL xs ys = -1 := by rw [HC.out, HDX.out, HDY.out]; unfold cmpL; rw [if_pos h1]
          rw [hv] at hcc
          have HRES := Aside0.mk hres
          have HCC := Aside0.mk hcc
          clear hcc hv hres
          go_wp2_with (go_at_call 78; refine HCC.out.mono ?_; rintro e w' ⟨rfl, rfl⟩)
          go_ret
          exact ⟨by rw [HRES.out]; rfl, rfl⟩
        · by_cases h2 : x > y
          · have hv : Lib.compareInt x y = 1 := by unfold Lib.compareInt; rw [if_neg h1, if_pos h2]
            have hres : cmpL xs ys = 1 := by rw [HC.out, HDX.out, HDY.out]; unfold cmpL; rw [if_neg h1, if_pos h2]
            rw [hv] at hcc
            have HRES := Aside0.mk hres
            have HCC := Aside0.mk hcc
            clear hcc hv hres
            go_wp2_with (go_at_call 78; refine HCC.out.mono ?_; rintro e w' ⟨rfl, rfl⟩)
            go_ret
            exact ⟨by rw [HRES.out]; rfl, rfl⟩
          · have hv : Lib.compareInt x y = 0 := by unfold Lib.compareInt; rw [if_neg h1, if_neg h2]
            have hres : cmpL xs ys = cmpL (xs.drop (k + 1)) (ys.drop (k + 1)) := by
              rw [HC.out, HDX.out, HDY.out]
              conv => lhs; unfold cmpL
              rw [if_neg h1, if_neg h2]
            rw [hv] at hcc
            have HRS := Aside0.mk hres
            have HCC := Aside0.mk hcc
            clear hcc hv hres
            go_wp2_with (go_at_call 78; refine HCC.out.mono ?_; rintro e w' ⟨rfl, rfl⟩)
            go_roundw
            case rel => exact ⟨k + 1, by omega, by omega, by go_num, ⟨HRS.out, trivial⟩⟩
            case measure => simp [intOf]; omega
      · have hky : k = ys.length := by omega
        have hres : cmpL xs ys = 1 := by rw [HC.out, HDX.out, List.drop_eq_nil_of_le (show ys.length ≤ k by omega)]; rfl
        have HRES := Aside0.mk hres
        have hge : (ys.length : Int) ≤ (k : Int) := by omega
        clear hres hky
        go_wp2
        go_ret
        exact ⟨by rw [HRES.out]; rfl, rfl⟩
    · have hkx : k = xs.length := by omega
      by_cases hly : k < ys.length
      · have hres : cmpL xs ys = -1 := by
          rw [HC.out, List.drop_eq_nil_of_le (show xs.length ≤ k by omega), List.drop_eq_getElem_cons hly]; rfl
        have HRES := Aside0.mk hres
        have hlq : decide ((xs.length : Int) < (ys.length : Int)) = true := by simp; omega
        clear hres
        go_wp2
        go_ret
        exact ⟨by rw [HRES.out]; rfl, rfl⟩
      · have hres : cmpL xs ys = 0 := by
          rw [HC.out, List.drop_eq_nil_of_le (show xs.length ≤ k by omega), List.drop_eq_nil_of_le (show ys.length ≤ k by omega)]; rfl
        have HRES := Aside0.mk hres
        have hlq : decide ((xs.length : Int) < (ys.length : Int)) = false := by simp; omega
        clear hres
        go_wp2
        go_ret
        exact ⟨by rw [HRES.out]; rfl, rfl⟩
end Go.Proofs.YtolbfjjgdheikaaGreat.R
