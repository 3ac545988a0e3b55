import Derived.Shelf.Small.Bits
import Derived.Shelf.Small.Wraps
import Derived.Shelf.Strconv.Itoa0
import Derived.Shelf.Sort.Plain
import Derived.Shelf.Slices.Equal
import Derived.Ground.Names2Prog
import Derived.Shelf.Slices.Clone
import Derived.Shelf.Slices.SearchI
import Derived.Shelf.Slices.In.SortNone
import Derived.Shelf.Slices.Empties2
import Derived.Ground.SlgnProg
import Derived.Shelf.SlicesG.Clone
import Derived.Shelf.SlicesG.CompactI
import Derived.Shelf.SlicesG.SearchI
import Derived.Shelf.SlicesG.Cells
import Derived.Shelf.SlicesE.Equal
import Derived.Shelf.SlicesE.Compact
import Derived.Shelf.SlicesE.Clone
import Derived.Ground.SlgcProg
import Derived.Shelf.SlicesG.Cmp
import Derived.Ground.SlsfProg
import Derived.Shelf.SlSortCmp.Insertion
import Derived.Ground.SlgmProg
import Derived.Shelf.SortM.Plain
import Derived.Shelf.SortM.SortNone
import Derived.Shelf.SlSortCmp.SiftDown1
import Derived.Shelf.SlSortCmp.HeapSort1
import Derived.Shelf.SlSortCmp.Insertion1
import Derived.Shelf.SlSortCmp.Median1
import Derived.Shelf.SlSortCmp.Pivot1
import Derived.Shelf.SlSortCmp.ReverseRange1
import Derived.Shelf.SlSortCmp.PartialInsertion1
import Derived.Shelf.SlSortCmp.PartitionEqual1
import Derived.Shelf.SlSortCmp.Partition1
import Derived.Shelf.SlSortCmp.Pdq1
import Derived.Shelf.SlSortCmp.Whole1
import Derived.Shelf.SlSortCmp.NoneTotal
import Derived.Test.YtolbfjjgdheikaaGreatProg
import Derived.Test.YtolbfjjgdheikaaGreatEK6
import Derived.Test.YtolbfjjgdheikaaGreatEB5
set_option linter.unusedVariables false
set_option linter.unusedSimpArgs false
/-
  DERIVED: THE SHELF's CONTRACTS AT THIS DUMP, IN PLAIN WORDS (tools/lay-plain.mjs out of 'TryzShelfB.lean', which tools/lay-shelf.mjs wrote): THE SAME DECLARATIONS UNDER THE SAME NAMES: 'import', 'namespace', 'open', 'def', 'theorem' AND NOTHING ELSE: no command of the shelf's: FOR A HAND-IN. Each laying: the table of numbers ('.._ren') and one theorem, a field a fact of the dump's own or the kernel's comparison; each contract: ONE APPLICATION.
-/
namespace Go.Proofs
open Go.Shelf
def Tryz.lays122_ren : Go.Shelf.Ren := ⟨fun | 122 => 78 | 215 => 117 | n => n, fun | 3 => 3 | 4 => 4 | n => n, fun | n => n⟩
theorem Tryz.lays122 : Go.Proofs.Lays.n122 Tryz.prog Tryz.lays122_ren := {
  mixed := by kernel_rfl
  f122 := Tryz.func78.trans (congrArg some (by kernel_rfl))
  f215 := Tryz.func117.trans (congrArg some (by kernel_rfl))
  t3 := Tryz.underlying3
  a3 := Tryz.isAgg3
  z3 := Tryz.sizeOf3
  v3 := Tryz.zeroValue3
  t4 := Tryz.underlying4
  a4 := Tryz.isAgg4
  z4 := Tryz.sizeOf4
  v4 := Tryz.zeroValue4 }
open Go.RowKit in
/-- cmp.Compare at int: "Compare returns -1 if x is less than y, 0 if x equals y, +1 if x is greater than y.": IT RETURNS 'Lib.compareInt x y'; the world is as it was. (LAID: no walk: one application.) -/
theorem Tryz.cmp_Compare_int (x y : Int) (w : World) :
    Calls Tryz.prog 78 #[.int .i64 x, .int .i64 y] w fun e w' => e = .returned (.int .i64 (Lib.compareInt x y)) ∧ w' = w := Any.cmp_Compare_int Tryz.lays122 x y w
def Tryz.laysSlF6_f53_ren : Go.Shelf.Ren := ⟨fun | 6 => 53 | 15 => 59 | 14 => 77 | 28 => 93 | 29 => 94 | 20 => 109 | 21 => 110 | 22 => 111 | 23 => 112 | 24 => 113 | 25 => 114 | 26 => 115 | 27 => 116 | 46 => 140 | 47 => 120 | 48 => 121 | 49 => 141 | 50 => 142 | 57 => 151 | n => n, fun | 22 => 29 | 24 => 22 | 25 => 104 | 3 => 3 | 39 => 112 | 0 => 0 | 53 => 162 | 55 => 164 | 4 => 4 | 46 => 155 | 45 => 154 | 50 => 130 | 5 => 5 | 9 => 9 | 66 => 188 | 70 => 192 | 76 => 213 | 77 => 214 | n => n, fun | n => n⟩
theorem Tryz.laysSlF6_f53 : Go.Proofs.SlLaysF.n6 Tryz.prog Tryz.laysSlF6_f53_ren := {
  mixed := by kernel_rfl
  f6 := ⟨Tryz.f53.name, by decide, Tryz.func53.trans (congrArg some (by kernel_rfl))⟩
  f14 := ⟨Tryz.f77.name, by decide, Tryz.func77.trans (congrArg some (by kernel_rfl))⟩
  f15 := Tryz.func59.trans (congrArg some (by kernel_rfl))
  f20 := ⟨Tryz.f109.name, by decide, Tryz.func109.trans (congrArg some (by kernel_rfl))⟩
  f21 := ⟨Tryz.f110.name, by decide, Tryz.func110.trans (congrArg some (by kernel_rfl))⟩
  f22 := ⟨Tryz.f111.name, by decide, Tryz.func111.trans (congrArg some (by kernel_rfl))⟩
  f23 := ⟨Tryz.f112.name, by decide, Tryz.func112.trans (congrArg some (by kernel_rfl))⟩
  f24 := ⟨Tryz.f113.name, by decide, Tryz.func113.trans (congrArg some (by kernel_rfl))⟩
  f25 := ⟨Tryz.f114.name, by decide, Tryz.func114.trans (congrArg some (by kernel_rfl))⟩
  f26 := ⟨Tryz.f115.name, by decide, Tryz.func115.trans (congrArg some (by kernel_rfl))⟩
  f27 := ⟨Tryz.f116.name, by decide, Tryz.func116.trans (congrArg some (by kernel_rfl))⟩
  f28 := Tryz.func93.trans (congrArg some (by kernel_rfl))
  f29 := Tryz.func94.trans (congrArg some (by kernel_rfl))
  f46 := ⟨Tryz.f140.name, by decide, Tryz.func140.trans (congrArg some (by kernel_rfl))⟩
  f47 := Tryz.func120.trans (congrArg some (by kernel_rfl))
  f48 := Tryz.func121.trans (congrArg some (by kernel_rfl))
  f49 := ⟨Tryz.f141.name, by decide, Tryz.func141.trans (congrArg some (by kernel_rfl))⟩
  f50 := ⟨Tryz.f142.name, by decide, Tryz.func142.trans (congrArg some (by kernel_rfl))⟩
  f57 := ⟨Tryz.f151.name, by decide, Tryz.func151.trans (congrArg some (by kernel_rfl))⟩
  t0 := Tryz.underlying0
  a0 := Tryz.isAgg0
  z0 := Tryz.sizeOf0
  v0 := Tryz.zeroValue0
  t3 := Tryz.underlying3
  a3 := Tryz.isAgg3
  z3 := Tryz.sizeOf3
  v3 := Tryz.zeroValue3
  t4 := Tryz.underlying4
  a4 := Tryz.isAgg4
  z4 := Tryz.sizeOf4
  v4 := Tryz.zeroValue4
  t5 := Tryz.underlying5
  a5 := Tryz.isAgg5
  z5 := Tryz.sizeOf5
  v5 := Tryz.zeroValue5
  t9 := Tryz.underlying9
  a9 := Tryz.isAgg9
  z9 := Tryz.sizeOf9
  v9 := Tryz.zeroValue9
  t22 := Tryz.underlying29
  a22 := Tryz.isAgg29
  z22 := Tryz.sizeOf29
  v22 := Tryz.zeroValue29
  a24 := Tryz.isAgg22
  z24 := Tryz.sizeOf22
  t25 := Tryz.underlying104
  a25 := Tryz.isAgg104
  z25 := Tryz.sizeOf104
  v25 := Tryz.zeroValue104
  t39 := Tryz.underlying112
  a39 := Tryz.isAgg112
  z39 := Tryz.sizeOf112
  v39 := Tryz.zeroValue112
  t45 := Tryz.underlying154
  a45 := Tryz.isAgg154
  z45 := Tryz.sizeOf154
  v45 := Tryz.zeroValue154
  t46 := Tryz.underlying155
  a46 := Tryz.isAgg155
  z46 := Tryz.sizeOf155
  v46 := Tryz.zeroValue155
  t50 := Tryz.underlying130
  a50 := Tryz.isAgg130
  z50 := Tryz.sizeOf130
  v50 := Tryz.zeroValue130
  t53 := Tryz.underlying162
  a53 := Tryz.isAgg162
  z53 := Tryz.sizeOf162
  v53 := Tryz.zeroValue162
  t55 := Tryz.underlying164
  a55 := Tryz.isAgg164
  z55 := Tryz.sizeOf164
  v55 := Tryz.zeroValue164
  t66 := Tryz.underlying188
  a66 := Tryz.isAgg188
  z66 := Tryz.sizeOf188
  v66 := Tryz.zeroValue188
  t70 := Tryz.underlying192
  a70 := Tryz.isAgg192
  z70 := Tryz.sizeOf192
  v70 := Tryz.zeroValue192
  t76 := Tryz.underlying213
  a76 := Tryz.isAgg213
  z76 := Tryz.sizeOf213
  v76 := Tryz.zeroValue213
  t77 := Tryz.underlying214
  a77 := Tryz.isAgg214
  z77 := Tryz.sizeOf214
  v77 := Tryz.zeroValue214 }
def Tryz.laysSlF06_f53_ren : Go.Shelf.Ren := ⟨fun | 6 => 53 | 15 => 59 | 14 => 77 | 28 => 93 | 29 => 94 | 20 => 109 | 21 => 110 | 22 => 111 | 23 => 112 | 24 => 113 | 25 => 114 | 26 => 115 | 27 => 116 | 46 => 140 | 47 => 120 | 48 => 121 | 49 => 141 | 50 => 142 | 57 => 151 | n => n, fun | 22 => 29 | 24 => 22 | 25 => 104 | 3 => 3 | 39 => 112 | 0 => 0 | 53 => 162 | 55 => 164 | 4 => 4 | 46 => 155 | 45 => 154 | 50 => 130 | 5 => 5 | 9 => 9 | 66 => 188 | 70 => 192 | 76 => 213 | 77 => 214 | n => n, fun | n => n⟩
theorem Tryz.laysSlF06_f53 : Go.Proofs.SlLaysF0.n6 Tryz.prog Tryz.laysSlF06_f53_ren := {
  mixed := by kernel_rfl
  f6 := ⟨Tryz.f53.name, by decide, Tryz.func53.trans (congrArg some (by kernel_rfl))⟩
  f14 := ⟨Tryz.f77.name, by decide, Tryz.func77.trans (congrArg some (by kernel_rfl))⟩
  f15 := Tryz.func59.trans (congrArg some (by kernel_rfl))
  f20 := ⟨Tryz.f109.name, by decide, Tryz.func109.trans (congrArg some (by kernel_rfl))⟩
  f21 := ⟨Tryz.f110.name, by decide, Tryz.func110.trans (congrArg some (by kernel_rfl))⟩
  f22 := ⟨Tryz.f111.name, by decide, Tryz.func111.trans (congrArg some (by kernel_rfl))⟩
  f23 := ⟨Tryz.f112.name, by decide, Tryz.func112.trans (congrArg some (by kernel_rfl))⟩
  f24 := ⟨Tryz.f113.name, by decide, Tryz.func113.trans (congrArg some (by kernel_rfl))⟩
  f25 := ⟨Tryz.f114.name, by decide, Tryz.func114.trans (congrArg some (by kernel_rfl))⟩
  f26 := ⟨Tryz.f115.name, by decide, Tryz.func115.trans (congrArg some (by kernel_rfl))⟩
  f27 := ⟨Tryz.f116.name, by decide, Tryz.func116.trans (congrArg some (by kernel_rfl))⟩
  f28 := Tryz.func93.trans (congrArg some (by kernel_rfl))
  f29 := Tryz.func94.trans (congrArg some (by kernel_rfl))
  f46 := ⟨Tryz.f140.name, by decide, Tryz.func140.trans (congrArg some (by kernel_rfl))⟩
  f47 := Tryz.func120.trans (congrArg some (by kernel_rfl))
  f48 := Tryz.func121.trans (congrArg some (by kernel_rfl))
  f49 := ⟨Tryz.f141.name, by decide, Tryz.func141.trans (congrArg some (by kernel_rfl))⟩
  f50 := ⟨Tryz.f142.name, by decide, Tryz.func142.trans (congrArg some (by kernel_rfl))⟩
  f57 := ⟨Tryz.f151.name, by decide, Tryz.func151.trans (congrArg some (by kernel_rfl))⟩
  t0 := Tryz.underlying0
  a0 := Tryz.isAgg0
  z0 := Tryz.sizeOf0
  v0 := Tryz.zeroValue0
  t3 := Tryz.underlying3
  a3 := Tryz.isAgg3
  z3 := Tryz.sizeOf3
  v3 := Tryz.zeroValue3
  t4 := Tryz.underlying4
  a4 := Tryz.isAgg4
  z4 := Tryz.sizeOf4
  v4 := Tryz.zeroValue4
  t5 := Tryz.underlying5
  a5 := Tryz.isAgg5
  z5 := Tryz.sizeOf5
  v5 := Tryz.zeroValue5
  t9 := Tryz.underlying9
  a9 := Tryz.isAgg9
  z9 := Tryz.sizeOf9
  v9 := Tryz.zeroValue9
  t22 := Tryz.underlying29
  a22 := Tryz.isAgg29
  z22 := Tryz.sizeOf29
  v22 := Tryz.zeroValue29
  t25 := Tryz.underlying104
  a25 := Tryz.isAgg104
  z25 := Tryz.sizeOf104
  v25 := Tryz.zeroValue104
  t39 := Tryz.underlying112
  a39 := Tryz.isAgg112
  z39 := Tryz.sizeOf112
  v39 := Tryz.zeroValue112
  t45 := Tryz.underlying154
  a45 := Tryz.isAgg154
  z45 := Tryz.sizeOf154
  v45 := Tryz.zeroValue154
  t46 := Tryz.underlying155
  a46 := Tryz.isAgg155
  z46 := Tryz.sizeOf155
  v46 := Tryz.zeroValue155
  t50 := Tryz.underlying130
  a50 := Tryz.isAgg130
  z50 := Tryz.sizeOf130
  v50 := Tryz.zeroValue130
  t53 := Tryz.underlying162
  a53 := Tryz.isAgg162
  z53 := Tryz.sizeOf162
  v53 := Tryz.zeroValue162
  t55 := Tryz.underlying164
  a55 := Tryz.isAgg164
  z55 := Tryz.sizeOf164
  v55 := Tryz.zeroValue164
  t66 := Tryz.underlying188
  a66 := Tryz.isAgg188
  z66 := Tryz.sizeOf188
  v66 := Tryz.zeroValue188
  t70 := Tryz.underlying192
  a70 := Tryz.isAgg192
  z70 := Tryz.sizeOf192
  v70 := Tryz.zeroValue192
  t76 := Tryz.underlying213
  a76 := Tryz.isAgg213
  z76 := Tryz.sizeOf213
  v76 := Tryz.zeroValue213
  t77 := Tryz.underlying214
  a77 := Tryz.isAgg214
  z77 := Tryz.sizeOf214
  v77 := Tryz.zeroValue214 }
open Go.RowKit Go.Lib Go.Sort in
/-- **slices.SortFunc AT NO ELEMENT, A nil SLICE TOO: nothing turns.** (LAID AT THE INSTANCE 'slices.SortFunc[[][]int,[]int]': no walk: one application.) -/
theorem Tryz.slices_SortFunc_none {α : Type} [Inhabited α] (p : Option Addr) (cap : Nat) (fv : Value) (w : World) :
    Calls Tryz.prog 53 #[.slice p 0 cap, fv] w fun e w' => e = .returned (.tuple #[]) ∧ w' = w := AnyF.slices_SortFunc_none Tryz.laysSlF06_f53 p cap fv w
open Go.RowKit Go.Lib Go.Sort in
/-- **slices.SortFunc AT ONE CELL, UNDER A 'cmp' THAT PARTS WHATEVER TWO THAT ARE NOT ONE: THE ROW HOLDS core's 'mergeSort'.** (LAID AT THE INSTANCE 'slices.SortFunc[[][]int,[]int]': no walk: one application.) -/
theorem Tryz.slices_SortFunc_total {α : Type} [Inhabited α] (enc : α → Value) (h1 : OneCell enc) (cf : α → α → Int) (hO : SWO (ltOf cf)) (g : Nat) (cb : Array Value) (blk off cap : Nat) (d : Array α) (w : World) (eg : ∀ args w, (callFunc g args).run Tryz.prog w = .ok (.enter g args) w) (hcmp : CmpLays1 Tryz.prog g cb enc cf blk off d.size w) (hH : Holds enc w blk off d) (hblk : blk < w.heap.size) (hsz : d.size < 4611686018427387904) (hT : ∀ x y, (ltOf cf) x y = false → (ltOf cf) y x = false → x = y) :
    Calls Tryz.prog 53 #[.slice (some ⟨blk, off, none⟩) d.size cap, .func (.func g) #[] cb] w fun e w' =>
      e = .returned (.tuple #[]) ∧ ∃ n os, w' = sortWorld enc w blk off n (d.toList.mergeSort fun x y => !(ltOf cf) y x).toArray os := Any.slices_SortFunc_total Tryz.laysSlF6_f53 enc h1 cf hO g cb blk off cap d w eg hcmp hH hblk hsz hT
end Go.Proofs

/- slices.Compare, and slices.SortFunc of lists by it. -/
namespace Go.Proofs.YtolbfjjgdheikaaGreat.R
open Go.RowKit Go.Lab Go.Maps Go.Proofs.YtolbfjjgdheikaaGreatW.PrintWords Go.Proofs.YtolbfjjgdheikaaGreatW.PrintLast Go.Proofs.YtolbfjjgdheikaaGreatW.PrintMore PL

/-- how one list stands to another one -/
def cmpL : List Int → List Int → Int
  | [], [] => 0
  | [], _ :: _ => -1
  | _ :: _, [] => 1
  | x :: a, y :: b => if x < y then -1 else if x > y then 1 else cmpL a b
theorem cmpL_lt : ∀ (a b : List Int), decide (cmpL a b < 0) = lexB a b
  | [], [] => by simp [cmpL, lexB]
  | [], _ :: _ => by simp [cmpL, lexB]
  | _ :: _, [] => by simp [cmpL, lexB]
  | x :: a, y :: b => by
    unfold cmpL lexB
    by_cases h1 : x < y
    · rw [if_pos h1, if_neg (by omega)]; simp [h1]
    · rw [if_neg h1]
      by_cases h2 : x > y
      · rw [if_pos h2, if_neg (by omega)]; simp [h1]
      · rw [if_neg h2, if_pos (by omega)]; exact cmpL_lt a b

set_option maxHeartbeats 2000000 in
set_option maxRecDepth 100000 in
theorem compare_any (A1 A2 : Option Addr) (c1 c2 : Nat) (xs ys : List Int) (w : World) (hx : Kd.C (Kd.int .i64) w A1 xs.length xs) (hy : Kd.C (Kd.int .i64) w A2 ys.length ys) (hl : xs.length ≤ 100000) (hl2 : ys.length ≤ 100000) :
    Calls Tryz.prog 54 #[.slice A1 xs.length c1, .slice A2 ys.length c2] w fun e w' => e = .returned (.int .i64 (cmpL xs ys)) ∧ w' = w := by
  have HX := Aside0.mk hx
  have HY := Aside0.mk hy
  clear hx hy
  go_enter Tryz.func54, Tryz.ntmps54
  go_wp2
  go_loopw [11] (fun i wr => ∃ k : Nat, k ≤ xs.length ∧ k ≤ ys.length ∧ i = .int .i64 k ∧ Aside0 (cmpL xs ys = cmpL (xs.drop k) (ys.drop k) ∧ wr = w)) (fun i _ => xs.length - (intOf i).toNat)
  case atStart => exact ⟨0, Nat.zero_le _, Nat.zero_le _, rfl, ⟨by simp, rfl⟩⟩
  case round =>
    obtain ⟨k, hk, hk2, rfl, HR⟩ := hrel
    obtain ⟨hcm, rfl⟩ := HR.out
    have HC := Aside0.mk hcm
    clear hcm HR
    by_cases hlt : k < xs.length
    · obtain ⟨ad, rfl, hc⟩ := C_int_at HX.out k hlt
      have hdx : xs.drop k = xs.getD k 0 :: xs.drop (k + 1) := by
        rw [List.drop_eq_getElem_cons hlt]; simp [List.getD_eq_getElem?_getD, hlt]
      have HDX := Aside0.mk hdx
      clear hdx
      generalize xs.getD k 0 = x at hc HDX
      by_cases hly : k < ys.length
      · obtain ⟨ad2, rfl, hc2⟩ := C_int_at HY.out k hly
        have hdy : ys.drop k = ys.getD k 0 :: ys.drop (k + 1) := by
          rw [List.drop_eq_getElem_cons hly]; simp [List.getD_eq_getElem?_getD, hly]
        have HDY := Aside0.mk hdy
        clear hdy
        generalize ys.getD k 0 = y at hc2 HDY
        have hcc := Tryz.cmp_Compare_int x y wr
        have hge : decide ((ys.length : Int) ≤ (k : Int)) = false := by simp; omega
        by_cases h1 : x < y
        · have hv : Lib.compareInt x y = -1 := by unfold Lib.compareInt; rw [if_pos h1]
          have hres : cmpL xs ys = -1 := by rw [HC.out, HDX.out, HDY.out]; unfold cmpL; rw [if_pos h1]
          rw [hv] at hcc
          have HRES := Aside0.mk hres
          have HCC := Aside0.mk hcc
          clear hcc hv hres
          go_wp2_with (go_at_call 78; refine HCC.out.mono ?_; rintro e w' ⟨rfl, rfl⟩)
          go_ret
          exact ⟨by rw [HRES.out]; rfl, rfl⟩
        · by_cases h2 : x > y
          · have hv : Lib.compareInt x y = 1 := by unfold Lib.compareInt; rw [if_neg h1, if_pos h2]
            have hres : cmpL xs ys = 1 := by rw [HC.out, HDX.out, HDY.out]; unfold cmpL; rw [if_neg h1, if_pos h2]
            rw [hv] at hcc
            have HRES := Aside0.mk hres
            have HCC := Aside0.mk hcc
            clear hcc hv hres
            go_wp2_with (go_at_call 78; refine HCC.out.mono ?_; rintro e w' ⟨rfl, rfl⟩)
            go_ret
            exact ⟨by rw [HRES.out]; rfl, rfl⟩
          · have hv : Lib.compareInt x y = 0 := by unfold Lib.compareInt; rw [if_neg h1, if_neg h2]
            have hres : cmpL xs ys = cmpL (xs.drop (k + 1)) (ys.drop (k + 1)) := by
              rw [HC.out, HDX.out, HDY.out]
              conv => lhs; unfold cmpL
              rw [if_neg h1, if_neg h2]
            rw [hv] at hcc
            have HRS := Aside0.mk hres
            have HCC := Aside0.mk hcc
            clear hcc hv hres
            go_wp2_with (go_at_call 78; refine HCC.out.mono ?_; rintro e w' ⟨rfl, rfl⟩)
            go_roundw
            case rel => exact ⟨k + 1, by omega, by omega, by go_num, ⟨HRS.out, trivial⟩⟩
            case measure => simp [intOf]; omega
      · have hky : k = ys.length := by omega
        have hres : cmpL xs ys = 1 := by rw [HC.out, HDX.out, List.drop_eq_nil_of_le (show ys.length ≤ k by omega)]; rfl
        have HRES := Aside0.mk hres
        have hge : (ys.length : Int) ≤ (k : Int) := by omega
        clear hres hky
        go_wp2
        go_ret
        exact ⟨by rw [HRES.out]; rfl, rfl⟩
    · have hkx : k = xs.length := by omega
      by_cases hly : k < ys.length
      · have hres : cmpL xs ys = -1 := by
          rw [HC.out, List.drop_eq_nil_of_le (show xs.length ≤ k by omega), List.drop_eq_getElem_cons hly]; rfl
        have HRES := Aside0.mk hres
        have hlq : decide ((xs.length : Int) < (ys.length : Int)) = true := by simp; omega
        clear hres
        go_wp2
        go_ret
        exact ⟨by rw [HRES.out]; rfl, rfl⟩
      · have hres : cmpL xs ys = 0 := by
          rw [HC.out, List.drop_eq_nil_of_le (show xs.length ≤ k by omega), List.drop_eq_nil_of_le (show ys.length ≤ k by omega)]; rfl
        have HRES := Aside0.mk hres
        have hlq : decide ((xs.length : Int) < (ys.length : Int)) = false := by simp; omega
        clear hres
        go_wp2
        go_ret
        exact ⟨by rw [HRES.out]; rfl, rfl⟩
end Go.Proofs.YtolbfjjgdheikaaGreat.R

/- slices.Sort of ints; slices.SortFunc of lists. -/
namespace Go.Proofs.YtolbfjjgdheikaaGreat.R
open Go.RowKit Go.Lab Go.Maps Go.Proofs.YtolbfjjgdheikaaGreatW.PrintWords Go.Proofs.YtolbfjjgdheikaaGreatW.PrintLast Go.Proofs.YtolbfjjgdheikaaGreatW.PrintMore PL

open Go.Sort in
theorem sortI_own (base : Nat) (v : Value) (xs : List Int) (w : World) (h : w.ownsRow base 3 1 v xs.length (nums .i64 xs)) (hb : xs.length ≤ 100000) :
    Calls Tryz.prog 38 #[v] w fun e w' => e = .returned (.tuple #[]) ∧ w'.ownsRow base 3 1 v xs.length (nums .i64 (srt xs)) ∧ w.grownBy w' v.ownBlock := by
  by_cases h0 : xs.length = 0
  · have hx : xs = [] := List.eq_nil_of_length_eq_zero h0
    subst hx
    obtain ⟨A, c, rfl⟩ := own_slice h
    refine (Tryz.slices_Sort_int_none A c w).mono ?_
    rintro e w' ⟨rfl, rfl⟩
    exact ⟨rfl, (by simpa [srt] using h), ⟨rfl, rfl, rfl, Nat.le_refl _, fun _ _ _ => rfl⟩⟩
  · rcases h.2 with ⟨_, hn⟩ | ⟨g, cap, cur, rfl, hb1, hg, hc1, hc2, hcs, htk⟩
    · exact absurd hn h0
    · have hH : Holds (Value.int .i64) w g 0 xs.toArray := by
        intro j hj
        have hj' : j < xs.length := by simpa using hj
        refine ⟨?_, blk_frozen hg _⟩
        rw [Nat.zero_add, blk_cell hg]
        have h1 : (cur.toList.take (xs.length * 1))[j]? = some (.int .i64 xs[j]) := by rw [htk]; simp [nums, hj']
        rw [List.getElem?_take] at h1
        split at h1
        · rw [getElem!_pos xs.toArray j (by simpa using hj)]
          simpa using h1
        · cases h1
      refine (Tryz.slices_Sort_int g 0 cap xs w hH (blk_lt hg) (by omega)).mono ?_
      rintro e w' ⟨rfl, n, os, rfl⟩
      have hgl : g < w.heap.size := blk_lt hg
      have hh : (grow (putRow (Value.int .i64) (Go.Sort.ahead w n) g 0 (xs.mergeSort fun x y => decide (x ≤ y)).toArray) os).heap[g]? = some (.cells (putCells (Value.int .i64) 0 (srt xs).toArray cur) 3 (0, 0)) := by
        have hsz : (putRow (Value.int .i64) (Go.Sort.ahead w n) g 0 (xs.mergeSort fun x y => decide (x ≤ y)).toArray).heap.size = w.heap.size := by simp [putRow, mapBlock, Go.Sort.ahead]
        rw [heap_grow_old _ _ (by rw [hsz]; exact hgl)]
        unfold putRow mapBlock
        have : (Go.Sort.ahead w n).heap = w.heap := rfl
        simp only [this, Array.getElem?_modify, if_true]
        rw [hg]
        rfl
      have hsl : (putCells (Value.int .i64) 0 (srt xs).toArray cur).size = cur.size := by simp [putCells]
      refine ⟨rfl, ⟨by rw [nums_length, srt_length]; omega, .inr ⟨g, cap, _, rfl, hb1, hh, hc1, hc2, by rw [hsl]; exact hcs, ?_⟩⟩, ⟨rfl, rfl, rfl, ?_, fun k hk hne => ?_⟩⟩
      · rw [Nat.mul_one]
        exact putCells_take cur xs.length (srt xs) (srt_length xs) (by rw [hcs]; omega)
      · simp [grow, putRow, mapBlock, Go.Sort.ahead]
      · have hkg : k ≠ g := fun e => hne (by simp [Value.ownBlock, e])
        have hsz : (putRow (Value.int .i64) (Go.Sort.ahead w n) g 0 (xs.mergeSort fun x y => decide (x ≤ y)).toArray).heap.size = w.heap.size := by simp [putRow, mapBlock, Go.Sort.ahead]
        rw [heap_grow_old _ _ (by rw [hsz]; exact hk)]
        unfold putRow mapBlock
        have : (Go.Sort.ahead w n).heap = w.heap := rfl
        simp only [this, Array.getElem?_modify]
        rw [if_neg (Ne.symm hkg)]


open Go.Sort in
theorem putCells_takeE {α : Type} [Inhabited α] (enc : α → Value) (cur : Array Value) (n : Nat) (ys : List α) (hl : ys.length = n) (hn : n ≤ cur.size) : (putCells enc 0 ys.toArray cur).toList.take n = ys.map enc := by
  apply List.ext_getElem?
  intro j
  rw [List.getElem?_take]
  by_cases hj : j < n
  · rw [if_pos hj, Array.getElem?_toList]
    unfold putCells
    rw [Array.getElem?_mapIdx, Array.getElem?_eq_getElem (by omega), List.getElem?_map, List.getElem?_eq_getElem (by omega)]
    have : j < ys.toArray.size := by simp; omega
    simp only [Option.map_some, Nat.zero_le, true_and, Nat.zero_add, Nat.sub_zero]
    rw [if_pos this, getElem!_pos ys.toArray j this]
    simp
  · rw [if_neg hj, List.getElem?_eq_none (by rw [List.length_map]; omega)]
theorem lexB_irrefl (a : List Int) : lexB a a = false := by
  cases h : lexB a a with
  | false => rfl
  | true => have := lexB_asymm h; rw [h] at this; exact this
theorem lexB_ntrans {a b c : List Int} (h1 : lexB a b = false) (h2 : lexB b c = false) : lexB a c = false := by
  cases h : lexB a c with
  | false => rfl
  | true =>
    cases h3 : lexB b a with
    | false =>
      have := lexB_total h1 h3
      subst this
      rw [h] at h2; exact h2
    | true =>
      have := lexB_trans h3 h
      rw [this] at h2; exact h2

open Go.Sort in
theorem sortWorld_heap {α : Type} [Inhabited α] (enc : α → Value) (w : World) (g m : Nat) (dk : Array α) (os : Array Obj) (k : Nat) (hk : k < w.heap.size) (hne : k ≠ g) : (sortWorld enc w g 0 m dk os).heap[k]? = w.heap[k]? := by
  unfold sortWorld
  have hsz : (putRow enc (Go.Sort.ahead w m) g 0 dk).heap.size = w.heap.size := by simp [putRow, mapBlock, Go.Sort.ahead]
  rw [heap_grow_old _ _ (by rw [hsz]; exact hk)]
  unfold putRow mapBlock
  have : (Go.Sort.ahead w m).heap = w.heap := rfl
  simp only [this, Array.getElem?_modify]
  rw [if_neg (Ne.symm hne)]

open Go.Sort in
set_option maxHeartbeats 2000000 in
theorem sortLists_any (lo : Nat) (lv : Value) (rows : List Value) (qs : List (List Int)) (w : World) (h : RwsV kpI lo w lv rows qs) (hnd : qs.Nodup) (hn : qs.length ≤ 100000) (hl : ∀ q ∈ qs, q.length ≤ 100000) :
    Calls Tryz.prog 53 #[lv, .func (.func 54) #[] #[]] w fun e w' => e = .returned (.tuple #[]) ∧ ∃ rows' qs', qs'.Perm qs ∧ (qs'.Pairwise fun x y => lexB x y = true) ∧ RwsV kpI lo w' lv rows' qs' ∧ w.grownBy w' lv.ownBlock := by
  have hrl : rows.length = qs.length := h.len
  by_cases h0 : rows.length = 0
  · have hrows : rows = [] := List.eq_nil_of_length_eq_zero h0
    have hq : qs = [] := List.eq_nil_of_length_eq_zero (by omega)
    subst hrows hq
    obtain ⟨A, c, rfl⟩ := own_slice h.own
    refine (Tryz.slices_SortFunc_none (α := Nat) A c _ w).mono ?_
    rintro e w' ⟨rfl, rfl⟩
    exact ⟨rfl, [], [], List.Perm.refl _, List.Pairwise.nil, h, ⟨rfl, rfl, rfl, Nat.le_refl _, fun _ _ _ => rfl⟩⟩
  · rcases h.own.2 with ⟨_, hn0⟩ | ⟨g, cap, cur, rfl, hb1, hg, hc1, hc2, hcs, htk⟩
    · exact absurd hn0 h0
    · haveI : Inhabited (Fin rows.length) := ⟨⟨0, by omega⟩⟩
      obtain ⟨enc, henc⟩ : ∃ enc : Fin rows.length → Value, ∀ i, enc i = rows[i.1] := ⟨fun i => rows[i.1], fun _ => rfl⟩
      obtain ⟨key, hkey⟩ : ∃ key : Fin rows.length → List Int, ∀ i, key i = qs.getD i.1 [] := ⟨fun i => qs.getD i.1 [], fun _ => rfl⟩
      have hgl : g < w.heap.size := blk_lt hg
      have heach : ∀ i : Fin rows.length, w.ownsRow lo 3 1 (enc i) (key i).length (nums .i64 (key i)) := fun i => by
        rw [henc, hkey]; exact h.each i.1 i.2
      have hkl : ∀ i, (key i).length ≤ 100000 := fun i => by
        rw [hkey, List.getD_eq_getElem?_getD, List.getElem?_eq_getElem (by have := i.2; omega)]
        exact hl _ (List.getElem_mem _)
      have hng : ∀ (i : Fin rows.length) k, (enc i).ownBlock = some k → k < w.heap.size ∧ k ≠ g := fun i k hk => by
        obtain ⟨c, hc⟩ := own_block (heach i) hk
        exact ⟨blk_lt hc, fun e => by subst e; exact absurd (blk_type hc hg) (by decide)⟩
      have hinj : ∀ i j, key i = key j → i = j := fun i j e => by
        rw [hkey, hkey, List.getD_eq_getElem?_getD, List.getD_eq_getElem?_getD, List.getElem?_eq_getElem (by have := i.2; omega), List.getElem?_eq_getElem (by have := j.2; omega)] at e
        have hp := List.pairwise_iff_getElem.1 hnd
        rcases Nat.lt_trichotomy i.1 j.1 with h1 | h1 | h1
        · exact absurd e (hp i.1 j.1 _ _ h1)
        · exact Fin.ext h1
        · exact absurd e.symm (hp j.1 i.1 _ _ h1)
      obtain ⟨d, hd, hdl⟩ : ∃ d : Array (Fin rows.length), d.size = rows.length ∧ d.toList = List.ofFn (fun i : Fin rows.length => i) := ⟨Array.ofFn (fun i => i), by simp, by simp⟩
      have hdg : ∀ j (hj : j < d.size), d[j]! = ⟨j, by omega⟩ := fun j hj => by
        rw [getElem!_pos d j hj, ← Array.getElem_toList, List.getElem_of_eq hdl (by simpa using hj), List.getElem_ofFn]
      have hlt : ∀ i j, ltOf (fun i j => cmpL (key i) (key j)) i j = lexB (key i) (key j) := fun i j => cmpL_lt _ _
      have hH : Holds enc w g 0 d := by
        intro j hj
        refine ⟨?_, blk_frozen hg _⟩
        rw [Nat.zero_add, blk_cell hg, hdg j hj, henc]
        have hj2 : j < rows.length := by omega
        have h1 : (cur.toList.take (rows.length * 1))[j]? = some rows[j] := by rw [htk]; simp [hj2]
        rw [List.getElem?_take] at h1
        split at h1
        · simpa using h1
        · cases h1
      have hsw : SWO (ltOf fun i j => cmpL (key i) (key j)) :=
        ⟨fun x => by rw [hlt]; exact lexB_irrefl _, fun x y z h1 h2 => by rw [hlt] at *; exact lexB_trans h1 h2, fun x y z h1 h2 => by rw [hlt] at *; exact lexB_ntrans h1 h2⟩
      have eg : ∀ args w, (callFunc 54 args).run Tryz.prog w = .ok (.enter 54 args) w := enters_of Tryz.func54 (by kernel_rfl) rfl
      have hcmp : CmpReads Tryz.prog 54 #[] enc (fun i j => cmpL (key i) (key j)) g 0 d.size w := by
        intro m os dk hdk x y
        have hW := fun k hk hne => sortWorld_heap enc w g m dk os k hk hne
        generalize sortWorld enc w g 0 m dk os = W at hW
        have ox := own_of_heap (heach x) (w1 := W) fun k hk => hW k (hng x k hk).1 (hng x k hk).2
        have oy := own_of_heap (heach y) (w1 := W) fun k hk => hW k (hng y k hk).1 (hng y k hk).2
        obtain ⟨A1, c1, e1, hr1⟩ := own_reads ox
        obtain ⟨A2, c2, e2, hr2⟩ := own_reads oy
        have hargs : (#[enc x, enc y] ++ (#[] : Array Value)) = #[.slice A1 (key x).length c1, .slice A2 (key y).length c2] := by rw [e1, e2]; rfl
        rw [hargs]
        refine (compare_any A1 A2 c1 c2 (key x) (key y) W (Kd.C_of_reads hr1) (Kd.C_of_reads hr2) (hkl x) (hkl y)).mono ?_
        rintro e w' ⟨rfl, rfl⟩
        exact ⟨rfl, 0, rfl⟩
      have hone : OneCell enc := fun i => by
        obtain ⟨A, c, e⟩ := own_slice (heach i)
        rw [e]; rfl
      have hcon := Tryz.slices_SortFunc_total enc hone (fun i j => cmpL (key i) (key j)) hsw 54 #[] g 0 cap d w eg hcmp.lays hH hgl (by omega) (fun x y h1 h2 => hinj x y (by rw [hlt] at h1 h2; exact lexB_total h1 h2))
      rw [hd] at hcon
      refine hcon.mono ?_
      rintro e w' ⟨rfl, n, os, rfl⟩
      obtain ⟨m, hm⟩ : ∃ m, (d.toList.mergeSort fun x y => !(ltOf (fun i j => cmpL (key i) (key j))) y x) = m := ⟨_, rfl⟩
      have hmp : m.Perm d.toList := hm ▸ List.mergeSort_perm _ _
      have hml : m.length = rows.length := by rw [hmp.length_eq]; simp [hd]
      have hms : m.Pairwise fun x y => lexB (key y) (key x) = false := by
        have h1 := List.pairwise_mergeSort (le := fun x y => !(ltOf (fun i j => cmpL (key i) (key j))) y x)
          (fun a b c h1 h2 => by rw [hlt] at *; simp at *; exact lexB_ntrans h2 h1)
          (fun a b => by
            rw [hlt, hlt]
            cases h4 : lexB (key b) (key a) with
            | false => rfl
            | true => rw [lexB_asymm h4]; rfl) d.toList
        rw [hm] at h1
        exact h1.imp fun h => by rw [hlt] at h; simpa using h
      have hqk : d.toList.map key = qs := by
        rw [hdl]
        apply List.ext_getElem
        · simp; omega
        · intro i h1 h2
          rw [List.getElem_map, List.getElem_ofFn, hkey, List.getD_eq_getElem?_getD, List.getElem?_eq_getElem h2]; rfl
      have hqp : (m.map key).Perm qs := by rw [← hqk]; exact hmp.map key
      have hqn : (m.map key).Nodup := hqp.nodup_iff.2 hnd
      have hlr : (m.map enc).length = rows.length := by rw [List.length_map]; exact hml
      rw [hm]
      have hh : (sortWorld enc w g 0 n m.toArray os).heap[g]? = some (.cells (putCells enc 0 m.toArray cur) 22 (0, 0)) := by
        unfold sortWorld
        have hsz : (putRow enc (Go.Sort.ahead w n) g 0 m.toArray).heap.size = w.heap.size := by simp [putRow, mapBlock, Go.Sort.ahead]
        rw [heap_grow_old _ _ (by rw [hsz]; exact hgl)]
        unfold putRow mapBlock
        have : (Go.Sort.ahead w n).heap = w.heap := rfl
        simp only [this, Array.getElem?_modify, if_true]
        rw [hg]
        rfl
      have hsl : (putCells enc 0 m.toArray cur).size = cur.size := by simp [putCells]
      refine ⟨rfl, m.map enc, m.map key, hqp, ?_, ⟨?_, by rw [hlr, List.length_map, hml], fun i hi => ?_⟩, ⟨rfl, rfl, rfl, ?_, fun k hk hne => ?_⟩⟩
      · have h1 : (m.map key).Pairwise fun x y => lexB y x = false := List.pairwise_map.2 hms
        refine (h1.and hqn).imp ?_
        rintro x y ⟨h1, h3⟩
        cases h4 : lexB x y with
        | true => rfl
        | false => exact absurd (lexB_total h4 h1) h3
      · refine ⟨by rw [hlr, Nat.mul_one], .inr ⟨g, cap, _, by rw [hlr], hb1, hh, by rw [hlr]; exact hc1, hc2, by rw [hsl]; exact hcs, ?_⟩⟩
        rw [Nat.mul_one, hlr]
        exact putCells_takeE enc cur rows.length m hml (by rw [hcs]; omega)
      · have hi2 : i < m.length := by simpa using hi
        have e1 : (m.map enc)[i] = enc m[i] := by simp
        have e2 : (m.map key).getD i [] = key m[i] := by rw [List.getD_eq_getElem?_getD]; simp [hi2]
        rw [e1, e2]
        exact own_of_heap (heach m[i]) fun k hk => sortWorld_heap enc w g n m.toArray os k (hng _ k hk).1 (hng _ k hk).2
      · simp [sortWorld, grow, putRow, mapBlock, Go.Sort.ahead]
      · exact sortWorld_heap enc w g n m.toArray os k hk (fun e => hne (by simp [Value.ownBlock, e]))
end Go.Proofs.YtolbfjjgdheikaaGreat.R

/- A graph that was read, by its arcs. -/
namespace Go.Proofs.YtolbfjjgdheikaaGreat.R
open Go.RowKit Go.Lab Go.Maps Go.Proofs.YtolbfjjgdheikaaGreatW.PrintWords Go.Proofs.YtolbfjjgdheikaaGreatW.PrintLast Go.Proofs.YtolbfjjgdheikaaGreatW.PrintMore PL

theorem snoc_ind {α : Type} {P : List α → Prop} (l : List α) (h0 : P []) (h1 : ∀ l a, P l → P (l ++ [a])) : P l := by
  rw [← List.reverse_reverse l]
  generalize l.reverse = m
  induction m with
  | nil => exact h0
  | cons a m ih => rw [List.reverse_cons]; exact h1 _ _ ih
theorem arcW_mem {es : List S34} {u v n : Int} (h : arcW es u v = some n) : ∃ e ∈ es, e.f0 = u ∧ e.f1 = v ∧ e.f2 = n := by
  revert h
  refine snoc_ind (P := fun es => arcW es u v = some n → ∃ e ∈ es, e.f0 = u ∧ e.f1 = v ∧ e.f2 = n) es (fun h => by cases h) fun es e ih h => ?_
  rw [arcW_snoc] at h
  split at h
  · rename_i hc
    injection h with h
    exact ⟨e, by simp, hc.1, hc.2, h⟩
  · obtain ⟨e', h1, h2⟩ := ih h
    exact ⟨e', by simp [h1], h2⟩
theorem arcW_some {es : List S34} {u v : Int} : (arcW es u v).isSome = true ↔ ∃ e ∈ es, e.f0 = u ∧ e.f1 = v := by
  constructor
  · intro h
    obtain ⟨n, hn⟩ := Option.isSome_iff_exists.1 h
    obtain ⟨e, h1, h2, h3, _⟩ := arcW_mem hn
    exact ⟨e, h1, h2, h3⟩
  · rintro ⟨e, h1, h2, h3⟩
    revert h1
    refine snoc_ind (P := fun es => e ∈ es → (arcW es u v).isSome = true) es (fun h => by cases h) fun es e' ih h1 => ?_
    rw [arcW_snoc]
    split
    · rfl
    · rename_i hc
      rw [List.mem_append, List.mem_singleton] at h1
      rcases h1 with h1 | rfl
      · exact ih h1
      · exact absurd ⟨h2, h3⟩ hc
theorem pl0_adj (zs : List Int) : Adj zs [] (pl0 (srt zs)) := by
  have hr : ∀ i, (List.replicate (srt zs).length ([] : List (Int × Nat))).getD i [] = [] := by
    intro i
    rw [List.getD_eq_getElem?_getD, List.getElem?_replicate]; split <;> rfl
  refine ⟨rfl, by simp [pl0], by simp [pl0], ?_, ?_⟩
  all_goals
    intro i hi a
    unfold pl0
    rw [hr]
    constructor
    · intro h; cases h
    · rintro ⟨k, n, _, _, hn⟩; cases hn
theorem plOf_adj (zs : List Int) (hz : zs.length ≤ 1000) (h : (srt zs).Pairwise (· < ·)) (es : List S34) (he : es.all (goodE zs) = true) : Adj zs es (plOf true zs es) := by
  revert he
  refine snoc_ind (P := fun es => es.all (goodE zs) = true → Adj zs es (plOf true zs es)) es (fun _ => pl0_adj zs) fun es e ih he => ?_
  rw [List.all_append, Bool.and_eq_true] at he
  have he2 : goodE zs e = true := by simpa using he.2
  rw [plOf_snoc]
  unfold goodE at he2
  simp only [Bool.and_eq_true, decide_eq_true_eq] at he2
  exact (ih he.1).step (plOf_good true zs hz h es he.1) h e ((mem_srt _ _).2 he2.1.1.1.1) ((mem_srt _ _).2 he2.1.1.1.2)
theorem dbl_good {zs : List Int} (d : Bool) {es : List S34} (h : es.all (goodE zs) = true) : (dbl d es).all (goodE zs) = true := by
  unfold dbl
  split
  · exact h
  · rw [List.all_eq_true] at h ⊢
    intro e he
    obtain ⟨a, ha, hm⟩ := List.mem_flatMap.1 he
    have hg := h a ha
    rcases List.mem_cons.1 hm with rfl | hm
    · exact hg
    · rw [List.mem_singleton] at hm
      subst hm
      unfold goodE at hg ⊢
      simp only [Bool.and_eq_true, decide_eq_true_eq, Bool.not_eq_true', decide_eq_false_iff_not] at hg ⊢
      obtain ⟨⟨⟨⟨h1, h2⟩, h3⟩, h4⟩, h5⟩ := hg
      exact ⟨⟨⟨⟨h2, h1⟩, fun e => h3 e.symm⟩, h4⟩, h5⟩
theorem plOf_dbl (d : Bool) (zs : List Int) (es : List S34) : plOf d zs es = plOf true zs (dbl d es) := by
  cases d with
  | true => rfl
  | false =>
    unfold plOf dbl
    rw [if_neg (by decide)]
    suffices h : ∀ (es : List S34) (p : Pl), es.foldl (layE false) p = (es.flatMap fun e => [e, ⟨e.f1, e.f0, e.f2⟩]).foldl (layE true) p from h es _
    intro es
    induction es with
    | nil => intro p; rfl
    | cons e es ih =>
      intro p
      rw [List.foldl_cons, List.flatMap_cons, List.foldl_append, ih]
      congr 1
theorem GrOk.mk' {w w' : World} {d : Bool} {zs : List Int} {es : List S34} {base bp : Nat} (hn : zs.length ≤ 1000) (hro : readOk zs es = true) (hpl : PlOk w' base bp (plOf d zs es)) : GrOk w' base bp zs (dbl d es) (plOf d zs es) := by
  unfold readOk at hro
  simp only [Bool.and_eq_true, decide_eq_true_eq] at hro
  refine ⟨hpl, plOf_good d zs hn hro.1 es hro.2, ?_, hro.1, hn⟩
  rw [plOf_dbl]
  exact plOf_adj zs hn hro.1 _ (dbl_good d hro.2)

/-- the arcs of an undirected graph go both ways -/
theorem dbl_sym (es : List S34) (u v : Int) : (arcW (dbl false es) u v).isSome = true → (arcW (dbl false es) v u).isSome = true := by
  rw [arcW_some, arcW_some]
  rintro ⟨e, he, h1, h2⟩
  unfold dbl at he ⊢
  rw [if_neg (by decide)] at he ⊢
  obtain ⟨a, ha, hm⟩ := List.mem_flatMap.1 he
  rcases List.mem_cons.1 hm with rfl | hm
  · exact ⟨⟨e.f1, e.f0, e.f2⟩, List.mem_flatMap.2 ⟨e, ha, by simp⟩, h2, h1⟩
  · rw [List.mem_singleton] at hm
    subst hm
    exact ⟨a, List.mem_flatMap.2 ⟨a, ha, by simp⟩, h2, h1⟩
theorem outN_mem' {zs : List Int} {es : List S34} {u v : Int} (h : v ∈ outN zs es u) : v ∈ zs ∧ (arcW es u v).isSome = true := by
  unfold outN at h
  obtain ⟨h1, h2⟩ := List.mem_filter.1 h
  exact ⟨(mem_srt _ _).1 h1, h2⟩
theorem outN_sym {zs : List Int} {es : List S34} {u v : Int} (hu : u ∈ zs) (h : v ∈ outN zs (dbl false es) u) : u ∈ outN zs (dbl false es) v := by
  have h1 := outN_mem' h
  unfold outN
  exact List.mem_filter.2 ⟨(mem_srt _ _).2 hu, dbl_sym es u v h1.2⟩
end Go.Proofs.YtolbfjjgdheikaaGreat.R

/- impl.lists, impl.Components. -/
namespace Go.Proofs.YtolbfjjgdheikaaGreat.R
open Go.RowKit Go.Lab Go.Maps Go.Proofs.YtolbfjjgdheikaaGreatW.PrintWords Go.Proofs.YtolbfjjgdheikaaGreatW.PrintLast Go.Proofs.YtolbfjjgdheikaaGreatW.PrintMore PL

theorem RwsV.snoc {K : Kp} {lo : Nat} {w : World} {lv : Value} {rows : List Value} {ps : List (List Int)} {v : Value} {pt : List Int} (h2 : w.ownsRow lo K.T 1 lv (rows ++ [v]).length (rows ++ [v])) (hl : rows.length = ps.length)
    (h3 : ∀ (i : Nat) (h : i < rows.length), w.ownsRow lo K.E 1 rows[i] (ps.getD i []).length (K.val (ps.getD i []))) (h4 : w.ownsRow lo K.E 1 v pt.length (K.val pt)) : RwsV K lo w lv (rows ++ [v]) (ps ++ [pt]) := by
  refine ⟨h2, by simp [hl], fun i hi => ?_⟩
  rw [List.length_append, List.length_singleton] at hi
  by_cases hlt : i < rows.length
  · have e1 : (rows ++ [v])[i]'(by simp; omega) = rows[i] := List.getElem_append_left hlt
    have e2 : (ps ++ [pt]).getD i [] = ps.getD i [] := by
      rw [List.getD_eq_getElem?_getD, List.getD_eq_getElem?_getD, List.getElem?_append_left (by omega)]
    rw [e1, e2]
    exact h3 i hlt
  · have hi2 : i = rows.length := by omega
    subst hi2
    have e1 : (rows ++ [v])[rows.length]'(by simp) = v := by simp
    have e2 : (ps ++ [pt]).getD rows.length [] = pt := by
      rw [hl, List.getD_eq_getElem?_getD]; simp
    rw [e1, e2]
    exact h4

set_option maxHeartbeats 4000000 in
set_option maxRecDepth 100000 in
theorem lists_any (lo : Nat) (lv : Value) (rows : List Value) (ps : List (List Int)) (w : World) (h : RwsV kpN lo w lv rows ps) (hnd : (ps.map srt).Nodup) (hn : ps.length ≤ 100000) (hl : ∀ q ∈ ps, q.length ≤ 100000) :
    Calls Tryz.prog 28 #[lv] w fun e w' => ∃ v rows' qs', e = .returned v ∧ qs'.Perm (ps.map srt) ∧ (qs'.Pairwise fun x y => lexB x y = true) ∧ RwsV kpI w.heap.size w' v rows' qs' ∧ Below w.heap.size w w' := by
  obtain ⟨A, c, rfl⟩ := own_slice h.own
  have HRL := Aside0.mk (show rows.length = ps.length from h.len)
  have hnr : rows.length ≤ 100000 := by rw [HRL.out]; exact hn
  have HN := Aside0.mk hn
  clear hn
  have HH := Aside0.mk h
  have HND := Aside0.mk hnd
  have HL := Aside0.mk hl
  obtain ⟨i0, hi, hz0, hz1, hz2⟩ := info_parts Tryz.info22
  have HI := Aside0.mk (And.intro hi (And.intro hz0 (And.intro hz1 hz2)))
  clear h hnd hl hi hz0 hz1 hz2
  go_enter Tryz.func28, Tryz.ntmps28
  go_wp2
  go_loopw [3, 9] (fun v i wr => ∃ k : Nat, k ≤ rows.length ∧ i = .int .i64 k ∧ Aside0 (∃ rows', RwsV kpI w.heap.size wr v rows' ((ps.take k).map srt) ∧ Below w.heap.size w wr)) (fun _ i _ => rows.length - (intOf i).toNat)
  case atStart => exact ⟨0, Nat.zero_le _, rfl, ⟨[], ⟨World.ownsRow_nil _ _ _ _, rfl, fun i hi => absurd hi (Nat.not_lt_zero _)⟩, Below.refl _ _⟩⟩
  case round =>
    obtain ⟨k, hk, rfl, HR0⟩ := hrel
    obtain ⟨rows', hR, hB⟩ := HR0.out
    have hlen : rows'.length = k := by rw [hR.len, List.length_map, List.length_take, ← HRL.out]; omega
    obtain ⟨V, C, hV⟩ := own_slice hR.own
    rw [hlen] at hV
    subst hV
    have HR := Aside0.mk hR
    have HRO := Aside0.mk (show wr.ownsRow w.heap.size 22 1 (.slice V k C) k rows' by have h9 : wr.ownsRow w.heap.size 22 1 (.slice V k C) rows'.length rows' := hR.own; rw [hlen] at h9; exact h9)
    have HB := Aside0.mk hB
    have hbw := hB.size
    have HLEN := Aside0.mk hlen
    clear hlen
    by_cases hlt : k < rows.length
    · obtain ⟨g, c', he, hc', hcell, hcur⟩ := own_cells HH.out.own (by omega)
      obtain ⟨cur, hcur⟩ := hcur
      simp only [Value.slice.injEq] at he
      obtain ⟨rfl, _, rfl⟩ := he
      have hgl := blk_lt hcur
      have hce : wr.cell? ⟨g, k, none⟩ = some rows[k] := by
        rw [World.cell?_of_block (hB.block g hgl)]
        exact hcell k _ (by simp [hlt])
      have hrow := HH.out.each k hlt
      have hpk : ps.getD k [] ∈ ps := by
        rw [List.getD_eq_getElem?_getD, List.getElem?_eq_getElem (by rw [← HRL.out]; exact hlt)]; exact List.getElem_mem _
      have hpt : (ps.take (k + 1)).map srt = (ps.take k).map srt ++ [srt (ps.getD k [])] := by
        rw [List.take_succ_eq_append_getElem (by rw [← HRL.out]; exact hlt), List.map_append, List.getD_eq_getElem?_getD, List.getElem?_eq_getElem (by rw [← HRL.out]; exact hlt)]; rfl
      have HPT := Aside0.mk hpt
      have hpl := HL.out _ hpk
      have hrow2 : wr.ownsRow lo 72 1 rows[k] (ps.getD k []).length (nodeVs (ps.getD k [])) := own_of_heap hrow fun q hq => hB.block q (by obtain ⟨cc, hcc⟩ := own_block hrow hq; exact blk_lt hcc)
      obtain ⟨A2, c2, hrk⟩ := own_slice hrow2
      rw [hrk] at hce hrow2
      have HROW := Aside0.mk hrow2
      clear hpt hpk hrow hrow2 hrk hcell hcur hR hB HR0
      obtain ⟨q, hq⟩ : ∃ q, ps.getD k [] = q := ⟨_, rfl⟩
      rw [hq] at HPT HROW hpl hce
      clear hq
      have hno : ∀ u : Value, w.heap.size ≤ w.heap.size := fun _ => Nat.le_refl _
      go_wp2_with (first
        | (go_at_call 37; refine (numbers_any lo _ q _ HROW.out hpl).mono ?_; rintro e w1 ⟨v1, rfl, ho1, hb1⟩; obtain ⟨B1, d1, rfl⟩ := own_slice ho1; have H1 := Aside0.mk (And.intro ho1 hb1); clear ho1 hb1)
        | (go_at_call 38; refine (sortI_own wr.heap.size _ q _ H1.out.1 hpl).mono ?_; rintro e w2 ⟨rfl, ho2, hg2⟩; have H2 := Aside0.mk (And.intro ho2 hg2); have hz2 : wr.heap.size ≤ w2.heap.size := Nat.le_trans H1.out.2.size hg2.size; have HO2 := Aside0.mk (show ∀ k, k < wr.heap.size → w2.heap[k]? = wr.heap[k]? from fun k hk => (hg2.block k (Nat.lt_of_lt_of_le hk H1.out.2.size) (fun e => by have := own_base H1.out.1 k e.symm; omega)).trans (H1.out.2.block k hk)); clear ho2 hg2)
        | (at_builtin; refine wpList_append_own_at _ rfl _ _ 29 rfl w.heap.size 22 i0 (.slice none 0 0) 1 24 Tryz.underlying29 HI.out.1 HI.out.2.1 HI.out.2.2.1 HI.out.2.2.2 rfl (by decide) _ k rows' rfl (World.ownsRow.alloc (own_of_heap HRO.out (fun q hq => HO2.out q (by obtain ⟨cc, hcc⟩ := own_block HRO.out hq; exact blk_lt hcc))) _) ⟨w2.heap.size, 0, none⟩ 1 1 [.slice B1 q.length d1] rfl rfl (cell_one_new _ _ _) ?q2 ?q3 ?q4 ?q5 ?_))
      case q2 => intro u hu; simp at hu; subst hu; rfl
      case q3 => unfold maxLen; omega
      case q4 => omega
      case q5 => simp; omega
      intro v' w3 hown hgr _ hat
      obtain ⟨A', c', rfl⟩ := own_slice hown
      have H3 := Aside0.mk (And.intro hown hgr)
      clear hown hgr hat
      go_wp2
      go_roundw
      case rel =>
        obtain ⟨hown, hgr⟩ := H3.out
        have keep : ∀ {u : Value} {n : Nat} {ys : List Value} {b : Nat}, w2.ownsRow b 3 1 u n ys → w3.ownsRow b 3 1 u n ys := fun h => own_of_heap h fun k hk => by
          obtain ⟨c1, hc1⟩ := own_block h hk
          refine (hgr.block k (by have := blk_lt hc1; simp; omega) (fun e => ?_)).trans (Below.heap_alloc _ _ _ (blk_lt hc1))
          obtain ⟨c2, hc2⟩ := own_block HRO.out e.symm
          rw [HO2.out k (blk_lt hc2)] at hc1
          exact absurd (blk_type hc1 hc2) (by decide)
        refine ⟨k + 1, by omega, by go_num, ⟨rows' ++ [.slice B1 q.length d1], ?_, ?_⟩⟩
        · rw [HPT.out]
          refine RwsV.snoc (by rw [List.length_append, HLEN.out]; exact hown) HR.out.len (fun i hi => ?_) ?_
          · exact keep (own_of_heap (HR.out.each i hi) (fun q hq => HO2.out q (by obtain ⟨cc, hcc⟩ := own_block (HR.out.each i hi) hq; exact blk_lt hcc)))
          · have h9 := own_weaken (keep H2.out.1) hbw
            show w3.ownsRow w.heap.size 3 1 _ (srt q).length (nums .i64 (srt q))
            rw [srt_length]
            exact h9
        · exact ((((HB.out.trans (H1.out.2.mono hbw)).grown H2.out.2 (Nat.le_trans hbw H1.out.2.size) (fun q hq => Nat.le_trans hbw (own_base H1.out.1 q hq))).alloc (by omega) _).grown hgr (by simp; omega) (fun q hq => own_base HR.out.own q hq))
      case measure => simp [intOf]; omega
    · have hk' : k = rows.length := by omega
      have htk : (ps.take k).map srt = ps.map srt := by rw [List.take_of_length_le (by rw [← HRL.out]; omega)]
      rw [htk] at hR
      have HR := Aside0.mk hR
      clear hR htk hk'
      go_wp2_with (go_at_call 53; refine (sortLists_any w.heap.size _ rows' (ps.map srt) _ HR.out HND.out (by rw [List.length_map]; exact HN.out) (fun q hq => by obtain ⟨p, hp, rfl⟩ := List.mem_map.1 hq; rw [srt_length]; exact HL.out p hp)).mono ?_; rintro e w1 ⟨rfl, rows2, qs2, a1, a2, a3, a4⟩; have HS := Aside0.mk (And.intro a1 (And.intro a2 (And.intro a3 a4))); clear a1 a2 a3 a4)
      go_ret
      refine ⟨.slice V k C, rows2, qs2, rfl, HS.out.1, HS.out.2.1, HS.out.2.2.1, ?_⟩
      exact (HB.out.grown HS.out.2.2.2 hbw (fun q hq => own_base HRO.out q hq))
end Go.Proofs.YtolbfjjgdheikaaGreat.R
