/- Printed by a program (the kit's printer, run over contracts that were proved by hand). -/
import Derived.Test.YtddklkgcodjijaaGreatAG0
import Derived.Test.YtddklkgcodjijaaGreatAG3
set_option linter.unusedVariables false
set_option linter.unusedSimpArgs false
namespace Go.Proofs.YtddklkgcodjijaaGreat.PL
open Go.RowKit Go.Proofs.YtddklkgcodjijaaGreatW.PrintWords Go.Proofs.YtddklkgcodjijaaGreatW.PrintLast Go.Proofs.YtddklkgcodjijaaGreatW.PrintMore
attribute [local go_sem] max2_int min2_int max_two min_two max_three min_three max_four min_four   -- for this text's walks alone

/-! ### spec_hasInt: function 33 -/
def spec_hasInt.l0 : Nat → Int → List Int → Int → Int → Option (Bool)
 | 0, _, _, _, _ => none
 | k + 1, x1, x7, x8, x9 => if x9 < x8 then (if 0 ≤ x9 then (if x9 < (x7.length : Int) then (if (rd x7 x9) = x1 then (some true) else (spec_hasInt.l0 k x1 x7 x8 (wrap64 (x9 + 1)))) else (none)) else (none)) else (some false)
def spec_hasInt.f (k : Nat) (l0 : List Int) (a1 : Int) : Option (Bool) := spec_hasInt.l0 k a1 l0 (l0.length : Int) 0
set_option maxHeartbeats 8000000 in
set_option maxRecDepth 100000 in
theorem spec_hasInt.calls (k : Nat) (A0 : Option Addr) (c0 : Nat) (l0 : List Int) (a1 : Int) (r : Bool) (w : World) (hr0 : Kd.C (Kd.int .i64) w A0 l0.length l0) (hc0 : l0.length ≤ c0) (h : spec_hasInt.f k l0 a1 = some r) :
  Calls Tryz.prog 33 #[.slice A0 l0.length c0, .int .i64 a1] w fun e w' => e = .returned (.bool r) ∧ Drawn0 w w' := by
 have HR0 := Aside0.mk hr0
 have HC0 := Aside0.mk hc0
 clear hr0 hc0
 have H : (spec_hasInt.l0 k a1 l0 (l0.length : Int) 0) = some r := h
 clear h
 have H' := Aside0.mk H
 clear H
 go_enter Tryz.func33, Tryz.ntmps33
 go_wp2
 go_loopg [9] k (fun kq v9 w' => ∃ (x9_1 : Int), v9 = .int .i64 x9_1 ∧ Aside0 (spec_hasInt.l0 kq a1 l0 (l0.length : Int) x9_1 = some r) ∧ Aside0 (kq ≤ k) ∧ Drawn0 w w')
 case atStart => exact ⟨(0), (by first | rfl | (simp; done) | (simp [*]; done)), H', ⟨Nat.le_refl _⟩, by repeat (first | exact Drawn0.refl _ | apply Drawn0.step)⟩
 case round =>
  clear H'
  try clear p2
  obtain ⟨x9_1, rfl, HA, HK1, ⟨m1, rfl⟩⟩ := hrel
  cases gk with
  | zero => exact absurd HA.out (by simp [spec_hasInt.l0])
  | succ k1 =>
   have H := HA.out
   clear HA
   simp only [spec_hasInt.l0] at H
   by_cases c3 : x9_1 < (l0.length : Int)
   ·rw [if_pos c3] at H
    have c3b0 : decide (x9_1 < (l0.length : Int)) = true := decide_eq_true c3
    clear c3
    by_cases c4 : 0 ≤ x9_1
    ·rw [if_pos c4] at H
     have c4b0 : decide (0 ≤ x9_1) = true := decide_eq_true c4
     clear c4
     by_cases c5 : x9_1 < (l0.length : Int)
     ·rw [if_pos c5] at H
      have c5b0 : decide (x9_1 < (l0.length : Int)) = true := decide_eq_true c5
      clear c5
      by_cases c6 : (rd l0 x9_1) = a1
      ·rw [if_pos c6] at H
       have c6b0 : ((rd l0 x9_1) == a1) = true := beq_iff_eq.mpr c6
       have c6b1 : ((rd l0 x9_1) != a1) = false := bne_eq_false_iff_eq.mpr c6
       clear c6
       obtain rfl := Option.some.inj H
       have p146 : 0 ≤ (x9_1 : Int) := of_decide_eq_true (by first | (with_reducible assumption) | assumption)
       have q146 : x9_1 < (l0.length : Int) := of_decide_eq_true (by first | (with_reducible assumption) | assumption)
       obtain ⟨ad146, e146, hx146_0⟩ := Kd.at_int HR0.out x9_1 p146 q146
       cases e146
       replace p146 := eq_true p146
       replace q146 := eq_true q146
       go_wp2
       go_ret
       exact ⟨by first | rfl | (simp; done) | (simp [*]; done), by repeat (first | exact Drawn0.refl _ | apply Drawn0.step)⟩
      ·rw [if_neg c6] at H
       have c6b0 : ((rd l0 x9_1) == a1) = false := beq_eq_false_iff_ne.mpr c6
       have c6b1 : ((rd l0 x9_1) != a1) = true := bne_iff_ne.mpr c6
       have H' := Aside0.mk H
       clear H
       have p146 : 0 ≤ (x9_1 : Int) := of_decide_eq_true (by first | (with_reducible assumption) | assumption)
       have q146 : x9_1 < (l0.length : Int) := of_decide_eq_true (by first | (with_reducible assumption) | assumption)
       obtain ⟨ad146, e146, hx146_0⟩ := Kd.at_int HR0.out x9_1 p146 q146
       cases e146
       replace p146 := eq_true p146
       replace q146 := eq_true q146
       go_wp2
       go_roundg k1
       case measure => have := HK1.out; omega
       case rel => exact ⟨(wrap64 (x9_1 + 1)), (by first | rfl | (simp; done) | (simp [*]; done)), H', ⟨by have := HK1.out; omega⟩, by repeat (first | exact Drawn0.refl _ | apply Drawn0.step)⟩
     ·rw [if_neg c5] at H
      exact absurd H (by simp)
    ·rw [if_neg c4] at H
     exact absurd H (by simp)
   ·rw [if_neg c3] at H
    have c3b0 : decide (x9_1 < (l0.length : Int)) = false := decide_eq_false c3
    clear c3
    obtain rfl := Option.some.inj H
    go_wp2
    go_ret
    exact ⟨by first | rfl | (simp; done) | (simp [*]; done), by repeat (first | exact Drawn0.refl _ | apply Drawn0.step)⟩

/-! ### spec_Weight: function 138 -/
def spec_Weight.l0 : Nat → Int → Int → Int → Bool → List (S95) → Int → Int → Bool → List Int → List (S95) → Option (Int × Bool)
 | 0, _, _, _, _, _, _, _, _, _, _ => none
 | k + 1, x1, x2, x6, x7, x11, x12, x13, x148000, x148001, x148002 => if x13 < x12 then (if 0 ≤ x13 then (if x13 < (x11.length : Int) then (if ((rd_T95 x11 x13).f0) = x1 then (if ((rd_T95 x11 x13).f1) = x2 then (spec_Weight.l0 k x1 x2 ((rd_T95 x11 x13).f2) true x11 x12 (wrap64 (x13 + 1)) x148000 x148001 x148002) else (if x148000 = true then (spec_Weight.l0 k x1 x2 x6 x7 x11 x12 (wrap64 (x13 + 1)) x148000 x148001 x148002) else (if ((rd_T95 x11 x13).f0) = x2 then (if ((rd_T95 x11 x13).f1) = x1 then (spec_Weight.l0 k x1 x2 ((rd_T95 x11 x13).f2) true x11 x12 (wrap64 (x13 + 1)) x148000 x148001 x148002) else (spec_Weight.l0 k x1 x2 x6 x7 x11 x12 (wrap64 (x13 + 1)) x148000 x148001 x148002)) else (spec_Weight.l0 k x1 x2 x6 x7 x11 x12 (wrap64 (x13 + 1)) x148000 x148001 x148002)))) else (if x148000 = true then (spec_Weight.l0 k x1 x2 x6 x7 x11 x12 (wrap64 (x13 + 1)) x148000 x148001 x148002) else (if ((rd_T95 x11 x13).f0) = x2 then (if ((rd_T95 x11 x13).f1) = x1 then (spec_Weight.l0 k x1 x2 ((rd_T95 x11 x13).f2) true x11 x12 (wrap64 (x13 + 1)) x148000 x148001 x148002) else (spec_Weight.l0 k x1 x2 x6 x7 x11 x12 (wrap64 (x13 + 1)) x148000 x148001 x148002)) else (spec_Weight.l0 k x1 x2 x6 x7 x11 x12 (wrap64 (x13 + 1)) x148000 x148001 x148002)))) else (none)) else (none)) else (some (x6, x7))
def spec_Weight.f (k : Nat) (a0_0 : Bool) (l0_1 : List Int) (l0_2 : List (S95)) (a1 : Int) (a2 : Int) : Option (Int × Bool) := spec_Weight.l0 k a1 a2 0 false l0_2 (l0_2.length : Int) 0 a0_0 l0_1 l0_2
set_option maxHeartbeats 8000000 in
set_option maxRecDepth 100000 in
theorem spec_Weight.calls (k : Nat) (a0_0 : Bool) (A0_1 : Option Addr) (c0_1 : Nat) (l0_1 : List Int) (A0_2 : Option Addr) (c0_2 : Nat) (l0_2 : List (S95)) (a1 : Int) (a2 : Int) (r1 : Int) (r2 : Bool) (w : World) (hr0_1 : Kd.C (Kd.int .i64) w A0_1 l0_1.length l0_1) (hc0_1 : l0_1.length ≤ c0_1) (hr0_2 : Kd.C k95 w A0_2 l0_2.length l0_2) (hc0_2 : l0_2.length ≤ c0_2) (h : spec_Weight.f k a0_0 l0_1 l0_2 a1 a2 = some (r1, r2)) :
  Calls Tryz.prog 138 #[.agg #[.bool a0_0, .slice A0_1 l0_1.length c0_1, .slice A0_2 l0_2.length c0_2], .int .i64 a1, .int .i64 a2] w fun e w' => e = .returned (.tuple #[.int .i64 r1, .bool r2]) ∧ Below w.heap.size w w' := by
 have hu25 := Tryz.underlying25
 have hu95 := Tryz.underlying95
 have HR0_1 := Aside0.mk hr0_1
 have HC0_1 := Aside0.mk hc0_1
 clear hr0_1 hc0_1
 have HR0_2 := Aside0.mk hr0_2
 have HC0_2 := Aside0.mk hc0_2
 clear hr0_2 hc0_2
 have HB := Aside0.mk (Below.refl w.heap.size w)
 have H : (spec_Weight.l0 k a1 a2 0 false l0_2 (l0_2.length : Int) 0 a0_0 l0_1 l0_2) = some (r1, r2) := h
 clear h
 have H' := Aside0.mk H
 clear H
 go_enter Tryz.func138, Tryz.ntmps138
 go_wp2_with (first | ((with_reducible refine gate_dst (N := 3) rfl ?_); refine box_event ?hg (N := 3) ?hd (cs := #[.bool a0_0, .slice A0_1 l0_1.length c0_1, .slice A0_2 l0_2.length c0_2]) (t := 25) ?hr ?_; (case hd => rfl); (case hg => rfl); (case hr => first | (go_simp; done) | (go_simp; rfl)); intro gb147 hg w4 hbox hb; have n0_ := Aside0.mk (below_step (by repeat (first | (with_reducible first | exact HB.out | apply below_alloc | apply pw_below_drewN | apply below_drew1) | exact HB.out)) hb); have n1_ := Aside0.mk (hbox); have n2_ := Aside0.mk ((by rw [hg]; exact (below_size (by repeat (first | (with_reducible first | exact HB.out | apply below_alloc | apply pw_below_drewN | apply below_drew1) | exact HB.out))) : w.heap.size ≤ gb147)); have n3_ := Aside0.mk ((by rw [hg]; exact (below_size (by repeat (first | (with_reducible first | exact HB.out | apply below_alloc | apply pw_below_drewN | apply below_drew1) | exact HB.out))) : w.heap.size ≤ gb147)); clear HB; have HB := n0_; have BK147 := n1_; have GW147 := n2_; have GE147 := n3_; clear n0_ n1_ n2_ n3_; clear hb hbox hg; have hcz5_0 : w4.cell? ⟨gb147, 0, none⟩ = some (.bool a0_0) := (blk_cell BK147.out 0).trans rfl; have hcz5_1 : w4.cell? ⟨gb147, 1, none⟩ = some (.slice A0_1 l0_1.length c0_1) := (blk_cell BK147.out 1).trans rfl; have hcz5_2 : w4.cell? ⟨gb147, 2, none⟩ = some (.slice A0_2 l0_2.length c0_2) := (blk_cell BK147.out 2).trans rfl; have hfz5_0 := blk_frozen BK147.out 0; have hfz5_1 := blk_frozen BK147.out 1; have hfz5_2 := blk_frozen BK147.out 2))
 go_loopg [6, 7, 13] k (fun kq v6 v7 v13 w' => ∃ (x6_1 : Int) (x7_1 : Bool) (x13_1 : Int), v6 = .int .i64 x6_1 ∧ v7 = .bool x7_1 ∧ v13 = .int .i64 x13_1 ∧ Aside0 (spec_Weight.l0 kq a1 a2 x6_1 x7_1 l0_2 (l0_2.length : Int) x13_1 a0_0 l0_1 l0_2 = some (r1, r2)) ∧ Aside0 (kq ≤ k) ∧ Aside0 (w'.heap[gb147]? = some (.cells #[.bool a0_0, (.slice A0_1 l0_1.length c0_1), (.slice A0_2 l0_2.length c0_2)] 25 (0, 0))) ∧ Aside0 (Below w.heap.size w w'))
 case atStart => exact ⟨(0), (false), (0), (by first | rfl | (simp; done) | (simp [*]; done)), (by first | rfl | (simp; done) | (simp [*]; done)), (by first | rfl | (simp; done) | (simp [*]; done)), H', ⟨Nat.le_refl _⟩, ⟨by (with_reducible repeat (first | refine blk_drewN ?_ _ | refine blk_drew ?_ | refine blk_alloc ?_ _)); exact BK147.out⟩, ⟨by repeat (first | (with_reducible first | exact HB.out | apply below_alloc | apply pw_below_drewN | apply below_drew1 | refine below_set ?_ GE147.out) | exact HB.out)⟩⟩
 case round =>
  clear H'
  try clear c1
  try clear p2
  try clear hcz5_0
  try clear hcz5_1
  try clear hcz5_2
  try clear hfz5_0
  try clear hfz5_1
  try clear hfz5_2
  obtain ⟨x6_1, x7_1, x13_1, rfl, rfl, rfl, HA, HK1, BK147, HB⟩ := hrel
  cases gk with
  | zero => exact absurd HA.out (by simp [spec_Weight.l0])
  | succ k1 =>
   have H := HA.out
   clear HA
   simp only [spec_Weight.l0] at H
   by_cases c6 : x13_1 < (l0_2.length : Int)
   ·rw [if_pos c6] at H
    have c6b0 : decide (x13_1 < (l0_2.length : Int)) = true := decide_eq_true c6
    clear c6
    by_cases c7 : 0 ≤ x13_1
    ·rw [if_pos c7] at H
     have c7b0 : decide (0 ≤ x13_1) = true := decide_eq_true c7
     clear c7
     by_cases c8 : x13_1 < (l0_2.length : Int)
     ·rw [if_pos c8] at H
      have c8b0 : decide (x13_1 < (l0_2.length : Int)) = true := decide_eq_true c8
      clear c8
      by_cases c9 : ((rd_T95 l0_2 x13_1).f0) = a1
      ·rw [if_pos c9] at H
       have c9b0 : (((rd_T95 l0_2 x13_1).f0) == a1) = true := beq_iff_eq.mpr c9
       have c9b1 : (((rd_T95 l0_2 x13_1).f0) != a1) = false := bne_eq_false_iff_eq.mpr c9
       clear c9
       by_cases c10 : ((rd_T95 l0_2 x13_1).f1) = a2
       ·rw [if_pos c10] at H
        have c10b0 : (((rd_T95 l0_2 x13_1).f1) == a2) = true := beq_iff_eq.mpr c10
        have c10b1 : (((rd_T95 l0_2 x13_1).f1) != a2) = false := bne_eq_false_iff_eq.mpr c10
        clear c10
        have H' := Aside0.mk H
        clear H
        have p148 : 0 ≤ (x13_1 : Int) := of_decide_eq_true (by first | (with_reducible assumption) | assumption)
        have q148 : x13_1 < (l0_2.length : Int) := of_decide_eq_true (by first | (with_reducible assumption) | assumption)
        obtain ⟨ad148, e148, hx148_0, hx148_1, hx148_2⟩ := at_T95 HR0_2.out x13_1 p148 q148
        cases e148
        replace hx148_0 := (HB.out.cell (World.block_lt_of_cell? w _ hx148_0)).trans hx148_0
        replace hx148_1 := (HB.out.cell (World.block_lt_of_cell? w _ hx148_1)).trans hx148_1
        replace hx148_2 := (HB.out.cell (World.block_lt_of_cell? w _ hx148_2)).trans hx148_2
        replace p148 := eq_true p148
        replace q148 := eq_true q148
        go_wp2_with (first | ((with_reducible refine gate_dst (N := 9) rfl ?_); refine box_event ?hg (N := 9) ?hd (cs := #[.int .i64 0, .int .i64 0, .int .i64 0]) (t := 95) ?hr ?_; (case hd => rfl); (case hg => rfl); (case hr => first | (go_simp; done) | (go_simp; rfl)); intro gb149 hg w11 hbox hb; have n0_ := Aside0.mk (blk_below (g := gb147) (o := .cells #[.bool a0_0, .slice A0_1 l0_1.length c0_1, .slice (some ad148) l0_2.length c0_2] 25 (0, 0)) (by (with_reducible repeat (first | refine blk_drewN ?_ _ | refine blk_drew ?_ | refine blk_alloc ?_ _)); exact BK147.out) hb); have n1_ := Aside0.mk (below_step (by repeat (first | (with_reducible first | exact HB.out | apply below_alloc | apply pw_below_drewN | apply below_drew1 | refine below_set ?_ GE147.out) | exact HB.out)) hb); have n2_ := Aside0.mk (hbox); have n3_ := Aside0.mk ((by rw [hg]; exact (below_size (by repeat (first | (with_reducible first | exact HB.out | apply below_alloc | apply pw_below_drewN | apply below_drew1 | refine below_set ?_ GE147.out) | exact HB.out))) : w.heap.size ≤ gb149)); have n4_ := Aside0.mk ((by rw [hg]; exact (below_size (by repeat (first | (with_reducible first | exact HB.out | apply below_alloc | apply pw_below_drewN | apply below_drew1 | refine below_set ?_ GE147.out) | exact HB.out))) : w.heap.size ≤ gb149)); have n5_ := Aside0.mk ((by rw [hg]; exact Nat.ne_of_lt (blk_lt (g := gb147) (o := .cells #[.bool a0_0, .slice A0_1 l0_1.length c0_1, .slice (some ad148) l0_2.length c0_2] 25 (0, 0)) (by (with_reducible repeat (first | refine blk_drewN ?_ _ | refine blk_drew ?_ | refine blk_alloc ?_ _)); exact BK147.out)) : gb147 ≠ gb149)); have n6_ := Aside0.mk ((by rw [hg]; exact Nat.ne_of_gt (blk_lt (g := gb147) (o := .cells #[.bool a0_0, .slice A0_1 l0_1.length c0_1, .slice (some ad148) l0_2.length c0_2] 25 (0, 0)) (by (with_reducible repeat (first | refine blk_drewN ?_ _ | refine blk_drew ?_ | refine blk_alloc ?_ _)); exact BK147.out)) : gb149 ≠ gb147)); clear BK147; clear HB; have BK147 := n0_; have HB := n1_; have BK149 := n2_; have GW149 := n3_; have GE149 := n4_; have NB147_149 := n5_; have NB149_147 := n6_; clear n0_ n1_ n2_ n3_ n4_ n5_ n6_; clear hb hbox hg; have hnb12 := NB149_147.out; have hnc12 := NB147_149.out; have hcz13_0 : w11.cell? ⟨gb149, 0, none⟩ = some (.int .i64 0) := (blk_cell BK149.out 0).trans rfl; have hcz13_1 : w11.cell? ⟨gb149, 1, none⟩ = some (.int .i64 0) := (blk_cell BK149.out 1).trans rfl; have hcz13_2 : w11.cell? ⟨gb149, 2, none⟩ = some (.int .i64 0) := (blk_cell BK149.out 2).trans rfl; have hfz13_0 := blk_frozen BK149.out 0; have hfz13_1 := blk_frozen BK149.out 1; have hfz13_2 := blk_frozen BK149.out 2))
        go_roundg k1
        case measure => have := HK1.out; omega
        case rel => exact ⟨((rd_T95 l0_2 x13_1).f2), (true), (wrap64 (x13_1 + 1)), (by first | rfl | (simp; done) | (simp [*]; done)), (by first | rfl | (simp; done) | (simp [*]; done)), (by first | rfl | (simp; done) | (simp [*]; done)), H', ⟨by have := HK1.out; omega⟩, ⟨by (with_reducible repeat (first | refine blk_drewN ?_ _ | refine blk_drew ?_ | refine blk_alloc ?_ _)); refine blk_far ?_ NB147_149.out _; (with_reducible repeat (first | refine blk_drewN ?_ _ | refine blk_drew ?_ | refine blk_alloc ?_ _)); refine blk_far ?_ NB147_149.out _; (with_reducible repeat (first | refine blk_drewN ?_ _ | refine blk_drew ?_ | refine blk_alloc ?_ _)); refine blk_far ?_ NB147_149.out _; (with_reducible repeat (first | refine blk_drewN ?_ _ | refine blk_drew ?_ | refine blk_alloc ?_ _)); exact BK147.out⟩, ⟨by repeat (first | (with_reducible first | exact HB.out | apply below_alloc | apply pw_below_drewN | apply below_drew1 | refine below_set ?_ GE147.out | refine below_set ?_ GE149.out) | exact HB.out)⟩⟩
       ·rw [if_neg c10] at H
        have c10b0 : (((rd_T95 l0_2 x13_1).f1) == a2) = false := beq_eq_false_iff_ne.mpr c10
        have c10b1 : (((rd_T95 l0_2 x13_1).f1) != a2) = true := bne_iff_ne.mpr c10
        by_cases c14 : a0_0 = true
        ·subst c14
         have H1 : (spec_Weight.l0 k1 a1 a2 x6_1 x7_1 l0_2 (l0_2.length : Int) (wrap64 (x13_1 + 1)) true l0_1 l0_2) = some (r1, r2) := by rw [if_pos rfl] at H; exact H
         clear H
         have H := H1
         clear H1
         have H' := Aside0.mk H
         clear H
         have p148 : 0 ≤ (x13_1 : Int) := of_decide_eq_true (by first | (with_reducible assumption) | assumption)
         have q148 : x13_1 < (l0_2.length : Int) := of_decide_eq_true (by first | (with_reducible assumption) | assumption)
         obtain ⟨ad148, e148, hx148_0, hx148_1, hx148_2⟩ := at_T95 HR0_2.out x13_1 p148 q148
         cases e148
         replace hx148_0 := (HB.out.cell (World.block_lt_of_cell? w _ hx148_0)).trans hx148_0
         replace hx148_1 := (HB.out.cell (World.block_lt_of_cell? w _ hx148_1)).trans hx148_1
         replace hx148_2 := (HB.out.cell (World.block_lt_of_cell? w _ hx148_2)).trans hx148_2
         replace p148 := eq_true p148
         replace q148 := eq_true q148
         go_wp2_with (first | ((with_reducible refine gate_dst (N := 9) rfl ?_); refine box_event ?hg (N := 9) ?hd (cs := #[.int .i64 0, .int .i64 0, .int .i64 0]) (t := 95) ?hr ?_; (case hd => rfl); (case hg => rfl); (case hr => first | (go_simp; done) | (go_simp; rfl)); intro gb149 hg w15 hbox hb; have n0_ := Aside0.mk (blk_below (g := gb147) (o := .cells #[.bool true, .slice A0_1 l0_1.length c0_1, .slice (some ad148) l0_2.length c0_2] 25 (0, 0)) (by (with_reducible repeat (first | refine blk_drewN ?_ _ | refine blk_drew ?_ | refine blk_alloc ?_ _)); exact BK147.out) hb); have n1_ := Aside0.mk (below_step (by repeat (first | (with_reducible first | exact HB.out | apply below_alloc | apply pw_below_drewN | apply below_drew1 | refine below_set ?_ GE147.out) | exact HB.out)) hb); have n2_ := Aside0.mk (hbox); have n3_ := Aside0.mk ((by rw [hg]; exact (below_size (by repeat (first | (with_reducible first | exact HB.out | apply below_alloc | apply pw_below_drewN | apply below_drew1 | refine below_set ?_ GE147.out) | exact HB.out))) : w.heap.size ≤ gb149)); have n4_ := Aside0.mk ((by rw [hg]; exact (below_size (by repeat (first | (with_reducible first | exact HB.out | apply below_alloc | apply pw_below_drewN | apply below_drew1 | refine below_set ?_ GE147.out) | exact HB.out))) : w.heap.size ≤ gb149)); have n5_ := Aside0.mk ((by rw [hg]; exact Nat.ne_of_lt (blk_lt (g := gb147) (o := .cells #[.bool true, .slice A0_1 l0_1.length c0_1, .slice (some ad148) l0_2.length c0_2] 25 (0, 0)) (by (with_reducible repeat (first | refine blk_drewN ?_ _ | refine blk_drew ?_ | refine blk_alloc ?_ _)); exact BK147.out)) : gb147 ≠ gb149)); have n6_ := Aside0.mk ((by rw [hg]; exact Nat.ne_of_gt (blk_lt (g := gb147) (o := .cells #[.bool true, .slice A0_1 l0_1.length c0_1, .slice (some ad148) l0_2.length c0_2] 25 (0, 0)) (by (with_reducible repeat (first | refine blk_drewN ?_ _ | refine blk_drew ?_ | refine blk_alloc ?_ _)); exact BK147.out)) : gb149 ≠ gb147)); clear BK147; clear HB; have BK147 := n0_; have HB := n1_; have BK149 := n2_; have GW149 := n3_; have GE149 := n4_; have NB147_149 := n5_; have NB149_147 := n6_; clear n0_ n1_ n2_ n3_ n4_ n5_ n6_; clear hb hbox hg; have hnb16 := NB149_147.out; have hnc16 := NB147_149.out; have hcz17_0 : w15.cell? ⟨gb149, 0, none⟩ = some (.int .i64 0) := (blk_cell BK149.out 0).trans rfl; have hcz17_1 : w15.cell? ⟨gb149, 1, none⟩ = some (.int .i64 0) := (blk_cell BK149.out 1).trans rfl; have hcz17_2 : w15.cell? ⟨gb149, 2, none⟩ = some (.int .i64 0) := (blk_cell BK149.out 2).trans rfl; have hfz17_0 := blk_frozen BK149.out 0; have hfz17_1 := blk_frozen BK149.out 1; have hfz17_2 := blk_frozen BK149.out 2; have hcz18_0 : w15.cell? ⟨gb147, 0, none⟩ = some (.bool true) := (blk_cell BK147.out 0).trans rfl; have hcz18_1 : w15.cell? ⟨gb147, 1, none⟩ = some (.slice A0_1 l0_1.length c0_1) := (blk_cell BK147.out 1).trans rfl; have hcz18_2 : w15.cell? ⟨gb147, 2, none⟩ = some (.slice (some ad148) l0_2.length c0_2) := (blk_cell BK147.out 2).trans rfl; have hfz18_0 := blk_frozen BK147.out 0; have hfz18_1 := blk_frozen BK147.out 1; have hfz18_2 := blk_frozen BK147.out 2))
         go_roundg k1
         case measure => have := HK1.out; omega
         case rel => exact ⟨(x6_1), (x7_1), (wrap64 (x13_1 + 1)), (by first | rfl | (simp; done) | (simp [*]; done)), (by first | rfl | (simp; done) | (simp [*]; done)), (by first | rfl | (simp; done) | (simp [*]; done)), H', ⟨by have := HK1.out; omega⟩, ⟨by (with_reducible repeat (first | refine blk_drewN ?_ _ | refine blk_drew ?_ | refine blk_alloc ?_ _)); refine blk_far ?_ NB147_149.out _; (with_reducible repeat (first | refine blk_drewN ?_ _ | refine blk_drew ?_ | refine blk_alloc ?_ _)); refine blk_far ?_ NB147_149.out _; (with_reducible repeat (first | refine blk_drewN ?_ _ | refine blk_drew ?_ | refine blk_alloc ?_ _)); refine blk_far ?_ NB147_149.out _; (with_reducible repeat (first | refine blk_drewN ?_ _ | refine blk_drew ?_ | refine blk_alloc ?_ _)); exact BK147.out⟩, ⟨by repeat (first | (with_reducible first | exact HB.out | apply below_alloc | apply pw_below_drewN | apply below_drew1 | refine below_set ?_ GE147.out | refine below_set ?_ GE149.out) | exact HB.out)⟩⟩
        ·replace c14 := Bool.eq_false_iff.mpr c14
         subst c14
         have H1 : (if ((rd_T95 l0_2 x13_1).f0) = a2 then (if ((rd_T95 l0_2 x13_1).f1) = a1 then (spec_Weight.l0 k1 a1 a2 ((rd_T95 l0_2 x13_1).f2) true l0_2 (l0_2.length : Int) (wrap64 (x13_1 + 1)) false l0_1 l0_2) else (spec_Weight.l0 k1 a1 a2 x6_1 x7_1 l0_2 (l0_2.length : Int) (wrap64 (x13_1 + 1)) false l0_1 l0_2)) else (spec_Weight.l0 k1 a1 a2 x6_1 x7_1 l0_2 (l0_2.length : Int) (wrap64 (x13_1 + 1)) false l0_1 l0_2)) = some (r1, r2) := by rw [if_neg (show ¬ (false = true) by decide)] at H; exact H
         clear H
         have H := H1
         clear H1
         by_cases c19 : ((rd_T95 l0_2 x13_1).f0) = a2
         ·rw [if_pos c19] at H
          have c19b0 : (((rd_T95 l0_2 x13_1).f0) == a2) = true := beq_iff_eq.mpr c19
          have c19b1 : (((rd_T95 l0_2 x13_1).f0) != a2) = false := bne_eq_false_iff_eq.mpr c19
          clear c19
          by_cases c20 : ((rd_T95 l0_2 x13_1).f1) = a1
          ·rw [if_pos c20] at H
           have c20b0 : (((rd_T95 l0_2 x13_1).f1) == a1) = true := beq_iff_eq.mpr c20
           have c20b1 : (((rd_T95 l0_2 x13_1).f1) != a1) = false := bne_eq_false_iff_eq.mpr c20
           clear c20
           have H' := Aside0.mk H
           clear H
           have p148 : 0 ≤ (x13_1 : Int) := of_decide_eq_true (by first | (with_reducible assumption) | assumption)
           have q148 : x13_1 < (l0_2.length : Int) := of_decide_eq_true (by first | (with_reducible assumption) | assumption)
           obtain ⟨ad148, e148, hx148_0, hx148_1, hx148_2⟩ := at_T95 HR0_2.out x13_1 p148 q148
           cases e148
           replace hx148_0 := (HB.out.cell (World.block_lt_of_cell? w _ hx148_0)).trans hx148_0
           replace hx148_1 := (HB.out.cell (World.block_lt_of_cell? w _ hx148_1)).trans hx148_1
           replace hx148_2 := (HB.out.cell (World.block_lt_of_cell? w _ hx148_2)).trans hx148_2
           replace p148 := eq_true p148
           replace q148 := eq_true q148
           go_wp2_with (first | ((with_reducible refine gate_dst (N := 9) rfl ?_); refine box_event ?hg (N := 9) ?hd (cs := #[.int .i64 0, .int .i64 0, .int .i64 0]) (t := 95) ?hr ?_; (case hd => rfl); (case hg => rfl); (case hr => first | (go_simp; done) | (go_simp; rfl)); intro gb149 hg w21 hbox hb; have n0_ := Aside0.mk (blk_below (g := gb147) (o := .cells #[.bool false, .slice A0_1 l0_1.length c0_1, .slice (some ad148) l0_2.length c0_2] 25 (0, 0)) (by (with_reducible repeat (first | refine blk_drewN ?_ _ | refine blk_drew ?_ | refine blk_alloc ?_ _)); exact BK147.out) hb); have n1_ := Aside0.mk (below_step (by repeat (first | (with_reducible first | exact HB.out | apply below_alloc | apply pw_below_drewN | apply below_drew1 | refine below_set ?_ GE147.out) | exact HB.out)) hb); have n2_ := Aside0.mk (hbox); have n3_ := Aside0.mk ((by rw [hg]; exact (below_size (by repeat (first | (with_reducible first | exact HB.out | apply below_alloc | apply pw_below_drewN | apply below_drew1 | refine below_set ?_ GE147.out) | exact HB.out))) : w.heap.size ≤ gb149)); have n4_ := Aside0.mk ((by rw [hg]; exact (below_size (by repeat (first | (with_reducible first | exact HB.out | apply below_alloc | apply pw_below_drewN | apply below_drew1 | refine below_set ?_ GE147.out) | exact HB.out))) : w.heap.size ≤ gb149)); have n5_ := Aside0.mk ((by rw [hg]; exact Nat.ne_of_lt (blk_lt (g := gb147) (o := .cells #[.bool false, .slice A0_1 l0_1.length c0_1, .slice (some ad148) l0_2.length c0_2] 25 (0, 0)) (by (with_reducible repeat (first | refine blk_drewN ?_ _ | refine blk_drew ?_ | refine blk_alloc ?_ _)); exact BK147.out)) : gb147 ≠ gb149)); have n6_ := Aside0.mk ((by rw [hg]; exact Nat.ne_of_gt (blk_lt (g := gb147) (o := .cells #[.bool false, .slice A0_1 l0_1.length c0_1, .slice (some ad148) l0_2.length c0_2] 25 (0, 0)) (by (with_reducible repeat (first | refine blk_drewN ?_ _ | refine blk_drew ?_ | refine blk_alloc ?_ _)); exact BK147.out)) : gb149 ≠ gb147)); clear BK147; clear HB; have BK147 := n0_; have HB := n1_; have BK149 := n2_; have GW149 := n3_; have GE149 := n4_; have NB147_149 := n5_; have NB149_147 := n6_; clear n0_ n1_ n2_ n3_ n4_ n5_ n6_; clear hb hbox hg; have hnb22 := NB149_147.out; have hnc22 := NB147_149.out; have hcz23_0 : w21.cell? ⟨gb149, 0, none⟩ = some (.int .i64 0) := (blk_cell BK149.out 0).trans rfl; have hcz23_1 : w21.cell? ⟨gb149, 1, none⟩ = some (.int .i64 0) := (blk_cell BK149.out 1).trans rfl; have hcz23_2 : w21.cell? ⟨gb149, 2, none⟩ = some (.int .i64 0) := (blk_cell BK149.out 2).trans rfl; have hfz23_0 := blk_frozen BK149.out 0; have hfz23_1 := blk_frozen BK149.out 1; have hfz23_2 := blk_frozen BK149.out 2; have hcz24_0 : w21.cell? ⟨gb147, 0, none⟩ = some (.bool false) := (blk_cell BK147.out 0).trans rfl; have hcz24_1 : w21.cell? ⟨gb147, 1, none⟩ = some (.slice A0_1 l0_1.length c0_1) := (blk_cell BK147.out 1).trans rfl; have hcz24_2 : w21.cell? ⟨gb147, 2, none⟩ = some (.slice (some ad148) l0_2.length c0_2) := (blk_cell BK147.out 2).trans rfl; have hfz24_0 := blk_frozen BK147.out 0; have hfz24_1 := blk_frozen BK147.out 1; have hfz24_2 := blk_frozen BK147.out 2))
           go_roundg k1
           case measure => have := HK1.out; omega
           case rel => exact ⟨((rd_T95 l0_2 x13_1).f2), (true), (wrap64 (x13_1 + 1)), (by first | rfl | (simp; done) | (simp [*]; done)), (by first | rfl | (simp; done) | (simp [*]; done)), (by first | rfl | (simp; done) | (simp [*]; done)), H', ⟨by have := HK1.out; omega⟩, ⟨by (with_reducible repeat (first | refine blk_drewN ?_ _ | refine blk_drew ?_ | refine blk_alloc ?_ _)); refine blk_far ?_ NB147_149.out _; (with_reducible repeat (first | refine blk_drewN ?_ _ | refine blk_drew ?_ | refine blk_alloc ?_ _)); refine blk_far ?_ NB147_149.out _; (with_reducible repeat (first | refine blk_drewN ?_ _ | refine blk_drew ?_ | refine blk_alloc ?_ _)); refine blk_far ?_ NB147_149.out _; (with_reducible repeat (first | refine blk_drewN ?_ _ | refine blk_drew ?_ | refine blk_alloc ?_ _)); exact BK147.out⟩, ⟨by repeat (first | (with_reducible first | exact HB.out | apply below_alloc | apply pw_below_drewN | apply below_drew1 | refine below_set ?_ GE147.out | refine below_set ?_ GE149.out) | exact HB.out)⟩⟩
          ·rw [if_neg c20] at H
           have c20b0 : (((rd_T95 l0_2 x13_1).f1) == a1) = false := beq_eq_false_iff_ne.mpr c20
           have c20b1 : (((rd_T95 l0_2 x13_1).f1) != a1) = true := bne_iff_ne.mpr c20
           have H' := Aside0.mk H
           clear H
           have p148 : 0 ≤ (x13_1 : Int) := of_decide_eq_true (by first | (with_reducible assumption) | assumption)
           have q148 : x13_1 < (l0_2.length : Int) := of_decide_eq_true (by first | (with_reducible assumption) | assumption)
           obtain ⟨ad148, e148, hx148_0, hx148_1, hx148_2⟩ := at_T95 HR0_2.out x13_1 p148 q148
           cases e148
           replace hx148_0 := (HB.out.cell (World.block_lt_of_cell? w _ hx148_0)).trans hx148_0
           replace hx148_1 := (HB.out.cell (World.block_lt_of_cell? w _ hx148_1)).trans hx148_1
           replace hx148_2 := (HB.out.cell (World.block_lt_of_cell? w _ hx148_2)).trans hx148_2
           replace p148 := eq_true p148
           replace q148 := eq_true q148
           go_wp2_with (first | ((with_reducible refine gate_dst (N := 9) rfl ?_); refine box_event ?hg (N := 9) ?hd (cs := #[.int .i64 0, .int .i64 0, .int .i64 0]) (t := 95) ?hr ?_; (case hd => rfl); (case hg => rfl); (case hr => first | (go_simp; done) | (go_simp; rfl)); intro gb149 hg w25 hbox hb; have n0_ := Aside0.mk (blk_below (g := gb147) (o := .cells #[.bool false, .slice A0_1 l0_1.length c0_1, .slice (some ad148) l0_2.length c0_2] 25 (0, 0)) (by (with_reducible repeat (first | refine blk_drewN ?_ _ | refine blk_drew ?_ | refine blk_alloc ?_ _)); exact BK147.out) hb); have n1_ := Aside0.mk (below_step (by repeat (first | (with_reducible first | exact HB.out | apply below_alloc | apply pw_below_drewN | apply below_drew1 | refine below_set ?_ GE147.out) | exact HB.out)) hb); have n2_ := Aside0.mk (hbox); have n3_ := Aside0.mk ((by rw [hg]; exact (below_size (by repeat (first | (with_reducible first | exact HB.out | apply below_alloc | apply pw_below_drewN | apply below_drew1 | refine below_set ?_ GE147.out) | exact HB.out))) : w.heap.size ≤ gb149)); have n4_ := Aside0.mk ((by rw [hg]; exact (below_size (by repeat (first | (with_reducible first | exact HB.out | apply below_alloc | apply pw_below_drewN | apply below_drew1 | refine below_set ?_ GE147.out) | exact HB.out))) : w.heap.size ≤ gb149)); have n5_ := Aside0.mk ((by rw [hg]; exact Nat.ne_of_lt (blk_lt (g := gb147) (o := .cells #[.bool false, .slice A0_1 l0_1.length c0_1, .slice (some ad148) l0_2.length c0_2] 25 (0, 0)) (by (with_reducible repeat (first | refine blk_drewN ?_ _ | refine blk_drew ?_ | refine blk_alloc ?_ _)); exact BK147.out)) : gb147 ≠ gb149)); have n6_ := Aside0.mk ((by rw [hg]; exact Nat.ne_of_gt (blk_lt (g := gb147) (o := .cells #[.bool false, .slice A0_1 l0_1.length c0_1, .slice (some ad148) l0_2.length c0_2] 25 (0, 0)) (by (with_reducible repeat (first | refine blk_drewN ?_ _ | refine blk_drew ?_ | refine blk_alloc ?_ _)); exact BK147.out)) : gb149 ≠ gb147)); clear BK147; clear HB; have BK147 := n0_; have HB := n1_; have BK149 := n2_; have GW149 := n3_; have GE149 := n4_; have NB147_149 := n5_; have NB149_147 := n6_; clear n0_ n1_ n2_ n3_ n4_ n5_ n6_; clear hb hbox hg; have hnb26 := NB149_147.out; have hnc26 := NB147_149.out; have hcz27_0 : w25.cell? ⟨gb149, 0, none⟩ = some (.int .i64 0) := (blk_cell BK149.out 0).trans rfl; have hcz27_1 : w25.cell? ⟨gb149, 1, none⟩ = some (.int .i64 0) := (blk_cell BK149.out 1).trans rfl; have hcz27_2 : w25.cell? ⟨gb149, 2, none⟩ = some (.int .i64 0) := (blk_cell BK149.out 2).trans rfl; have hfz27_0 := blk_frozen BK149.out 0; have hfz27_1 := blk_frozen BK149.out 1; have hfz27_2 := blk_frozen BK149.out 2; have hcz28_0 : w25.cell? ⟨gb147, 0, none⟩ = some (.bool false) := (blk_cell BK147.out 0).trans rfl; have hcz28_1 : w25.cell? ⟨gb147, 1, none⟩ = some (.slice A0_1 l0_1.length c0_1) := (blk_cell BK147.out 1).trans rfl; have hcz28_2 : w25.cell? ⟨gb147, 2, none⟩ = some (.slice (some ad148) l0_2.length c0_2) := (blk_cell BK147.out 2).trans rfl; have hfz28_0 := blk_frozen BK147.out 0; have hfz28_1 := blk_frozen BK147.out 1; have hfz28_2 := blk_frozen BK147.out 2))
           go_roundg k1
           case measure => have := HK1.out; omega
           case rel => exact ⟨(x6_1), (x7_1), (wrap64 (x13_1 + 1)), (by first | rfl | (simp; done) | (simp [*]; done)), (by first | rfl | (simp; done) | (simp [*]; done)), (by first | rfl | (simp; done) | (simp [*]; done)), H', ⟨by have := HK1.out; omega⟩, ⟨by (with_reducible repeat (first | refine blk_drewN ?_ _ | refine blk_drew ?_ | refine blk_alloc ?_ _)); refine blk_far ?_ NB147_149.out _; (with_reducible repeat (first | refine blk_drewN ?_ _ | refine blk_drew ?_ | refine blk_alloc ?_ _)); refine blk_far ?_ NB147_149.out _; (with_reducible repeat (first | refine blk_drewN ?_ _ | refine blk_drew ?_ | refine blk_alloc ?_ _)); refine blk_far ?_ NB147_149.out _; (with_reducible repeat (first | refine blk_drewN ?_ _ | refine blk_drew ?_ | refine blk_alloc ?_ _)); exact BK147.out⟩, ⟨by repeat (first | (with_reducible first | exact HB.out | apply below_alloc | apply pw_below_drewN | apply below_drew1 | refine below_set ?_ GE147.out | refine below_set ?_ GE149.out) | exact HB.out)⟩⟩
         ·rw [if_neg c19] at H
          have c19b0 : (((rd_T95 l0_2 x13_1).f0) == a2) = false := beq_eq_false_iff_ne.mpr c19
          have c19b1 : (((rd_T95 l0_2 x13_1).f0) != a2) = true := bne_iff_ne.mpr c19
          have H' := Aside0.mk H
          clear H
          have p148 : 0 ≤ (x13_1 : Int) := of_decide_eq_true (by first | (with_reducible assumption) | assumption)
          have q148 : x13_1 < (l0_2.length : Int) := of_decide_eq_true (by first | (with_reducible assumption) | assumption)
          obtain ⟨ad148, e148, hx148_0, hx148_1, hx148_2⟩ := at_T95 HR0_2.out x13_1 p148 q148
          cases e148
          replace hx148_0 := (HB.out.cell (World.block_lt_of_cell? w _ hx148_0)).trans hx148_0
          replace hx148_1 := (HB.out.cell (World.block_lt_of_cell? w _ hx148_1)).trans hx148_1
          replace hx148_2 := (HB.out.cell (World.block_lt_of_cell? w _ hx148_2)).trans hx148_2
          replace p148 := eq_true p148
          replace q148 := eq_true q148
          go_wp2_with (first | ((with_reducible refine gate_dst (N := 9) rfl ?_); refine box_event ?hg (N := 9) ?hd (cs := #[.int .i64 0, .int .i64 0, .int .i64 0]) (t := 95) ?hr ?_; (case hd => rfl); (case hg => rfl); (case hr => first | (go_simp; done) | (go_simp; rfl)); intro gb149 hg w29 hbox hb; have n0_ := Aside0.mk (blk_below (g := gb147) (o := .cells #[.bool false, .slice A0_1 l0_1.length c0_1, .slice (some ad148) l0_2.length c0_2] 25 (0, 0)) (by (with_reducible repeat (first | refine blk_drewN ?_ _ | refine blk_drew ?_ | refine blk_alloc ?_ _)); exact BK147.out) hb); have n1_ := Aside0.mk (below_step (by repeat (first | (with_reducible first | exact HB.out | apply below_alloc | apply pw_below_drewN | apply below_drew1 | refine below_set ?_ GE147.out) | exact HB.out)) hb); have n2_ := Aside0.mk (hbox); have n3_ := Aside0.mk ((by rw [hg]; exact (below_size (by repeat (first | (with_reducible first | exact HB.out | apply below_alloc | apply pw_below_drewN | apply below_drew1 | refine below_set ?_ GE147.out) | exact HB.out))) : w.heap.size ≤ gb149)); have n4_ := Aside0.mk ((by rw [hg]; exact (below_size (by repeat (first | (with_reducible first | exact HB.out | apply below_alloc | apply pw_below_drewN | apply below_drew1 | refine below_set ?_ GE147.out) | exact HB.out))) : w.heap.size ≤ gb149)); have n5_ := Aside0.mk ((by rw [hg]; exact Nat.ne_of_lt (blk_lt (g := gb147) (o := .cells #[.bool false, .slice A0_1 l0_1.length c0_1, .slice (some ad148) l0_2.length c0_2] 25 (0, 0)) (by (with_reducible repeat (first | refine blk_drewN ?_ _ | refine blk_drew ?_ | refine blk_alloc ?_ _)); exact BK147.out)) : gb147 ≠ gb149)); have n6_ := Aside0.mk ((by rw [hg]; exact Nat.ne_of_gt (blk_lt (g := gb147) (o := .cells #[.bool false, .slice A0_1 l0_1.length c0_1, .slice (some ad148) l0_2.length c0_2] 25 (0, 0)) (by (with_reducible repeat (first | refine blk_drewN ?_ _ | refine blk_drew ?_ | refine blk_alloc ?_ _)); exact BK147.out)) : gb149 ≠ gb147)); clear BK147; clear HB; have BK147 := n0_; have HB := n1_; have BK149 := n2_; have GW149 := n3_; have GE149 := n4_; have NB147_149 := n5_; have NB149_147 := n6_; clear n0_ n1_ n2_ n3_ n4_ n5_ n6_; clear hb hbox hg; have hnb30 := NB149_147.out; have hnc30 := NB147_149.out; have hcz31_0 : w29.cell? ⟨gb149, 0, none⟩ = some (.int .i64 0) := (blk_cell BK149.out 0).trans rfl; have hcz31_1 : w29.cell? ⟨gb149, 1, none⟩ = some (.int .i64 0) := (blk_cell BK149.out 1).trans rfl; have hcz31_2 : w29.cell? ⟨gb149, 2, none⟩ = some (.int .i64 0) := (blk_cell BK149.out 2).trans rfl; have hfz31_0 := blk_frozen BK149.out 0; have hfz31_1 := blk_frozen BK149.out 1; have hfz31_2 := blk_frozen BK149.out 2; have hcz32_0 : w29.cell? ⟨gb147, 0, none⟩ = some (.bool false) := (blk_cell BK147.out 0).trans rfl; have hcz32_1 : w29.cell? ⟨gb147, 1, none⟩ = some (.slice A0_1 l0_1.length c0_1) := (blk_cell BK147.out 1).trans rfl; have hcz32_2 : w29.cell? ⟨gb147, 2, none⟩ = some (.slice (some ad148) l0_2.length c0_2) := (blk_cell BK147.out 2).trans rfl; have hfz32_0 := blk_frozen BK147.out 0; have hfz32_1 := blk_frozen BK147.out 1; have hfz32_2 := blk_frozen BK147.out 2))
          go_roundg k1
          case measure => have := HK1.out; omega
          case rel => exact ⟨(x6_1), (x7_1), (wrap64 (x13_1 + 1)), (by first | rfl | (simp; done) | (simp [*]; done)), (by first | rfl | (simp; done) | (simp [*]; done)), (by first | rfl | (simp; done) | (simp [*]; done)), H', ⟨by have := HK1.out; omega⟩, ⟨by (with_reducible repeat (first | refine blk_drewN ?_ _ | refine blk_drew ?_ | refine blk_alloc ?_ _)); refine blk_far ?_ NB147_149.out _; (with_reducible repeat (first | refine blk_drewN ?_ _ | refine blk_drew ?_ | refine blk_alloc ?_ _)); refine blk_far ?_ NB147_149.out _; (with_reducible repeat (first | refine blk_drewN ?_ _ | refine blk_drew ?_ | refine blk_alloc ?_ _)); refine blk_far ?_ NB147_149.out _; (with_reducible repeat (first | refine blk_drewN ?_ _ | refine blk_drew ?_ | refine blk_alloc ?_ _)); exact BK147.out⟩, ⟨by repeat (first | (with_reducible first | exact HB.out | apply below_alloc | apply pw_below_drewN | apply below_drew1 | refine below_set ?_ GE147.out | refine below_set ?_ GE149.out) | exact HB.out)⟩⟩
      ·rw [if_neg c9] at H
       have c9b0 : (((rd_T95 l0_2 x13_1).f0) == a1) = false := beq_eq_false_iff_ne.mpr c9
       have c9b1 : (((rd_T95 l0_2 x13_1).f0) != a1) = true := bne_iff_ne.mpr c9
       by_cases c33 : a0_0 = true
       ·subst c33
        have H1 : (spec_Weight.l0 k1 a1 a2 x6_1 x7_1 l0_2 (l0_2.length : Int) (wrap64 (x13_1 + 1)) true l0_1 l0_2) = some (r1, r2) := by rw [if_pos rfl] at H; exact H
        clear H
        have H := H1
        clear H1
        have H' := Aside0.mk H
        clear H
        have p148 : 0 ≤ (x13_1 : Int) := of_decide_eq_true (by first | (with_reducible assumption) | assumption)
        have q148 : x13_1 < (l0_2.length : Int) := of_decide_eq_true (by first | (with_reducible assumption) | assumption)
        obtain ⟨ad148, e148, hx148_0, hx148_1, hx148_2⟩ := at_T95 HR0_2.out x13_1 p148 q148
        cases e148
        replace hx148_0 := (HB.out.cell (World.block_lt_of_cell? w _ hx148_0)).trans hx148_0
        replace hx148_1 := (HB.out.cell (World.block_lt_of_cell? w _ hx148_1)).trans hx148_1
        replace hx148_2 := (HB.out.cell (World.block_lt_of_cell? w _ hx148_2)).trans hx148_2
        replace p148 := eq_true p148
        replace q148 := eq_true q148
        go_wp2_with (first | ((with_reducible refine gate_dst (N := 9) rfl ?_); refine box_event ?hg (N := 9) ?hd (cs := #[.int .i64 0, .int .i64 0, .int .i64 0]) (t := 95) ?hr ?_; (case hd => rfl); (case hg => rfl); (case hr => first | (go_simp; done) | (go_simp; rfl)); intro gb149 hg w34 hbox hb; have n0_ := Aside0.mk (blk_below (g := gb147) (o := .cells #[.bool true, .slice A0_1 l0_1.length c0_1, .slice (some ad148) l0_2.length c0_2] 25 (0, 0)) (by (with_reducible repeat (first | refine blk_drewN ?_ _ | refine blk_drew ?_ | refine blk_alloc ?_ _)); exact BK147.out) hb); have n1_ := Aside0.mk (below_step (by repeat (first | (with_reducible first | exact HB.out | apply below_alloc | apply pw_below_drewN | apply below_drew1 | refine below_set ?_ GE147.out) | exact HB.out)) hb); have n2_ := Aside0.mk (hbox); have n3_ := Aside0.mk ((by rw [hg]; exact (below_size (by repeat (first | (with_reducible first | exact HB.out | apply below_alloc | apply pw_below_drewN | apply below_drew1 | refine below_set ?_ GE147.out) | exact HB.out))) : w.heap.size ≤ gb149)); have n4_ := Aside0.mk ((by rw [hg]; exact (below_size (by repeat (first | (with_reducible first | exact HB.out | apply below_alloc | apply pw_below_drewN | apply below_drew1 | refine below_set ?_ GE147.out) | exact HB.out))) : w.heap.size ≤ gb149)); have n5_ := Aside0.mk ((by rw [hg]; exact Nat.ne_of_lt (blk_lt (g := gb147) (o := .cells #[.bool true, .slice A0_1 l0_1.length c0_1, .slice (some ad148) l0_2.length c0_2] 25 (0, 0)) (by (with_reducible repeat (first | refine blk_drewN ?_ _ | refine blk_drew ?_ | refine blk_alloc ?_ _)); exact BK147.out)) : gb147 ≠ gb149)); have n6_ := Aside0.mk ((by rw [hg]; exact Nat.ne_of_gt (blk_lt (g := gb147) (o := .cells #[.bool true, .slice A0_1 l0_1.length c0_1, .slice (some ad148) l0_2.length c0_2] 25 (0, 0)) (by (with_reducible repeat (first | refine blk_drewN ?_ _ | refine blk_drew ?_ | refine blk_alloc ?_ _)); exact BK147.out)) : gb149 ≠ gb147)); clear BK147; clear HB; have BK147 := n0_; have HB := n1_; have BK149 := n2_; have GW149 := n3_; have GE149 := n4_; have NB147_149 := n5_; have NB149_147 := n6_; clear n0_ n1_ n2_ n3_ n4_ n5_ n6_; clear hb hbox hg; have hnb35 := NB149_147.out; have hnc35 := NB147_149.out; have hcz36_0 : w34.cell? ⟨gb149, 0, none⟩ = some (.int .i64 0) := (blk_cell BK149.out 0).trans rfl; have hcz36_1 : w34.cell? ⟨gb149, 1, none⟩ = some (.int .i64 0) := (blk_cell BK149.out 1).trans rfl; have hcz36_2 : w34.cell? ⟨gb149, 2, none⟩ = some (.int .i64 0) := (blk_cell BK149.out 2).trans rfl; have hfz36_0 := blk_frozen BK149.out 0; have hfz36_1 := blk_frozen BK149.out 1; have hfz36_2 := blk_frozen BK149.out 2; have hcz37_0 : w34.cell? ⟨gb147, 0, none⟩ = some (.bool true) := (blk_cell BK147.out 0).trans rfl; have hcz37_1 : w34.cell? ⟨gb147, 1, none⟩ = some (.slice A0_1 l0_1.length c0_1) := (blk_cell BK147.out 1).trans rfl; have hcz37_2 : w34.cell? ⟨gb147, 2, none⟩ = some (.slice (some ad148) l0_2.length c0_2) := (blk_cell BK147.out 2).trans rfl; have hfz37_0 := blk_frozen BK147.out 0; have hfz37_1 := blk_frozen BK147.out 1; have hfz37_2 := blk_frozen BK147.out 2))
        go_roundg k1
        case measure => have := HK1.out; omega
        case rel => exact ⟨(x6_1), (x7_1), (wrap64 (x13_1 + 1)), (by first | rfl | (simp; done) | (simp [*]; done)), (by first | rfl | (simp; done) | (simp [*]; done)), (by first | rfl | (simp; done) | (simp [*]; done)), H', ⟨by have := HK1.out; omega⟩, ⟨by (with_reducible repeat (first | refine blk_drewN ?_ _ | refine blk_drew ?_ | refine blk_alloc ?_ _)); refine blk_far ?_ NB147_149.out _; (with_reducible repeat (first | refine blk_drewN ?_ _ | refine blk_drew ?_ | refine blk_alloc ?_ _)); refine blk_far ?_ NB147_149.out _; (with_reducible repeat (first | refine blk_drewN ?_ _ | refine blk_drew ?_ | refine blk_alloc ?_ _)); refine blk_far ?_ NB147_149.out _; (with_reducible repeat (first | refine blk_drewN ?_ _ | refine blk_drew ?_ | refine blk_alloc ?_ _)); exact BK147.out⟩, ⟨by repeat (first | (with_reducible first | exact HB.out | apply below_alloc | apply pw_below_drewN | apply below_drew1 | refine below_set ?_ GE147.out | refine below_set ?_ GE149.out) | exact HB.out)⟩⟩
       ·replace c33 := Bool.eq_false_iff.mpr c33
        subst c33
        have H1 : (if ((rd_T95 l0_2 x13_1).f0) = a2 then (if ((rd_T95 l0_2 x13_1).f1) = a1 then (spec_Weight.l0 k1 a1 a2 ((rd_T95 l0_2 x13_1).f2) true l0_2 (l0_2.length : Int) (wrap64 (x13_1 + 1)) false l0_1 l0_2) else (spec_Weight.l0 k1 a1 a2 x6_1 x7_1 l0_2 (l0_2.length : Int) (wrap64 (x13_1 + 1)) false l0_1 l0_2)) else (spec_Weight.l0 k1 a1 a2 x6_1 x7_1 l0_2 (l0_2.length : Int) (wrap64 (x13_1 + 1)) false l0_1 l0_2)) = some (r1, r2) := by rw [if_neg (show ¬ (false = true) by decide)] at H; exact H
        clear H
        have H := H1
        clear H1
        by_cases c38 : ((rd_T95 l0_2 x13_1).f0) = a2
        ·rw [if_pos c38] at H
         have c38b0 : (((rd_T95 l0_2 x13_1).f0) == a2) = true := beq_iff_eq.mpr c38
         have c38b1 : (((rd_T95 l0_2 x13_1).f0) != a2) = false := bne_eq_false_iff_eq.mpr c38
         clear c38
         by_cases c39 : ((rd_T95 l0_2 x13_1).f1) = a1
         ·rw [if_pos c39] at H
          have c39b0 : (((rd_T95 l0_2 x13_1).f1) == a1) = true := beq_iff_eq.mpr c39
          have c39b1 : (((rd_T95 l0_2 x13_1).f1) != a1) = false := bne_eq_false_iff_eq.mpr c39
          clear c39
          have H' := Aside0.mk H
          clear H
          have p148 : 0 ≤ (x13_1 : Int) := of_decide_eq_true (by first | (with_reducible assumption) | assumption)
          have q148 : x13_1 < (l0_2.length : Int) := of_decide_eq_true (by first | (with_reducible assumption) | assumption)
          obtain ⟨ad148, e148, hx148_0, hx148_1, hx148_2⟩ := at_T95 HR0_2.out x13_1 p148 q148
          cases e148
          replace hx148_0 := (HB.out.cell (World.block_lt_of_cell? w _ hx148_0)).trans hx148_0
          replace hx148_1 := (HB.out.cell (World.block_lt_of_cell? w _ hx148_1)).trans hx148_1
          replace hx148_2 := (HB.out.cell (World.block_lt_of_cell? w _ hx148_2)).trans hx148_2
          replace p148 := eq_true p148
          replace q148 := eq_true q148
          go_wp2_with (first | ((with_reducible refine gate_dst (N := 9) rfl ?_); refine box_event ?hg (N := 9) ?hd (cs := #[.int .i64 0, .int .i64 0, .int .i64 0]) (t := 95) ?hr ?_; (case hd => rfl); (case hg => rfl); (case hr => first | (go_simp; done) | (go_simp; rfl)); intro gb149 hg w40 hbox hb; have n0_ := Aside0.mk (blk_below (g := gb147) (o := .cells #[.bool false, .slice A0_1 l0_1.length c0_1, .slice (some ad148) l0_2.length c0_2] 25 (0, 0)) (by (with_reducible repeat (first | refine blk_drewN ?_ _ | refine blk_drew ?_ | refine blk_alloc ?_ _)); exact BK147.out) hb); have n1_ := Aside0.mk (below_step (by repeat (first | (with_reducible first | exact HB.out | apply below_alloc | apply pw_below_drewN | apply below_drew1 | refine below_set ?_ GE147.out) | exact HB.out)) hb); have n2_ := Aside0.mk (hbox); have n3_ := Aside0.mk ((by rw [hg]; exact (below_size (by repeat (first | (with_reducible first | exact HB.out | apply below_alloc | apply pw_below_drewN | apply below_drew1 | refine below_set ?_ GE147.out) | exact HB.out))) : w.heap.size ≤ gb149)); have n4_ := Aside0.mk ((by rw [hg]; exact (below_size (by repeat (first | (with_reducible first | exact HB.out | apply below_alloc | apply pw_below_drewN | apply below_drew1 | refine below_set ?_ GE147.out) | exact HB.out))) : w.heap.size ≤ gb149)); have n5_ := Aside0.mk ((by rw [hg]; exact Nat.ne_of_lt (blk_lt (g := gb147) (o := .cells #[.bool false, .slice A0_1 l0_1.length c0_1, .slice (some ad148) l0_2.length c0_2] 25 (0, 0)) (by (with_reducible repeat (first | refine blk_drewN ?_ _ | refine blk_drew ?_ | refine blk_alloc ?_ _)); exact BK147.out)) : gb147 ≠ gb149)); have n6_ := Aside0.mk ((by rw [hg]; exact Nat.ne_of_gt (blk_lt (g := gb147) (o := .cells #[.bool false, .slice A0_1 l0_1.length c0_1, .slice (some ad148) l0_2.length c0_2] 25 (0, 0)) (by (with_reducible repeat (first | refine blk_drewN ?_ _ | refine blk_drew ?_ | refine blk_alloc ?_ _)); exact BK147.out)) : gb149 ≠ gb147)); clear BK147; clear HB; have BK147 := n0_; have HB := n1_; have BK149 := n2_; have GW149 := n3_; have GE149 := n4_; have NB147_149 := n5_; have NB149_147 := n6_; clear n0_ n1_ n2_ n3_ n4_ n5_ n6_; clear hb hbox hg; have hnb41 := NB149_147.out; have hnc41 := NB147_149.out; have hcz42_0 : w40.cell? ⟨gb149, 0, none⟩ = some (.int .i64 0) := (blk_cell BK149.out 0).trans rfl; have hcz42_1 : w40.cell? ⟨gb149, 1, none⟩ = some (.int .i64 0) := (blk_cell BK149.out 1).trans rfl; have hcz42_2 : w40.cell? ⟨gb149, 2, none⟩ = some (.int .i64 0) := (blk_cell BK149.out 2).trans rfl; have hfz42_0 := blk_frozen BK149.out 0; have hfz42_1 := blk_frozen BK149.out 1; have hfz42_2 := blk_frozen BK149.out 2; have hcz43_0 : w40.cell? ⟨gb147, 0, none⟩ = some (.bool false) := (blk_cell BK147.out 0).trans rfl; have hcz43_1 : w40.cell? ⟨gb147, 1, none⟩ = some (.slice A0_1 l0_1.length c0_1) := (blk_cell BK147.out 1).trans rfl; have hcz43_2 : w40.cell? ⟨gb147, 2, none⟩ = some (.slice (some ad148) l0_2.length c0_2) := (blk_cell BK147.out 2).trans rfl; have hfz43_0 := blk_frozen BK147.out 0; have hfz43_1 := blk_frozen BK147.out 1; have hfz43_2 := blk_frozen BK147.out 2))
          go_roundg k1
          case measure => have := HK1.out; omega
          case rel => exact ⟨((rd_T95 l0_2 x13_1).f2), (true), (wrap64 (x13_1 + 1)), (by first | rfl | (simp; done) | (simp [*]; done)), (by first | rfl | (simp; done) | (simp [*]; done)), (by first | rfl | (simp; done) | (simp [*]; done)), H', ⟨by have := HK1.out; omega⟩, ⟨by (with_reducible repeat (first | refine blk_drewN ?_ _ | refine blk_drew ?_ | refine blk_alloc ?_ _)); refine blk_far ?_ NB147_149.out _; (with_reducible repeat (first | refine blk_drewN ?_ _ | refine blk_drew ?_ | refine blk_alloc ?_ _)); refine blk_far ?_ NB147_149.out _; (with_reducible repeat (first | refine blk_drewN ?_ _ | refine blk_drew ?_ | refine blk_alloc ?_ _)); refine blk_far ?_ NB147_149.out _; (with_reducible repeat (first | refine blk_drewN ?_ _ | refine blk_drew ?_ | refine blk_alloc ?_ _)); exact BK147.out⟩, ⟨by repeat (first | (with_reducible first | exact HB.out | apply below_alloc | apply pw_below_drewN | apply below_drew1 | refine below_set ?_ GE147.out | refine below_set ?_ GE149.out) | exact HB.out)⟩⟩
         ·rw [if_neg c39] at H
          have c39b0 : (((rd_T95 l0_2 x13_1).f1) == a1) = false := beq_eq_false_iff_ne.mpr c39
          have c39b1 : (((rd_T95 l0_2 x13_1).f1) != a1) = true := bne_iff_ne.mpr c39
          have H' := Aside0.mk H
          clear H
          have p148 : 0 ≤ (x13_1 : Int) := of_decide_eq_true (by first | (with_reducible assumption) | assumption)
          have q148 : x13_1 < (l0_2.length : Int) := of_decide_eq_true (by first | (with_reducible assumption) | assumption)
          obtain ⟨ad148, e148, hx148_0, hx148_1, hx148_2⟩ := at_T95 HR0_2.out x13_1 p148 q148
          cases e148
          replace hx148_0 := (HB.out.cell (World.block_lt_of_cell? w _ hx148_0)).trans hx148_0
          replace hx148_1 := (HB.out.cell (World.block_lt_of_cell? w _ hx148_1)).trans hx148_1
          replace hx148_2 := (HB.out.cell (World.block_lt_of_cell? w _ hx148_2)).trans hx148_2
          replace p148 := eq_true p148
          replace q148 := eq_true q148
          go_wp2_with (first | ((with_reducible refine gate_dst (N := 9) rfl ?_); refine box_event ?hg (N := 9) ?hd (cs := #[.int .i64 0, .int .i64 0, .int .i64 0]) (t := 95) ?hr ?_; (case hd => rfl); (case hg => rfl); (case hr => first | (go_simp; done) | (go_simp; rfl)); intro gb149 hg w44 hbox hb; have n0_ := Aside0.mk (blk_below (g := gb147) (o := .cells #[.bool false, .slice A0_1 l0_1.length c0_1, .slice (some ad148) l0_2.length c0_2] 25 (0, 0)) (by (with_reducible repeat (first | refine blk_drewN ?_ _ | refine blk_drew ?_ | refine blk_alloc ?_ _)); exact BK147.out) hb); have n1_ := Aside0.mk (below_step (by repeat (first | (with_reducible first | exact HB.out | apply below_alloc | apply pw_below_drewN | apply below_drew1 | refine below_set ?_ GE147.out) | exact HB.out)) hb); have n2_ := Aside0.mk (hbox); have n3_ := Aside0.mk ((by rw [hg]; exact (below_size (by repeat (first | (with_reducible first | exact HB.out | apply below_alloc | apply pw_below_drewN | apply below_drew1 | refine below_set ?_ GE147.out) | exact HB.out))) : w.heap.size ≤ gb149)); have n4_ := Aside0.mk ((by rw [hg]; exact (below_size (by repeat (first | (with_reducible first | exact HB.out | apply below_alloc | apply pw_below_drewN | apply below_drew1 | refine below_set ?_ GE147.out) | exact HB.out))) : w.heap.size ≤ gb149)); have n5_ := Aside0.mk ((by rw [hg]; exact Nat.ne_of_lt (blk_lt (g := gb147) (o := .cells #[.bool false, .slice A0_1 l0_1.length c0_1, .slice (some ad148) l0_2.length c0_2] 25 (0, 0)) (by (with_reducible repeat (first | refine blk_drewN ?_ _ | refine blk_drew ?_ | refine blk_alloc ?_ _)); exact BK147.out)) : gb147 ≠ gb149)); have n6_ := Aside0.mk ((by rw [hg]; exact Nat.ne_of_gt (blk_lt (g := gb147) (o := .cells #[.bool false, .slice A0_1 l0_1.length c0_1, .slice (some ad148) l0_2.length c0_2] 25 (0, 0)) (by (with_reducible repeat (first | refine blk_drewN ?_ _ | refine blk_drew ?_ | refine blk_alloc ?_ _)); exact BK147.out)) : gb149 ≠ gb147)); clear BK147; clear HB; have BK147 := n0_; have HB := n1_; have BK149 := n2_; have GW149 := n3_; have GE149 := n4_; have NB147_149 := n5_; have NB149_147 := n6_; clear n0_ n1_ n2_ n3_ n4_ n5_ n6_; clear hb hbox hg; have hnb45 := NB149_147.out; have hnc45 := NB147_149.out; have hcz46_0 : w44.cell? ⟨gb149, 0, none⟩ = some (.int .i64 0) := (blk_cell BK149.out 0).trans rfl; have hcz46_1 : w44.cell? ⟨gb149, 1, none⟩ = some (.int .i64 0) := (blk_cell BK149.out 1).trans rfl; have hcz46_2 : w44.cell? ⟨gb149, 2, none⟩ = some (.int .i64 0) := (blk_cell BK149.out 2).trans rfl; have hfz46_0 := blk_frozen BK149.out 0; have hfz46_1 := blk_frozen BK149.out 1; have hfz46_2 := blk_frozen BK149.out 2; have hcz47_0 : w44.cell? ⟨gb147, 0, none⟩ = some (.bool false) := (blk_cell BK147.out 0).trans rfl; have hcz47_1 : w44.cell? ⟨gb147, 1, none⟩ = some (.slice A0_1 l0_1.length c0_1) := (blk_cell BK147.out 1).trans rfl; have hcz47_2 : w44.cell? ⟨gb147, 2, none⟩ = some (.slice (some ad148) l0_2.length c0_2) := (blk_cell BK147.out 2).trans rfl; have hfz47_0 := blk_frozen BK147.out 0; have hfz47_1 := blk_frozen BK147.out 1; have hfz47_2 := blk_frozen BK147.out 2))
          go_roundg k1
          case measure => have := HK1.out; omega
          case rel => exact ⟨(x6_1), (x7_1), (wrap64 (x13_1 + 1)), (by first | rfl | (simp; done) | (simp [*]; done)), (by first | rfl | (simp; done) | (simp [*]; done)), (by first | rfl | (simp; done) | (simp [*]; done)), H', ⟨by have := HK1.out; omega⟩, ⟨by (with_reducible repeat (first | refine blk_drewN ?_ _ | refine blk_drew ?_ | refine blk_alloc ?_ _)); refine blk_far ?_ NB147_149.out _; (with_reducible repeat (first | refine blk_drewN ?_ _ | refine blk_drew ?_ | refine blk_alloc ?_ _)); refine blk_far ?_ NB147_149.out _; (with_reducible repeat (first | refine blk_drewN ?_ _ | refine blk_drew ?_ | refine blk_alloc ?_ _)); refine blk_far ?_ NB147_149.out _; (with_reducible repeat (first | refine blk_drewN ?_ _ | refine blk_drew ?_ | refine blk_alloc ?_ _)); exact BK147.out⟩, ⟨by repeat (first | (with_reducible first | exact HB.out | apply below_alloc | apply pw_below_drewN | apply below_drew1 | refine below_set ?_ GE147.out | refine below_set ?_ GE149.out) | exact HB.out)⟩⟩
        ·rw [if_neg c38] at H
         have c38b0 : (((rd_T95 l0_2 x13_1).f0) == a2) = false := beq_eq_false_iff_ne.mpr c38
         have c38b1 : (((rd_T95 l0_2 x13_1).f0) != a2) = true := bne_iff_ne.mpr c38
         have H' := Aside0.mk H
         clear H
         have p148 : 0 ≤ (x13_1 : Int) := of_decide_eq_true (by first | (with_reducible assumption) | assumption)
         have q148 : x13_1 < (l0_2.length : Int) := of_decide_eq_true (by first | (with_reducible assumption) | assumption)
         obtain ⟨ad148, e148, hx148_0, hx148_1, hx148_2⟩ := at_T95 HR0_2.out x13_1 p148 q148
         cases e148
         replace hx148_0 := (HB.out.cell (World.block_lt_of_cell? w _ hx148_0)).trans hx148_0
         replace hx148_1 := (HB.out.cell (World.block_lt_of_cell? w _ hx148_1)).trans hx148_1
         replace hx148_2 := (HB.out.cell (World.block_lt_of_cell? w _ hx148_2)).trans hx148_2
         replace p148 := eq_true p148
         replace q148 := eq_true q148
         go_wp2_with (first | ((with_reducible refine gate_dst (N := 9) rfl ?_); refine box_event ?hg (N := 9) ?hd (cs := #[.int .i64 0, .int .i64 0, .int .i64 0]) (t := 95) ?hr ?_; (case hd => rfl); (case hg => rfl); (case hr => first | (go_simp; done) | (go_simp; rfl)); intro gb149 hg w48 hbox hb; have n0_ := Aside0.mk (blk_below (g := gb147) (o := .cells #[.bool false, .slice A0_1 l0_1.length c0_1, .slice (some ad148) l0_2.length c0_2] 25 (0, 0)) (by (with_reducible repeat (first | refine blk_drewN ?_ _ | refine blk_drew ?_ | refine blk_alloc ?_ _)); exact BK147.out) hb); have n1_ := Aside0.mk (below_step (by repeat (first | (with_reducible first | exact HB.out | apply below_alloc | apply pw_below_drewN | apply below_drew1 | refine below_set ?_ GE147.out) | exact HB.out)) hb); have n2_ := Aside0.mk (hbox); have n3_ := Aside0.mk ((by rw [hg]; exact (below_size (by repeat (first | (with_reducible first | exact HB.out | apply below_alloc | apply pw_below_drewN | apply below_drew1 | refine below_set ?_ GE147.out) | exact HB.out))) : w.heap.size ≤ gb149)); have n4_ := Aside0.mk ((by rw [hg]; exact (below_size (by repeat (first | (with_reducible first | exact HB.out | apply below_alloc | apply pw_below_drewN | apply below_drew1 | refine below_set ?_ GE147.out) | exact HB.out))) : w.heap.size ≤ gb149)); have n5_ := Aside0.mk ((by rw [hg]; exact Nat.ne_of_lt (blk_lt (g := gb147) (o := .cells #[.bool false, .slice A0_1 l0_1.length c0_1, .slice (some ad148) l0_2.length c0_2] 25 (0, 0)) (by (with_reducible repeat (first | refine blk_drewN ?_ _ | refine blk_drew ?_ | refine blk_alloc ?_ _)); exact BK147.out)) : gb147 ≠ gb149)); have n6_ := Aside0.mk ((by rw [hg]; exact Nat.ne_of_gt (blk_lt (g := gb147) (o := .cells #[.bool false, .slice A0_1 l0_1.length c0_1, .slice (some ad148) l0_2.length c0_2] 25 (0, 0)) (by (with_reducible repeat (first | refine blk_drewN ?_ _ | refine blk_drew ?_ | refine blk_alloc ?_ _)); exact BK147.out)) : gb149 ≠ gb147)); clear BK147; clear HB; have BK147 := n0_; have HB := n1_; have BK149 := n2_; have GW149 := n3_; have GE149 := n4_; have NB147_149 := n5_; have NB149_147 := n6_; clear n0_ n1_ n2_ n3_ n4_ n5_ n6_; clear hb hbox hg; have hnb49 := NB149_147.out; have hnc49 := NB147_149.out; have hcz50_0 : w48.cell? ⟨gb149, 0, none⟩ = some (.int .i64 0) := (blk_cell BK149.out 0).trans rfl; have hcz50_1 : w48.cell? ⟨gb149, 1, none⟩ = some (.int .i64 0) := (blk_cell BK149.out 1).trans rfl; have hcz50_2 : w48.cell? ⟨gb149, 2, none⟩ = some (.int .i64 0) := (blk_cell BK149.out 2).trans rfl; have hfz50_0 := blk_frozen BK149.out 0; have hfz50_1 := blk_frozen BK149.out 1; have hfz50_2 := blk_frozen BK149.out 2; have hcz51_0 : w48.cell? ⟨gb147, 0, none⟩ = some (.bool false) := (blk_cell BK147.out 0).trans rfl; have hcz51_1 : w48.cell? ⟨gb147, 1, none⟩ = some (.slice A0_1 l0_1.length c0_1) := (blk_cell BK147.out 1).trans rfl; have hcz51_2 : w48.cell? ⟨gb147, 2, none⟩ = some (.slice (some ad148) l0_2.length c0_2) := (blk_cell BK147.out 2).trans rfl; have hfz51_0 := blk_frozen BK147.out 0; have hfz51_1 := blk_frozen BK147.out 1; have hfz51_2 := blk_frozen BK147.out 2))
         go_roundg k1
         case measure => have := HK1.out; omega
         case rel => exact ⟨(x6_1), (x7_1), (wrap64 (x13_1 + 1)), (by first | rfl | (simp; done) | (simp [*]; done)), (by first | rfl | (simp; done) | (simp [*]; done)), (by first | rfl | (simp; done) | (simp [*]; done)), H', ⟨by have := HK1.out; omega⟩, ⟨by (with_reducible repeat (first | refine blk_drewN ?_ _ | refine blk_drew ?_ | refine blk_alloc ?_ _)); refine blk_far ?_ NB147_149.out _; (with_reducible repeat (first | refine blk_drewN ?_ _ | refine blk_drew ?_ | refine blk_alloc ?_ _)); refine blk_far ?_ NB147_149.out _; (with_reducible repeat (first | refine blk_drewN ?_ _ | refine blk_drew ?_ | refine blk_alloc ?_ _)); refine blk_far ?_ NB147_149.out _; (with_reducible repeat (first | refine blk_drewN ?_ _ | refine blk_drew ?_ | refine blk_alloc ?_ _)); exact BK147.out⟩, ⟨by repeat (first | (with_reducible first | exact HB.out | apply below_alloc | apply pw_below_drewN | apply below_drew1 | refine below_set ?_ GE147.out | refine below_set ?_ GE149.out) | exact HB.out)⟩⟩
     ·rw [if_neg c8] at H
      exact absurd H (by simp)
    ·rw [if_neg c7] at H
     exact absurd H (by simp)
   ·rw [if_neg c6] at H
    have c6b0 : decide (x13_1 < (l0_2.length : Int)) = false := decide_eq_false c6
    clear c6
    simp only [Option.some.injEq, Prod.mk.injEq] at H
    obtain ⟨rfl, rfl⟩ := H
    go_wp2
    go_ret2
    exact ⟨by first | rfl | (simp [errW_none, errW_some] <;> rfl) | (simp [*, errW_none, errW_some] <;> rfl), by repeat (first | (with_reducible first | exact HB.out | apply below_alloc | apply pw_below_drewN | apply below_drew1 | refine below_set ?_ GE147.out) | exact HB.out)⟩

/-! ### spec_Joined: function 102 -/
def spec_Joined.f (k : Nat) (a0_0 : Bool) (l0_1 : List Int) (l0_2 : List (S95)) (a1 : Int) (a2 : Int) : Option (Bool) := (spec_Weight.f k a0_0 l0_1 l0_2 a1 a2).bind fun bt151 => (some bt151.2)
set_option maxHeartbeats 8000000 in
set_option maxRecDepth 100000 in
theorem spec_Joined.calls (k : Nat) (a0_0 : Bool) (A0_1 : Option Addr) (c0_1 : Nat) (l0_1 : List Int) (A0_2 : Option Addr) (c0_2 : Nat) (l0_2 : List (S95)) (a1 : Int) (a2 : Int) (r : Bool) (w : World) (hr0_1 : Kd.C (Kd.int .i64) w A0_1 l0_1.length l0_1) (hc0_1 : l0_1.length ≤ c0_1) (hr0_2 : Kd.C k95 w A0_2 l0_2.length l0_2) (hc0_2 : l0_2.length ≤ c0_2) (h : spec_Joined.f k a0_0 l0_1 l0_2 a1 a2 = some r) :
  Calls Tryz.prog 102 #[.agg #[.bool a0_0, .slice A0_1 l0_1.length c0_1, .slice A0_2 l0_2.length c0_2], .int .i64 a1, .int .i64 a2] w fun e w' => e = .returned (.bool r) ∧ Below w.heap.size w w' := by
 have hu25 := Tryz.underlying25
 have HR0_1 := Aside0.mk hr0_1
 have HC0_1 := Aside0.mk hc0_1
 clear hr0_1 hc0_1
 have HR0_2 := Aside0.mk hr0_2
 have HC0_2 := Aside0.mk hc0_2
 clear hr0_2 hc0_2
 have HB := Aside0.mk (Below.refl w.heap.size w)
 have H : ((spec_Weight.f k a0_0 l0_1 l0_2 a1 a2).bind fun bt151 => (some bt151.2)) = some r := h
 clear h
 replace H := Option.bind_eq_some_iff.mp H
 obtain ⟨⟨t151, t152⟩, A40, H⟩ := H
 replace H : (some t152) = some r := H
 have A4 := Aside0.mk A40
 clear A40
 obtain rfl := Option.some.inj H
 go_enter Tryz.func102, Tryz.ntmps102
 go_wp2_with (first | ((with_reducible refine gate_dst (N := 3) rfl ?_); refine box_event ?hg (N := 3) ?hd (cs := #[.bool a0_0, .slice A0_1 l0_1.length c0_1, .slice A0_2 l0_2.length c0_2]) (t := 25) ?hr ?_; (case hd => rfl); (case hg => rfl); (case hr => first | (go_simp; done) | (go_simp; rfl)); intro gb150 hg w5 hbox hb; have n0_ := Aside0.mk (below_step (by repeat (first | (with_reducible first | exact HB.out | apply below_alloc | apply pw_below_drewN | apply below_drew1) | exact HB.out)) hb); have n1_ := Aside0.mk (hbox); have n2_ := Aside0.mk ((by rw [hg]; exact (below_size (by repeat (first | (with_reducible first | exact HB.out | apply below_alloc | apply pw_below_drewN | apply below_drew1) | exact HB.out))) : w.heap.size ≤ gb150)); have n3_ := Aside0.mk ((by rw [hg]; exact (below_size (by repeat (first | (with_reducible first | exact HB.out | apply below_alloc | apply pw_below_drewN | apply below_drew1) | exact HB.out))) : w.heap.size ≤ gb150)); clear HB; have HB := n0_; have BK150 := n1_; have GW150 := n2_; have GE150 := n3_; clear n0_ n1_ n2_ n3_; clear hb hbox hg; have hcz6_0 : w5.cell? ⟨gb150, 0, none⟩ = some (.bool a0_0) := (blk_cell BK150.out 0).trans rfl; have hcz6_1 : w5.cell? ⟨gb150, 1, none⟩ = some (.slice A0_1 l0_1.length c0_1) := (blk_cell BK150.out 1).trans rfl; have hcz6_2 : w5.cell? ⟨gb150, 2, none⟩ = some (.slice A0_2 l0_2.length c0_2) := (blk_cell BK150.out 2).trans rfl; have hfz6_0 := blk_frozen BK150.out 0; have hfz6_1 := blk_frozen BK150.out 1; have hfz6_2 := blk_frozen BK150.out 2) | ((with_reducible refine gate_callee (f := 138) rfl ?_); refine goesL_ (some 13) rfl rfl Tryz.func138 (by kernel_rfl) rfl #[.agg #[.bool a0_0, .slice A0_1 l0_1.length c0_1, .slice A0_2 l0_2.length c0_2], .int .i64 a1, .int .i64 a2] rfl (by (try simp only [List.map_toArray, List.map_cons, List.map_nil]); first | done | rfl | (simp only [List.length_drop, List.length_take]; rfl)) ?_; (with_reducible refine (spec_Weight.calls k a0_0 _ _ l0_1 _ _ l0_2 a1 a2 t151 t152 _ ?side1 ?side2 ?side3 ?side4 A4.out).mono ?_); (case side1 => repeat (first | exact (Kd.C_below HR0_1.out HB.out) | (with_reducible refine Kd.C_alloc ?_ _) | (with_reducible refine Kd.C_drewN ?_ _) | (with_reducible refine Kd.C_drew ?_))); (case side2 => exact HC0_1.out); (case side3 => repeat (first | exact (Kd.C_below HR0_2.out HB.out) | (with_reducible refine Kd.C_alloc ?_ _) | (with_reducible refine Kd.C_drewN ?_ _) | (with_reducible refine Kd.C_drew ?_))); (case side4 => exact HC0_2.out); rintro e w7 ⟨rfl, hb⟩; refine ⟨_, rfl, ?_⟩; have n0_ := Aside0.mk (blk_below (g := gb150) (o := .cells #[.bool a0_0, .slice A0_1 l0_1.length c0_1, .slice A0_2 l0_2.length c0_2] 25 (0, 0)) (by (with_reducible repeat (first | refine blk_drewN ?_ _ | refine blk_drew ?_ | refine blk_alloc ?_ _)); exact BK150.out) hb); have n1_ := Aside0.mk (below_step (by repeat (first | (with_reducible first | exact HB.out | apply below_alloc | apply pw_below_drewN | apply below_drew1 | refine below_set ?_ GE150.out) | exact HB.out)) hb); clear BK150; clear HB; have BK150 := n0_; have HB := n1_; clear n0_ n1_; (try clear hb); (try clear hb2); (try clear hk); (try clear hi)))
 go_ret
 exact ⟨by first | rfl | (simp [errW_none, errW_some] <;> rfl) | (simp [*, errW_none, errW_some] <;> rfl), by repeat (first | (with_reducible first | exact HB.out | apply below_alloc | apply pw_below_drewN | apply below_drew1 | refine below_set ?_ GE150.out) | exact HB.out)⟩

/-! ### spec_From: function 71 -/
def spec_From.l0 : Nat → Int → List Int → List Int → Int → Int → Bool → List Int → List (S95) → Option (List Int)
 | 0, _, _, _, _, _, _, _, _ => none
 | k + 1, x1, x5, x9, x10, x11, x154000, x154001, x154002 => if x11 < x10 then (if 0 ≤ x11 then (if x11 < (x9.length : Int) then ((spec_Joined.f k x154000 x154001 x154002 x1 (rd x9 x11)).bind fun t158 => (if t158 = true then (if x5.length < 17592186044416 then (spec_From.l0 k x1 (x5 ++ [rd x9 x11]) x9 x10 (wrap64 (x11 + 1)) x154000 x154001 x154002) else (none)) else (spec_From.l0 k x1 x5 x9 x10 (wrap64 (x11 + 1)) x154000 x154001 x154002))) else (none)) else (none)) else (some x5)
def spec_From.f (k : Nat) (a0_0 : Bool) (l0_1 : List Int) (l0_2 : List (S95)) (a1 : Int) : Option (List Int) := (spec_Nodes.f a0_0 l0_1 l0_2).bind fun t154 => (spec_From.l0 k a1 ([] : List Int) t154 (t154.length : Int) 0 a0_0 l0_1 l0_2)
set_option maxHeartbeats 8000000 in
set_option maxRecDepth 100000 in
theorem spec_From.calls (k : Nat) (a0_0 : Bool) (A0_1 : Option Addr) (c0_1 : Nat) (l0_1 : List Int) (A0_2 : Option Addr) (c0_2 : Nat) (l0_2 : List (S95)) (a1 : Int) (r : List Int) (w : World) (hr0_1 : Kd.C (Kd.int .i64) w A0_1 l0_1.length l0_1) (hc0_1 : l0_1.length ≤ c0_1) (hr0_2 : Kd.C k95 w A0_2 l0_2.length l0_2) (hc0_2 : l0_2.length ≤ c0_2) (h : spec_From.f k a0_0 l0_1 l0_2 a1 = some r) :
  Calls Tryz.prog 71 #[.agg #[.bool a0_0, .slice A0_1 l0_1.length c0_1, .slice A0_2 l0_2.length c0_2], .int .i64 a1] w fun e w' => ∃ v0_ : Value, e = .returned (v0_) ∧ Kd.R (Kd.int .i64) 3 w' w.heap.size (fun _ => True) v0_ r ∧ Below w.heap.size w w' := by
 have hu25 := Tryz.underlying25
 have HR0_1 := Aside0.mk hr0_1
 have HC0_1 := Aside0.mk hc0_1
 clear hr0_1 hc0_1
 have HR0_2 := Aside0.mk hr0_2
 have HC0_2 := Aside0.mk hc0_2
 clear hr0_2 hc0_2
 have HB := Aside0.mk (Below.refl w.heap.size w)
 have H : ((spec_Nodes.f a0_0 l0_1 l0_2).bind fun t154 => (spec_From.l0 k a1 ([] : List Int) t154 (t154.length : Int) 0 a0_0 l0_1 l0_2)) = some r := h
 clear h
 replace H := Option.bind_eq_some_iff.mp H
 obtain ⟨t154, A30, H⟩ := H
 replace H : (spec_From.l0 k a1 ([] : List Int) t154 (t154.length : Int) 0 a0_0 l0_1 l0_2) = some r := H
 have A3 := Aside0.mk A30
 clear A30
 have H' := Aside0.mk H
 clear H
 go_enter Tryz.func71, Tryz.ntmps71
 go_wp2_with (first | ((with_reducible refine gate_dst (N := 2) rfl ?_); refine box_event ?hg (N := 2) ?hd (cs := #[.bool a0_0, .slice A0_1 l0_1.length c0_1, .slice A0_2 l0_2.length c0_2]) (t := 25) ?hr ?_; (case hd => rfl); (case hg => rfl); (case hr => first | (go_simp; done) | (go_simp; rfl)); intro gb153 hg w4 hbox hb; have n0_ := Aside0.mk (below_step (by repeat (first | (with_reducible first | exact HB.out | apply below_alloc | apply pw_below_drewN | apply below_drew1) | exact HB.out)) hb); have n1_ := Aside0.mk (hbox); have n2_ := Aside0.mk ((by rw [hg]; exact (below_size (by repeat (first | (with_reducible first | exact HB.out | apply below_alloc | apply pw_below_drewN | apply below_drew1) | exact HB.out))) : w.heap.size ≤ gb153)); have n3_ := Aside0.mk ((by rw [hg]; exact (below_size (by repeat (first | (with_reducible first | exact HB.out | apply below_alloc | apply pw_below_drewN | apply below_drew1) | exact HB.out))) : w.heap.size ≤ gb153)); clear HB; have HB := n0_; have BK153 := n1_; have GW153 := n2_; have GE153 := n3_; clear n0_ n1_ n2_ n3_; clear hb hbox hg; have hcz5_0 : w4.cell? ⟨gb153, 0, none⟩ = some (.bool a0_0) := (blk_cell BK153.out 0).trans rfl; have hcz5_1 : w4.cell? ⟨gb153, 1, none⟩ = some (.slice A0_1 l0_1.length c0_1) := (blk_cell BK153.out 1).trans rfl; have hcz5_2 : w4.cell? ⟨gb153, 2, none⟩ = some (.slice A0_2 l0_2.length c0_2) := (blk_cell BK153.out 2).trans rfl; have hfz5_0 := blk_frozen BK153.out 0; have hfz5_1 := blk_frozen BK153.out 1; have hfz5_2 := blk_frozen BK153.out 2) | ((with_reducible refine gate_callee (f := 32) rfl ?_); refine goesL_ (some 9) rfl rfl Tryz.func32 (by kernel_rfl) rfl #[.agg #[.bool a0_0, .slice A0_1 l0_1.length c0_1, .slice A0_2 l0_2.length c0_2]] rfl (by (try simp only [List.map_toArray, List.map_cons, List.map_nil]); first | done | rfl | (simp only [List.length_drop, List.length_take]; rfl)) ?_; (with_reducible refine (spec_Nodes.calls a0_0 _ _ l0_1 _ _ l0_2 t154 _ ?side1 ?side2 ?side3 ?side4 A3.out).mono ?_); (case side1 => repeat (first | exact (Kd.C_below HR0_1.out HB.out) | (with_reducible refine Kd.C_alloc ?_ _) | (with_reducible refine Kd.C_drewN ?_ _) | (with_reducible refine Kd.C_drew ?_))); (case side2 => exact HC0_1.out); (case side3 => repeat (first | exact (Kd.C_below HR0_2.out HB.out) | (with_reducible refine Kd.C_alloc ?_ _) | (with_reducible refine Kd.C_drewN ?_ _) | (with_reducible refine Kd.C_drew ?_))); (case side4 => exact HC0_2.out); rintro e w6 ⟨v155, rfl, ho0, hb⟩; refine ⟨_, rfl, ?_⟩; have n0_ := Aside0.mk (Kd.R_lower ho0 (below_size (by repeat (first | (with_reducible first | exact HB.out | apply below_alloc | apply pw_below_drewN | apply below_drew1 | refine below_set ?_ GE153.out) | exact HB.out)))); have n1_ := Aside0.mk (blk_below (g := gb153) (o := .cells #[.bool a0_0, .slice A0_1 l0_1.length c0_1, .slice A0_2 l0_2.length c0_2] 25 (0, 0)) (by (with_reducible repeat (first | refine blk_drewN ?_ _ | refine blk_drew ?_ | refine blk_alloc ?_ _)); exact BK153.out) hb); have n2_ := Aside0.mk (below_step (by repeat (first | (with_reducible first | exact HB.out | apply below_alloc | apply pw_below_drewN | apply below_drew1 | refine below_set ?_ GE153.out) | exact HB.out)) hb); clear BK153; clear HB; have HO156 := n0_; have BK153 := n1_; have HB := n2_; clear n0_ n1_ n2_; (try clear hb); (try clear hb2); (try clear hk); (try clear hi); (try clear ho0); obtain ⟨Ao7, co7, eo7⟩ := Kd.R_slice HO156.out; subst eo7))
 go_loopg [5, 11] k (fun kq v5 v11 w' => ∃ (x5_1 : List Int) (x11_1 : Int), v11 = .int .i64 x11_1 ∧ Aside0 (spec_From.l0 kq a1 x5_1 t154 (t154.length : Int) x11_1 a0_0 l0_1 l0_2 = some r) ∧ Aside0 (kq ≤ k) ∧ Aside0 (Kd.R (Kd.int .i64) 3 w' w.heap.size (fun k_ => some k_ ≠ ((.slice Ao7 t154.length co7) : Value).ownBlock) v5 x5_1) ∧ Aside0 (Kd.R (Kd.int .i64) 3 w' w.heap.size (fun k_ => some k_ ≠ (v5 : Value).ownBlock) (.slice Ao7 t154.length co7) t154) ∧ Aside0 (w'.heap[gb153]? = some (.cells #[.bool a0_0, (.slice A0_1 l0_1.length c0_1), (.slice A0_2 l0_2.length c0_2)] 25 (0, 0))) ∧ Aside0 (Below w.heap.size w w'))
 case atStart => exact ⟨(([] : List Int)), (0), (by first | rfl | (simp; done) | (simp [*]; done)), H', ⟨Nat.le_refl _⟩, ⟨by first | exact Kd.R_nil _ _ _ _ _ | exact Kd.N_nil _ _ _ _ _ | exact Kd.V_nil _ _ _ _ _ | exact Kd.Q_nil _ _ _ _ _ | exact Kd.S_nil _ _ _ _ _⟩, ⟨by (with_reducible repeat (first | apply Kd.R_alloc | apply Kd.R_drewN | apply Kd.R_drew)); exact Kd.R_mono HO156.out (fun _ hk => (by simp [Value.ownBlock]))⟩, ⟨by (with_reducible repeat (first | refine blk_drewN ?_ _ | refine blk_drew ?_ | refine blk_alloc ?_ _)); exact BK153.out⟩, ⟨by repeat (first | (with_reducible first | exact HB.out | apply below_alloc | apply pw_below_drewN | apply below_drew1 | refine below_set ?_ GE153.out) | exact HB.out)⟩⟩
 case round =>
  clear H'
  try clear p2
  try clear c3
  try clear c7
  try clear hcz5_0
  try clear hcz5_1
  try clear hcz5_2
  try clear hfz5_0
  try clear hfz5_1
  try clear hfz5_2
  obtain ⟨x5_1, x11_1, rfl, HA, HK1, HO_5, HO_9, BK153, HB⟩ := hrel
  cases gk with
  | zero => exact absurd HA.out (by simp [spec_From.l0])
  | succ k1 =>
   have H := HA.out
   clear HA
   simp only [spec_From.l0] at H
   by_cases c8 : x11_1 < (t154.length : Int)
   ·rw [if_pos c8] at H
    have c8b0 : decide (x11_1 < (t154.length : Int)) = true := decide_eq_true c8
    clear c8
    by_cases c9 : 0 ≤ x11_1
    ·rw [if_pos c9] at H
     have c9b0 : decide (0 ≤ x11_1) = true := decide_eq_true c9
     clear c9
     by_cases c10 : x11_1 < (t154.length : Int)
     ·rw [if_pos c10] at H
      have c10b0 : decide (x11_1 < (t154.length : Int)) = true := decide_eq_true c10
      clear c10
      replace H := Option.bind_eq_some_iff.mp H
      obtain ⟨t158, A110, H⟩ := H
      replace H : (if t158 = true then (if x5_1.length < 17592186044416 then (spec_From.l0 k1 a1 (x5_1 ++ [rd t154 x11_1]) t154 (t154.length : Int) (wrap64 (x11_1 + 1)) a0_0 l0_1 l0_2) else (none)) else (spec_From.l0 k1 a1 x5_1 t154 (t154.length : Int) (wrap64 (x11_1 + 1)) a0_0 l0_1 l0_2)) = some r := H
      have A11 := Aside0.mk A110
      clear A110
      by_cases c12 : t158 = true
      ·subst c12
       have H1 : (if x5_1.length < 17592186044416 then (spec_From.l0 k1 a1 (x5_1 ++ [rd t154 x11_1]) t154 (t154.length : Int) (wrap64 (x11_1 + 1)) a0_0 l0_1 l0_2) else (none)) = some r := by rw [if_pos rfl] at H; exact H
       clear H
       have H := H1
       clear H1
       by_cases c13 : x5_1.length < 17592186044416
       ·rw [if_pos c13] at H
        have LMc13 := Aside0.mk c13
        clear c13
        obtain ⟨y159, hy159⟩ : ∃ y_ : List Int, y_ = (x5_1 ++ [rd t154 x11_1]) := ⟨_, rfl⟩
        replace H : (spec_From.l0 k1 a1 y159 t154 (t154.length : Int) (wrap64 (x11_1 + 1)) a0_0 l0_1 l0_2) = some r := by first | (rw [hy159]; with_reducible exact H) | (have H2_ := (Option.bind_some _ _).symm.trans H; rw [hy159]; with_reducible exact H2_) | (have H2_ := (Option.bind_some _ _).symm.trans H; with_reducible exact H2_) | with_reducible exact H | (rw [hy159]; exact H) | exact H
        have Ny159 := Aside0.mk hy159
        clear hy159
        have H' := Aside0.mk H
        clear H
        have p157 : 0 ≤ (x11_1 : Int) := of_decide_eq_true (by first | (with_reducible assumption) | assumption)
        have q157 : x11_1 < (t154.length : Int) := of_decide_eq_true (by first | (with_reducible assumption) | assumption)
        obtain ⟨ad157, e157, hx157_0⟩ := Kd.at_int (Kd.R_reads' HO_9.out).2.2 x11_1 p157 q157
        cases e157
        replace p157 := eq_true p157
        replace q157 := eq_true q157
        have hcz14_0 : wr.cell? ⟨gb153, 0, none⟩ = some (.bool a0_0) := (blk_cell BK153.out 0).trans rfl
        have hcz14_1 : wr.cell? ⟨gb153, 1, none⟩ = some (.slice A0_1 l0_1.length c0_1) := (blk_cell BK153.out 1).trans rfl
        have hcz14_2 : wr.cell? ⟨gb153, 2, none⟩ = some (.slice A0_2 l0_2.length c0_2) := (blk_cell BK153.out 2).trans rfl
        have hfz14_0 := blk_frozen BK153.out 0
        have hfz14_1 := blk_frozen BK153.out 1
        have hfz14_2 := blk_frozen BK153.out 2
        go_wp2_with (first | ((with_reducible refine gate_callee (f := 102) rfl ?_); refine goesL_ (some 18) rfl rfl Tryz.func102 (by kernel_rfl) rfl #[.agg #[.bool a0_0, .slice A0_1 l0_1.length c0_1, .slice A0_2 l0_2.length c0_2], .int .i64 a1, .int .i64 (rd t154 x11_1)] rfl (by (try simp only [List.map_toArray, List.map_cons, List.map_nil]); first | done | rfl | (simp only [List.length_drop, List.length_take]; rfl)) ?_; (with_reducible refine (spec_Joined.calls k1 a0_0 _ _ l0_1 _ _ l0_2 a1 (rd t154 x11_1) true _ ?side1 ?side2 ?side3 ?side4 A11.out).mono ?_); (case side1 => repeat (first | exact (Kd.C_below HR0_1.out HB.out) | (with_reducible refine Kd.C_alloc ?_ _) | (with_reducible refine Kd.C_drewN ?_ _) | (with_reducible refine Kd.C_drew ?_))); (case side2 => exact HC0_1.out); (case side3 => repeat (first | exact (Kd.C_below HR0_2.out HB.out) | (with_reducible refine Kd.C_alloc ?_ _) | (with_reducible refine Kd.C_drewN ?_ _) | (with_reducible refine Kd.C_drew ?_))); (case side4 => exact HC0_2.out); rintro e w15 ⟨rfl, hb⟩; refine ⟨_, rfl, ?_⟩; have n0_ := Aside0.mk (Kd.R_below (by (with_reducible repeat (first | apply Kd.R_alloc | apply Kd.R_drewN | apply Kd.R_drew)); exact HO_5.out) hb); have n1_ := Aside0.mk (Kd.R_below (by (with_reducible repeat (first | apply Kd.R_alloc | apply Kd.R_drewN | apply Kd.R_drew)); exact HO_9.out) hb); have n2_ := Aside0.mk (blk_below (g := gb153) (o := .cells #[.bool a0_0, .slice A0_1 l0_1.length c0_1, .slice A0_2 l0_2.length c0_2] 25 (0, 0)) (by (with_reducible repeat (first | refine blk_drewN ?_ _ | refine blk_drew ?_ | refine blk_alloc ?_ _)); exact BK153.out) hb); have n3_ := Aside0.mk (below_step (by repeat (first | (with_reducible first | exact HB.out | apply below_alloc | apply pw_below_drewN | apply below_drew1 | refine below_set ?_ GE153.out) | exact HB.out)) hb); clear HO_5; clear HO_9; clear BK153; clear HB; have HO_5 := n0_; have HO_9 := n1_; have BK153 := n2_; have HB := n3_; clear n0_ n1_ n2_ n3_; (try clear hb); (try clear hb2); (try clear hk); (try clear hi)) | ((with_reducible refine gate_builtin (b := .append) (xs := #[.tmp 19, .tmp 21]) rfl ?_); at_builtin; refine Kd.R_append (Kd.int .i64) (w0 := w) w.heap.size rfl (.tmp 19) (.tmp 21) 22 3 (.int .i64 0) 8 rfl Tryz.underlying22 info3 rfl (by decide) (by omega) u5 x5_1 (rd t154 x11_1) [.int .i64 (rd t154 x11_1)] (fun k_ => some k_ ≠ (.slice (some ad157) t154.length co7 : Value).ownBlock) (fun _ => False) rfl rfl ?aP (fun _ hk => hk.elim) ?aF ?aO ?aB ?aS ?aL ?_; (case aP => exact rfl); (case aB => exact (by repeat (first | (with_reducible first | exact HB.out | apply below_alloc | apply pw_below_drewN | apply below_drew1 | refine below_set ?_ GE153.out) | exact HB.out))); (case aF => exact (fun k_ hk => Kd.fresh' (Kd.R_lt (by (with_reducible repeat (first | apply Kd.R_alloc | apply Kd.R_drewN | apply Kd.R_drew)); exact HO_9.out)) k_ hk)); (case aO => exact (by (with_reducible repeat (first | apply Kd.R_alloc | apply Kd.R_drewN | apply Kd.R_drew)); exact HO_5.out)); (case aS => exact (below_size (by repeat (first | (with_reducible first | exact HB.out | apply below_alloc | apply pw_below_drewN | apply below_drew1 | refine below_set ?_ GE153.out) | exact HB.out)))); (case aL => have := LMc13.out; omega); intro v160 w16 ho hb hg hat; rw [← Ny159.out] at ho; have n0_ := Aside0.mk (Kd.R_after (ok := (fun _ => True)) (by (with_reducible repeat (first | apply Kd.R_alloc | apply Kd.R_drewN | apply Kd.R_drew)); exact Kd.R_mono HO_9.out (fun _ hk => ⟨trivial, hk⟩)) hg hat); have n1_ := Aside0.mk (blk_grown (g := gb153) (o := .cells #[.bool a0_0, .slice A0_1 l0_1.length c0_1, .slice A0_2 l0_2.length c0_2] 25 (0, 0)) (by (with_reducible repeat (first | refine blk_drewN ?_ _ | refine blk_drew ?_ | refine blk_alloc ?_ _)); exact BK153.out) hg (Kd.R_ne HO_5.out BK153.out (by decide))); have n2_ := Aside0.mk (hb); have n3_ := Aside0.mk (ho); clear HO_9; clear BK153; clear HB; clear HO_5; have HO_9 := n0_; have BK153 := n1_; have HB := n2_; have HO161 := n3_; clear n0_ n1_ n2_ n3_; clear ho hb hg hat))
        go_roundg k1
        case measure => have := HK1.out; omega
        case rel => exact ⟨(y159), (wrap64 (x11_1 + 1)), (by first | rfl | (simp; done) | (simp [*]; done)), H', ⟨by have := HK1.out; omega⟩, ⟨by (with_reducible repeat (first | apply Kd.R_alloc | apply Kd.R_drewN | apply Kd.R_drew)); exact HO161.out⟩, ⟨by (with_reducible repeat (first | apply Kd.R_alloc | apply Kd.R_drewN | apply Kd.R_drew)); exact Kd.R_mono HO_9.out (fun _ hk => hk.2)⟩, ⟨by (with_reducible repeat (first | refine blk_drewN ?_ _ | refine blk_drew ?_ | refine blk_alloc ?_ _)); exact BK153.out⟩, ⟨by repeat (first | (with_reducible first | exact HB.out | apply below_alloc | apply pw_below_drewN | apply below_drew1 | refine below_set ?_ GE153.out) | exact HB.out)⟩⟩
       ·rw [if_neg c13] at H
        exact absurd H (by simp)
      ·replace c12 := Bool.eq_false_iff.mpr c12
       subst c12
       have H1 : (spec_From.l0 k1 a1 x5_1 t154 (t154.length : Int) (wrap64 (x11_1 + 1)) a0_0 l0_1 l0_2) = some r := by rw [if_neg (show ¬ (false = true) by decide)] at H; exact H
       clear H
       have H := H1
       clear H1
       have H' := Aside0.mk H
       clear H
       have p157 : 0 ≤ (x11_1 : Int) := of_decide_eq_true (by first | (with_reducible assumption) | assumption)
       have q157 : x11_1 < (t154.length : Int) := of_decide_eq_true (by first | (with_reducible assumption) | assumption)
       obtain ⟨ad157, e157, hx157_0⟩ := Kd.at_int (Kd.R_reads' HO_9.out).2.2 x11_1 p157 q157
       cases e157
       replace p157 := eq_true p157
       replace q157 := eq_true q157
       have hcz17_0 : wr.cell? ⟨gb153, 0, none⟩ = some (.bool a0_0) := (blk_cell BK153.out 0).trans rfl
       have hcz17_1 : wr.cell? ⟨gb153, 1, none⟩ = some (.slice A0_1 l0_1.length c0_1) := (blk_cell BK153.out 1).trans rfl
       have hcz17_2 : wr.cell? ⟨gb153, 2, none⟩ = some (.slice A0_2 l0_2.length c0_2) := (blk_cell BK153.out 2).trans rfl
       have hfz17_0 := blk_frozen BK153.out 0
       have hfz17_1 := blk_frozen BK153.out 1
       have hfz17_2 := blk_frozen BK153.out 2
       go_wp2_with (first | ((with_reducible refine gate_callee (f := 102) rfl ?_); refine goesL_ (some 18) rfl rfl Tryz.func102 (by kernel_rfl) rfl #[.agg #[.bool a0_0, .slice A0_1 l0_1.length c0_1, .slice A0_2 l0_2.length c0_2], .int .i64 a1, .int .i64 (rd t154 x11_1)] rfl (by (try simp only [List.map_toArray, List.map_cons, List.map_nil]); first | done | rfl | (simp only [List.length_drop, List.length_take]; rfl)) ?_; (with_reducible refine (spec_Joined.calls k1 a0_0 _ _ l0_1 _ _ l0_2 a1 (rd t154 x11_1) false _ ?side1 ?side2 ?side3 ?side4 A11.out).mono ?_); (case side1 => repeat (first | exact (Kd.C_below HR0_1.out HB.out) | (with_reducible refine Kd.C_alloc ?_ _) | (with_reducible refine Kd.C_drewN ?_ _) | (with_reducible refine Kd.C_drew ?_))); (case side2 => exact HC0_1.out); (case side3 => repeat (first | exact (Kd.C_below HR0_2.out HB.out) | (with_reducible refine Kd.C_alloc ?_ _) | (with_reducible refine Kd.C_drewN ?_ _) | (with_reducible refine Kd.C_drew ?_))); (case side4 => exact HC0_2.out); rintro e w18 ⟨rfl, hb⟩; refine ⟨_, rfl, ?_⟩; have n0_ := Aside0.mk (Kd.R_below (by (with_reducible repeat (first | apply Kd.R_alloc | apply Kd.R_drewN | apply Kd.R_drew)); exact HO_5.out) hb); have n1_ := Aside0.mk (Kd.R_below (by (with_reducible repeat (first | apply Kd.R_alloc | apply Kd.R_drewN | apply Kd.R_drew)); exact HO_9.out) hb); have n2_ := Aside0.mk (blk_below (g := gb153) (o := .cells #[.bool a0_0, .slice A0_1 l0_1.length c0_1, .slice A0_2 l0_2.length c0_2] 25 (0, 0)) (by (with_reducible repeat (first | refine blk_drewN ?_ _ | refine blk_drew ?_ | refine blk_alloc ?_ _)); exact BK153.out) hb); have n3_ := Aside0.mk (below_step (by repeat (first | (with_reducible first | exact HB.out | apply below_alloc | apply pw_below_drewN | apply below_drew1 | refine below_set ?_ GE153.out) | exact HB.out)) hb); clear HO_5; clear HO_9; clear BK153; clear HB; have HO_5 := n0_; have HO_9 := n1_; have BK153 := n2_; have HB := n3_; clear n0_ n1_ n2_ n3_; (try clear hb); (try clear hb2); (try clear hk); (try clear hi)))
       go_roundg k1
       case measure => have := HK1.out; omega
       case rel => exact ⟨(x5_1), (wrap64 (x11_1 + 1)), (by first | rfl | (simp; done) | (simp [*]; done)), H', ⟨by have := HK1.out; omega⟩, ⟨by (with_reducible repeat (first | apply Kd.R_alloc | apply Kd.R_drewN | apply Kd.R_drew)); exact HO_5.out⟩, ⟨by (with_reducible repeat (first | apply Kd.R_alloc | apply Kd.R_drewN | apply Kd.R_drew)); exact HO_9.out⟩, ⟨by (with_reducible repeat (first | refine blk_drewN ?_ _ | refine blk_drew ?_ | refine blk_alloc ?_ _)); exact BK153.out⟩, ⟨by repeat (first | (with_reducible first | exact HB.out | apply below_alloc | apply pw_below_drewN | apply below_drew1 | refine below_set ?_ GE153.out) | exact HB.out)⟩⟩
     ·rw [if_neg c10] at H
      exact absurd H (by simp)
    ·rw [if_neg c9] at H
     exact absurd H (by simp)
   ·rw [if_neg c8] at H
    have c8b0 : decide (x11_1 < (t154.length : Int)) = false := decide_eq_false c8
    clear c8
    obtain rfl := Option.some.inj H
    go_wp2
    go_ret
    exact ⟨_, by first | rfl | (simp [errW_none, errW_some] <;> rfl) | (simp [*, errW_none, errW_some] <;> rfl), by (with_reducible repeat (first | apply Kd.R_alloc | apply Kd.R_drewN | apply Kd.R_drew)); exact Kd.R_mono HO_5.out (fun _ hk => trivial), by repeat (first | (with_reducible first | exact HB.out | apply below_alloc | apply pw_below_drewN | apply below_drew1 | refine below_set ?_ GE153.out) | exact HB.out)⟩

-- NOT PRINTED: function 34 (spec_walk_visit)

end Go.Proofs.YtddklkgcodjijaaGreat.PL
