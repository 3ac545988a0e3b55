/- Printed by a program (the kit's printer, run over contracts that were proved by hand). -/
import Derived.Test.YtfkmpnpliadohaaGreatDT0
set_option linter.unusedVariables false
set_option linter.unusedSimpArgs false
namespace Go.Proofs.YtfkmpnpliadohaaGreat.PL
open Go.RowKit Go.Proofs.YtfkmpnpliadohaaGreatW.PrintWords Go.Proofs.YtfkmpnpliadohaaGreatW.PrintLast Go.Proofs.YtfkmpnpliadohaaGreatW.PrintMore
attribute [local go_sem] max2_int min2_int max_two min_two max_three min_three max_four min_four   -- for this text's walks alone
set_option linter.unusedVariables false
set_option linter.unusedSimpArgs false

/-! ### spec_Weight: function 60 -/
def spec_Weight.l0 : Nat → Int → Int → Int → Bool → List (S38) → Int → Int → Bool → List Int → List (S38) → Option (Int × Bool)
 | 0, _, _, _, _, _, _, _, _, _, _ => none
 | k + 1, x1, x2, x6, x7, x11, x12, x13, x236000, x236001, x236002 => if x13 < x12 then (if 0 ≤ x13 then (if x13 < (x11.length : Int) then (if ((rd_T38 x11 x13).f0) = x1 then (if ((rd_T38 x11 x13).f1) = x2 then (spec_Weight.l0 k x1 x2 ((rd_T38 x11 x13).f2) true x11 x12 (wrap64 (x13 + 1)) x236000 x236001 x236002) else (if x236000 = true then (spec_Weight.l0 k x1 x2 x6 x7 x11 x12 (wrap64 (x13 + 1)) x236000 x236001 x236002) else (if ((rd_T38 x11 x13).f0) = x2 then (if ((rd_T38 x11 x13).f1) = x1 then (spec_Weight.l0 k x1 x2 ((rd_T38 x11 x13).f2) true x11 x12 (wrap64 (x13 + 1)) x236000 x236001 x236002) else (spec_Weight.l0 k x1 x2 x6 x7 x11 x12 (wrap64 (x13 + 1)) x236000 x236001 x236002)) else (spec_Weight.l0 k x1 x2 x6 x7 x11 x12 (wrap64 (x13 + 1)) x236000 x236001 x236002)))) else (if x236000 = true then (spec_Weight.l0 k x1 x2 x6 x7 x11 x12 (wrap64 (x13 + 1)) x236000 x236001 x236002) else (if ((rd_T38 x11 x13).f0) = x2 then (if ((rd_T38 x11 x13).f1) = x1 then (spec_Weight.l0 k x1 x2 ((rd_T38 x11 x13).f2) true x11 x12 (wrap64 (x13 + 1)) x236000 x236001 x236002) else (spec_Weight.l0 k x1 x2 x6 x7 x11 x12 (wrap64 (x13 + 1)) x236000 x236001 x236002)) else (spec_Weight.l0 k x1 x2 x6 x7 x11 x12 (wrap64 (x13 + 1)) x236000 x236001 x236002)))) else (none)) else (none)) else (some (x6, x7))
def spec_Weight.f (k : Nat) (a0_0 : Bool) (l0_1 : List Int) (l0_2 : List (S38)) (a1 : Int) (a2 : Int) : Option (Int × Bool) := spec_Weight.l0 k a1 a2 0 false l0_2 (l0_2.length : Int) 0 a0_0 l0_1 l0_2
theorem spec_Weight.mono_l : ∀ k, (∀ y0 y1 y2 y3 y4 y5 y6 y7 y8 y9, LeO (spec_Weight.l0 k y0 y1 y2 y3 y4 y5 y6 y7 y8 y9) (spec_Weight.l0 (k + 1) y0 y1 y2 y3 y4 y5 y6 y7 y8 y9))
 | 0 => fun _ _ _ _ _ _ _ _ _ _ r h => by simp [spec_Weight.l0] at h
 | k + 1 => by
  have ih0 := spec_Weight.mono_l k
  ·intro y0 y1 y2 y3 y4 y5 y6 y7 y8 y9
   unfold spec_Weight.l0
   repeat' first
   | (with_reducible exact ih0 _ _ _ _ _ _ _ _ _ _)
   | (with_reducible exact LeO.refl _)
   | (with_reducible exact LeO.none _)
   | (with_reducible refine LeO.ite ?_ ?_)
   | (with_reducible refine LeO.bind ?_ (fun _ => ?_))
   | exact ih0 _ _ _ _ _ _ _ _ _ _
   | exact LeO.none _
   | refine LeO.ite ?_ ?_
   | refine LeO.bind ?_ (fun _ => ?_)
theorem spec_Weight.mono : ∀ a0 a1 a2 a3 a4 k, LeO (spec_Weight.f k a0 a1 a2 a3 a4) (spec_Weight.f (k + 1) a0 a1 a2 a3 a4) := by
 intro a0 a1 a2 a3 a4 k
 have ih0 := spec_Weight.mono_l k
 unfold spec_Weight.f
 repeat' first
   | (with_reducible exact ih0 _ _ _ _ _ _ _ _ _ _)
   | (with_reducible exact LeO.refl _)
   | (with_reducible exact LeO.none _)
   | (with_reducible refine LeO.ite ?_ ?_)
   | (with_reducible refine LeO.bind ?_ (fun _ => ?_))
   | exact ih0 _ _ _ _ _ _ _ _ _ _
   | exact LeO.none _
   | refine LeO.ite ?_ ?_
   | refine LeO.bind ?_ (fun _ => ?_)
set_option maxHeartbeats 8000000 in
set_option maxRecDepth 100000 in
theorem spec_Weight.calls (k : Nat) (a0_0 : Bool) (A0_1 : Option Addr) (c0_1 : Nat) (l0_1 : List Int) (A0_2 : Option Addr) (c0_2 : Nat) (l0_2 : List (S38)) (a1 : Int) (a2 : Int) (r1 : Int) (r2 : Bool) (w : World) (hr0_1 : Kd.C (Kd.int .i64) w A0_1 l0_1.length l0_1) (hc0_1 : l0_1.length ≤ c0_1) (hr0_2 : Kd.C k38 w A0_2 l0_2.length l0_2) (hc0_2 : l0_2.length ≤ c0_2) (h : spec_Weight.f k a0_0 l0_1 l0_2 a1 a2 = some (r1, r2)) :
  Calls Tryz.prog 60 #[.agg #[.bool a0_0, .slice A0_1 l0_1.length c0_1, .slice A0_2 l0_2.length c0_2], .int .i64 a1, .int .i64 a2] w fun e w' => e = .returned (.tuple #[.int .i64 r1, .bool r2]) ∧ Below w.heap.size w w' := by
 have hu25 := Tryz.underlying25
 have hu38 := Tryz.underlying38
 have HR0_1 := Aside0.mk hr0_1
 have HC0_1 := Aside0.mk hc0_1
 clear hr0_1 hc0_1
 have HR0_2 := Aside0.mk hr0_2
 have HC0_2 := Aside0.mk hc0_2
 clear hr0_2 hc0_2
 have HB := Aside0.mk (Below.refl w.heap.size w)
 have H : (spec_Weight.l0 k a1 a2 0 false l0_2 (l0_2.length : Int) 0 a0_0 l0_1 l0_2) = some (r1, r2) := h
 clear h
 have H' := Aside0.mk H
 clear H
 go_enter Tryz.func60, Tryz.ntmps60
 go_wp2_with (first | ((with_reducible refine gate_dst (N := 3) rfl ?_); refine box_event ?hg (N := 3) ?hd (cs := #[.bool a0_0, .slice A0_1 l0_1.length c0_1, .slice A0_2 l0_2.length c0_2]) (t := 25) ?hr ?_; (case hd => rfl); (case hg => rfl); (case hr => first | (go_simp; done) | (go_simp; rfl)); intro gb235 hg w4 hbox hb; have n0_ := Aside0.mk (below_step (by repeat (first | (with_reducible first | exact HB.out | apply below_alloc | apply pw_below_drewN | apply below_drew1) | exact HB.out)) hb); have n1_ := Aside0.mk (hbox); have n2_ := Aside0.mk ((by rw [hg]; exact (below_size (by repeat (first | (with_reducible first | exact HB.out | apply below_alloc | apply pw_below_drewN | apply below_drew1) | exact HB.out))) : w.heap.size ≤ gb235)); have n3_ := Aside0.mk ((by rw [hg]; exact (below_size (by repeat (first | (with_reducible first | exact HB.out | apply below_alloc | apply pw_below_drewN | apply below_drew1) | exact HB.out))) : w.heap.size ≤ gb235)); clear HB; have HB := n0_; have BK235 := n1_; have GW235 := n2_; have GE235 := n3_; clear n0_ n1_ n2_ n3_; clear hb hbox hg; have hcz5_0 : w4.cell? ⟨gb235, 0, none⟩ = some (.bool a0_0) := (blk_cell BK235.out 0).trans rfl; have hcz5_1 : w4.cell? ⟨gb235, 1, none⟩ = some (.slice A0_1 l0_1.length c0_1) := (blk_cell BK235.out 1).trans rfl; have hcz5_2 : w4.cell? ⟨gb235, 2, none⟩ = some (.slice A0_2 l0_2.length c0_2) := (blk_cell BK235.out 2).trans rfl; have hfz5_0 := blk_frozen BK235.out 0; have hfz5_1 := blk_frozen BK235.out 1; have hfz5_2 := blk_frozen BK235.out 2))
 go_loopg [6, 7, 13] k (fun kq v6 v7 v13 w' => ∃ (x6_1 : Int) (x7_1 : Bool) (x13_1 : Int), v6 = .int .i64 x6_1 ∧ v7 = .bool x7_1 ∧ v13 = .int .i64 x13_1 ∧ Aside0 (spec_Weight.l0 kq a1 a2 x6_1 x7_1 l0_2 (l0_2.length : Int) x13_1 a0_0 l0_1 l0_2 = some (r1, r2)) ∧ Aside0 (kq ≤ k) ∧ Aside0 (w'.heap[gb235]? = some (.cells #[.bool a0_0, (.slice A0_1 l0_1.length c0_1), (.slice A0_2 l0_2.length c0_2)] 25 (0, 0))) ∧ Aside0 (Below w.heap.size w w'))
 case atStart => exact ⟨(0), (false), (0), (by first | rfl | (simp; done) | (simp [*]; done)), (by first | rfl | (simp; done) | (simp [*]; done)), (by first | rfl | (simp; done) | (simp [*]; done)), H', ⟨Nat.le_refl _⟩, ⟨by (with_reducible repeat (first | refine blk_drewN ?_ _ | refine blk_drew ?_ | refine blk_alloc ?_ _)); exact BK235.out⟩, ⟨by repeat (first | (with_reducible first | exact HB.out | apply below_alloc | apply pw_below_drewN | apply below_drew1 | refine below_set ?_ GE235.out) | exact HB.out)⟩⟩
 case round =>
  clear H'
  try clear p2
  try clear hcz5_0
  try clear hcz5_1
  try clear hcz5_2
  try clear hfz5_0
  try clear hfz5_1
  try clear hfz5_2
  obtain ⟨x6_1, x7_1, x13_1, rfl, rfl, rfl, HA, HK1, BK235, HB⟩ := hrel
  cases gk with
  | zero => exact absurd HA.out (by simp [spec_Weight.l0])
  | succ k1 =>
   have H := HA.out
   clear HA
   simp only [spec_Weight.l0] at H
   by_cases c6 : x13_1 < (l0_2.length : Int)
   ·rw [if_pos c6] at H
    have c6b0 : decide (x13_1 < (l0_2.length : Int)) = true := decide_eq_true c6
    clear c6
    by_cases c7 : 0 ≤ x13_1
    ·rw [if_pos c7] at H
     have c7b0 : decide (0 ≤ x13_1) = true := decide_eq_true c7
     clear c7
     by_cases c8 : x13_1 < (l0_2.length : Int)
     ·rw [if_pos c8] at H
      have c8b0 : decide (x13_1 < (l0_2.length : Int)) = true := decide_eq_true c8
      clear c8
      by_cases c9 : ((rd_T38 l0_2 x13_1).f0) = a1
      ·rw [if_pos c9] at H
       have c9b0 : (((rd_T38 l0_2 x13_1).f0) == a1) = true := beq_iff_eq.mpr c9
       have c9b1 : (((rd_T38 l0_2 x13_1).f0) != a1) = false := bne_eq_false_iff_eq.mpr c9
       clear c9
       by_cases c10 : ((rd_T38 l0_2 x13_1).f1) = a2
       ·rw [if_pos c10] at H
        have c10b0 : (((rd_T38 l0_2 x13_1).f1) == a2) = true := beq_iff_eq.mpr c10
        have c10b1 : (((rd_T38 l0_2 x13_1).f1) != a2) = false := bne_eq_false_iff_eq.mpr c10
        clear c10
        have H' := Aside0.mk H
        clear H
        have p236 : 0 ≤ (x13_1 : Int) := of_decide_eq_true (by first | (with_reducible assumption) | assumption)
        have q236 : x13_1 < (l0_2.length : Int) := of_decide_eq_true (by first | (with_reducible assumption) | assumption)
        obtain ⟨ad236, e236, hx236_0, hx236_1, hx236_2⟩ := at_T38 HR0_2.out x13_1 p236 q236
        cases e236
        replace hx236_0 := (HB.out.cell (World.block_lt_of_cell? w _ hx236_0)).trans hx236_0
        replace hx236_1 := (HB.out.cell (World.block_lt_of_cell? w _ hx236_1)).trans hx236_1
        replace hx236_2 := (HB.out.cell (World.block_lt_of_cell? w _ hx236_2)).trans hx236_2
        replace p236 := eq_true p236
        replace q236 := eq_true q236
        go_wp2_with (first | ((with_reducible refine gate_dst (N := 9) rfl ?_); refine box_event ?hg (N := 9) ?hd (cs := #[.int .i64 0, .int .i64 0, .int .i64 0]) (t := 38) ?hr ?_; (case hd => rfl); (case hg => rfl); (case hr => first | (go_simp; done) | (go_simp; rfl)); intro gb237 hg w11 hbox hb; have n0_ := Aside0.mk (blk_below (g := gb235) (o := .cells #[.bool a0_0, .slice A0_1 l0_1.length c0_1, .slice (some ad236) l0_2.length c0_2] 25 (0, 0)) (by (with_reducible repeat (first | refine blk_drewN ?_ _ | refine blk_drew ?_ | refine blk_alloc ?_ _)); exact BK235.out) hb); have n1_ := Aside0.mk (below_step (by repeat (first | (with_reducible first | exact HB.out | apply below_alloc | apply pw_below_drewN | apply below_drew1 | refine below_set ?_ GE235.out) | exact HB.out)) hb); have n2_ := Aside0.mk (hbox); have n3_ := Aside0.mk ((by rw [hg]; exact (below_size (by repeat (first | (with_reducible first | exact HB.out | apply below_alloc | apply pw_below_drewN | apply below_drew1 | refine below_set ?_ GE235.out) | exact HB.out))) : w.heap.size ≤ gb237)); have n4_ := Aside0.mk ((by rw [hg]; exact (below_size (by repeat (first | (with_reducible first | exact HB.out | apply below_alloc | apply pw_below_drewN | apply below_drew1 | refine below_set ?_ GE235.out) | exact HB.out))) : w.heap.size ≤ gb237)); have n5_ := Aside0.mk ((by rw [hg]; exact Nat.ne_of_lt (blk_lt (g := gb235) (o := .cells #[.bool a0_0, .slice A0_1 l0_1.length c0_1, .slice (some ad236) l0_2.length c0_2] 25 (0, 0)) (by (with_reducible repeat (first | refine blk_drewN ?_ _ | refine blk_drew ?_ | refine blk_alloc ?_ _)); exact BK235.out)) : gb235 ≠ gb237)); have n6_ := Aside0.mk ((by rw [hg]; exact Nat.ne_of_gt (blk_lt (g := gb235) (o := .cells #[.bool a0_0, .slice A0_1 l0_1.length c0_1, .slice (some ad236) l0_2.length c0_2] 25 (0, 0)) (by (with_reducible repeat (first | refine blk_drewN ?_ _ | refine blk_drew ?_ | refine blk_alloc ?_ _)); exact BK235.out)) : gb237 ≠ gb235)); clear BK235; clear HB; have BK235 := n0_; have HB := n1_; have BK237 := n2_; have GW237 := n3_; have GE237 := n4_; have NB235_237 := n5_; have NB237_235 := n6_; clear n0_ n1_ n2_ n3_ n4_ n5_ n6_; clear hb hbox hg; have hnb12 := NB237_235.out; have hnc12 := NB235_237.out; have hcz13_0 : w11.cell? ⟨gb237, 0, none⟩ = some (.int .i64 0) := (blk_cell BK237.out 0).trans rfl; have hcz13_1 : w11.cell? ⟨gb237, 1, none⟩ = some (.int .i64 0) := (blk_cell BK237.out 1).trans rfl; have hcz13_2 : w11.cell? ⟨gb237, 2, none⟩ = some (.int .i64 0) := (blk_cell BK237.out 2).trans rfl; have hfz13_0 := blk_frozen BK237.out 0; have hfz13_1 := blk_frozen BK237.out 1; have hfz13_2 := blk_frozen BK237.out 2))
        go_roundg k1
        case measure => have := HK1.out; omega
        case rel => exact ⟨((rd_T38 l0_2 x13_1).f2), (true), (wrap64 (x13_1 + 1)), (by first | rfl | (simp; done) | (simp [*]; done)), (by first | rfl | (simp; done) | (simp [*]; done)), (by first | rfl | (simp; done) | (simp [*]; done)), H', ⟨by have := HK1.out; omega⟩, ⟨by (with_reducible repeat (first | refine blk_drewN ?_ _ | refine blk_drew ?_ | refine blk_alloc ?_ _)); refine blk_far ?_ NB235_237.out _; (with_reducible repeat (first | refine blk_drewN ?_ _ | refine blk_drew ?_ | refine blk_alloc ?_ _)); refine blk_far ?_ NB235_237.out _; (with_reducible repeat (first | refine blk_drewN ?_ _ | refine blk_drew ?_ | refine blk_alloc ?_ _)); refine blk_far ?_ NB235_237.out _; (with_reducible repeat (first | refine blk_drewN ?_ _ | refine blk_drew ?_ | refine blk_alloc ?_ _)); exact BK235.out⟩, ⟨by repeat (first | (with_reducible first | exact HB.out | apply below_alloc | apply pw_below_drewN | apply below_drew1 | refine below_set ?_ GE235.out | refine below_set ?_ GE237.out) | exact HB.out)⟩⟩
       ·rw [if_neg c10] at H
        have c10b0 : (((rd_T38 l0_2 x13_1).f1) == a2) = false := beq_eq_false_iff_ne.mpr c10
        have c10b1 : (((rd_T38 l0_2 x13_1).f1) != a2) = true := bne_iff_ne.mpr c10
        by_cases c14 : a0_0 = true
        ·subst c14
         have H1 : (spec_Weight.l0 k1 a1 a2 x6_1 x7_1 l0_2 (l0_2.length : Int) (wrap64 (x13_1 + 1)) true l0_1 l0_2) = some (r1, r2) := by rw [if_pos rfl] at H; exact H
         clear H
         have H := H1
         clear H1
         have H' := Aside0.mk H
         clear H
         have p236 : 0 ≤ (x13_1 : Int) := of_decide_eq_true (by first | (with_reducible assumption) | assumption)
         have q236 : x13_1 < (l0_2.length : Int) := of_decide_eq_true (by first | (with_reducible assumption) | assumption)
         obtain ⟨ad236, e236, hx236_0, hx236_1, hx236_2⟩ := at_T38 HR0_2.out x13_1 p236 q236
         cases e236
         replace hx236_0 := (HB.out.cell (World.block_lt_of_cell? w _ hx236_0)).trans hx236_0
         replace hx236_1 := (HB.out.cell (World.block_lt_of_cell? w _ hx236_1)).trans hx236_1
         replace hx236_2 := (HB.out.cell (World.block_lt_of_cell? w _ hx236_2)).trans hx236_2
         replace p236 := eq_true p236
         replace q236 := eq_true q236
         go_wp2_with (first | ((with_reducible refine gate_dst (N := 9) rfl ?_); refine box_event ?hg (N := 9) ?hd (cs := #[.int .i64 0, .int .i64 0, .int .i64 0]) (t := 38) ?hr ?_; (case hd => rfl); (case hg => rfl); (case hr => first | (go_simp; done) | (go_simp; rfl)); intro gb237 hg w15 hbox hb; have n0_ := Aside0.mk (blk_below (g := gb235) (o := .cells #[.bool true, .slice A0_1 l0_1.length c0_1, .slice (some ad236) l0_2.length c0_2] 25 (0, 0)) (by (with_reducible repeat (first | refine blk_drewN ?_ _ | refine blk_drew ?_ | refine blk_alloc ?_ _)); exact BK235.out) hb); have n1_ := Aside0.mk (below_step (by repeat (first | (with_reducible first | exact HB.out | apply below_alloc | apply pw_below_drewN | apply below_drew1 | refine below_set ?_ GE235.out) | exact HB.out)) hb); have n2_ := Aside0.mk (hbox); have n3_ := Aside0.mk ((by rw [hg]; exact (below_size (by repeat (first | (with_reducible first | exact HB.out | apply below_alloc | apply pw_below_drewN | apply below_drew1 | refine below_set ?_ GE235.out) | exact HB.out))) : w.heap.size ≤ gb237)); have n4_ := Aside0.mk ((by rw [hg]; exact (below_size (by repeat (first | (with_reducible first | exact HB.out | apply below_alloc | apply pw_below_drewN | apply below_drew1 | refine below_set ?_ GE235.out) | exact HB.out))) : w.heap.size ≤ gb237)); have n5_ := Aside0.mk ((by rw [hg]; exact Nat.ne_of_lt (blk_lt (g := gb235) (o := .cells #[.bool true, .slice A0_1 l0_1.length c0_1, .slice (some ad236) l0_2.length c0_2] 25 (0, 0)) (by (with_reducible repeat (first | refine blk_drewN ?_ _ | refine blk_drew ?_ | refine blk_alloc ?_ _)); exact BK235.out)) : gb235 ≠ gb237)); have n6_ := Aside0.mk ((by rw [hg]; exact Nat.ne_of_gt (blk_lt (g := gb235) (o := .cells #[.bool true, .slice A0_1 l0_1.length c0_1, .slice (some ad236) l0_2.length c0_2] 25 (0, 0)) (by (with_reducible repeat (first | refine blk_drewN ?_ _ | refine blk_drew ?_ | refine blk_alloc ?_ _)); exact BK235.out)) : gb237 ≠ gb235)); clear BK235; clear HB; have BK235 := n0_; have HB := n1_; have BK237 := n2_; have GW237 := n3_; have GE237 := n4_; have NB235_237 := n5_; have NB237_235 := n6_; clear n0_ n1_ n2_ n3_ n4_ n5_ n6_; clear hb hbox hg; have hnb16 := NB237_235.out; have hnc16 := NB235_237.out; have hcz17_0 : w15.cell? ⟨gb237, 0, none⟩ = some (.int .i64 0) := (blk_cell BK237.out 0).trans rfl; have hcz17_1 : w15.cell? ⟨gb237, 1, none⟩ = some (.int .i64 0) := (blk_cell BK237.out 1).trans rfl; have hcz17_2 : w15.cell? ⟨gb237, 2, none⟩ = some (.int .i64 0) := (blk_cell BK237.out 2).trans rfl; have hfz17_0 := blk_frozen BK237.out 0; have hfz17_1 := blk_frozen BK237.out 1; have hfz17_2 := blk_frozen BK237.out 2; have hcz18_0 : w15.cell? ⟨gb235, 0, none⟩ = some (.bool true) := (blk_cell BK235.out 0).trans rfl; have hcz18_1 : w15.cell? ⟨gb235, 1, none⟩ = some (.slice A0_1 l0_1.length c0_1) := (blk_cell BK235.out 1).trans rfl; have hcz18_2 : w15.cell? ⟨gb235, 2, none⟩ = some (.slice (some ad236) l0_2.length c0_2) := (blk_cell BK235.out 2).trans rfl; have hfz18_0 := blk_frozen BK235.out 0; have hfz18_1 := blk_frozen BK235.out 1; have hfz18_2 := blk_frozen BK235.out 2))
         go_roundg k1
         case measure => have := HK1.out; omega
         case rel => exact ⟨(x6_1), (x7_1), (wrap64 (x13_1 + 1)), (by first | rfl | (simp; done) | (simp [*]; done)), (by first | rfl | (simp; done) | (simp [*]; done)), (by first | rfl | (simp; done) | (simp [*]; done)), H', ⟨by have := HK1.out; omega⟩, ⟨by (with_reducible repeat (first | refine blk_drewN ?_ _ | refine blk_drew ?_ | refine blk_alloc ?_ _)); refine blk_far ?_ NB235_237.out _; (with_reducible repeat (first | refine blk_drewN ?_ _ | refine blk_drew ?_ | refine blk_alloc ?_ _)); refine blk_far ?_ NB235_237.out _; (with_reducible repeat (first | refine blk_drewN ?_ _ | refine blk_drew ?_ | refine blk_alloc ?_ _)); refine blk_far ?_ NB235_237.out _; (with_reducible repeat (first | refine blk_drewN ?_ _ | refine blk_drew ?_ | refine blk_alloc ?_ _)); exact BK235.out⟩, ⟨by repeat (first | (with_reducible first | exact HB.out | apply below_alloc | apply pw_below_drewN | apply below_drew1 | refine below_set ?_ GE235.out | refine below_set ?_ GE237.out) | exact HB.out)⟩⟩
        ·replace c14 := Bool.eq_false_iff.mpr c14
         subst c14
         have H1 : (if ((rd_T38 l0_2 x13_1).f0) = a2 then (if ((rd_T38 l0_2 x13_1).f1) = a1 then (spec_Weight.l0 k1 a1 a2 ((rd_T38 l0_2 x13_1).f2) true l0_2 (l0_2.length : Int) (wrap64 (x13_1 + 1)) false l0_1 l0_2) else (spec_Weight.l0 k1 a1 a2 x6_1 x7_1 l0_2 (l0_2.length : Int) (wrap64 (x13_1 + 1)) false l0_1 l0_2)) else (spec_Weight.l0 k1 a1 a2 x6_1 x7_1 l0_2 (l0_2.length : Int) (wrap64 (x13_1 + 1)) false l0_1 l0_2)) = some (r1, r2) := by rw [if_neg (show ¬ (false = true) by decide)] at H; exact H
         clear H
         have H := H1
         clear H1
         by_cases c19 : ((rd_T38 l0_2 x13_1).f0) = a2
         ·rw [if_pos c19] at H
          have c19b0 : (((rd_T38 l0_2 x13_1).f0) == a2) = true := beq_iff_eq.mpr c19
          have c19b1 : (((rd_T38 l0_2 x13_1).f0) != a2) = false := bne_eq_false_iff_eq.mpr c19
          clear c19
          by_cases c20 : ((rd_T38 l0_2 x13_1).f1) = a1
          ·rw [if_pos c20] at H
           have c20b0 : (((rd_T38 l0_2 x13_1).f1) == a1) = true := beq_iff_eq.mpr c20
           have c20b1 : (((rd_T38 l0_2 x13_1).f1) != a1) = false := bne_eq_false_iff_eq.mpr c20
           clear c20
           have H' := Aside0.mk H
           clear H
           have p236 : 0 ≤ (x13_1 : Int) := of_decide_eq_true (by first | (with_reducible assumption) | assumption)
           have q236 : x13_1 < (l0_2.length : Int) := of_decide_eq_true (by first | (with_reducible assumption) | assumption)
           obtain ⟨ad236, e236, hx236_0, hx236_1, hx236_2⟩ := at_T38 HR0_2.out x13_1 p236 q236
           cases e236
           replace hx236_0 := (HB.out.cell (World.block_lt_of_cell? w _ hx236_0)).trans hx236_0
           replace hx236_1 := (HB.out.cell (World.block_lt_of_cell? w _ hx236_1)).trans hx236_1
           replace hx236_2 := (HB.out.cell (World.block_lt_of_cell? w _ hx236_2)).trans hx236_2
           replace p236 := eq_true p236
           replace q236 := eq_true q236
           go_wp2_with (first | ((with_reducible refine gate_dst (N := 9) rfl ?_); refine box_event ?hg (N := 9) ?hd (cs := #[.int .i64 0, .int .i64 0, .int .i64 0]) (t := 38) ?hr ?_; (case hd => rfl); (case hg => rfl); (case hr => first | (go_simp; done) | (go_simp; rfl)); intro gb237 hg w21 hbox hb; have n0_ := Aside0.mk (blk_below (g := gb235) (o := .cells #[.bool false, .slice A0_1 l0_1.length c0_1, .slice (some ad236) l0_2.length c0_2] 25 (0, 0)) (by (with_reducible repeat (first | refine blk_drewN ?_ _ | refine blk_drew ?_ | refine blk_alloc ?_ _)); exact BK235.out) hb); have n1_ := Aside0.mk (below_step (by repeat (first | (with_reducible first | exact HB.out | apply below_alloc | apply pw_below_drewN | apply below_drew1 | refine below_set ?_ GE235.out) | exact HB.out)) hb); have n2_ := Aside0.mk (hbox); have n3_ := Aside0.mk ((by rw [hg]; exact (below_size (by repeat (first | (with_reducible first | exact HB.out | apply below_alloc | apply pw_below_drewN | apply below_drew1 | refine below_set ?_ GE235.out) | exact HB.out))) : w.heap.size ≤ gb237)); have n4_ := Aside0.mk ((by rw [hg]; exact (below_size (by repeat (first | (with_reducible first | exact HB.out | apply below_alloc | apply pw_below_drewN | apply below_drew1 | refine below_set ?_ GE235.out) | exact HB.out))) : w.heap.size ≤ gb237)); have n5_ := Aside0.mk ((by rw [hg]; exact Nat.ne_of_lt (blk_lt (g := gb235) (o := .cells #[.bool false, .slice A0_1 l0_1.length c0_1, .slice (some ad236) l0_2.length c0_2] 25 (0, 0)) (by (with_reducible repeat (first | refine blk_drewN ?_ _ | refine blk_drew ?_ | refine blk_alloc ?_ _)); exact BK235.out)) : gb235 ≠ gb237)); have n6_ := Aside0.mk ((by rw [hg]; exact Nat.ne_of_gt (blk_lt (g := gb235) (o := .cells #[.bool false, .slice A0_1 l0_1.length c0_1, .slice (some ad236) l0_2.length c0_2] 25 (0, 0)) (by (with_reducible repeat (first | refine blk_drewN ?_ _ | refine blk_drew ?_ | refine blk_alloc ?_ _)); exact BK235.out)) : gb237 ≠ gb235)); clear BK235; clear HB; have BK235 := n0_; have HB := n1_; have BK237 := n2_; have GW237 := n3_; have GE237 := n4_; have NB235_237 := n5_; have NB237_235 := n6_; clear n0_ n1_ n2_ n3_ n4_ n5_ n6_; clear hb hbox hg; have hnb22 := NB237_235.out; have hnc22 := NB235_237.out; have hcz23_0 : w21.cell? ⟨gb237, 0, none⟩ = some (.int .i64 0) := (blk_cell BK237.out 0).trans rfl; have hcz23_1 : w21.cell? ⟨gb237, 1, none⟩ = some (.int .i64 0) := (blk_cell BK237.out 1).trans rfl; have hcz23_2 : w21.cell? ⟨gb237, 2, none⟩ = some (.int .i64 0) := (blk_cell BK237.out 2).trans rfl; have hfz23_0 := blk_frozen BK237.out 0; have hfz23_1 := blk_frozen BK237.out 1; have hfz23_2 := blk_frozen BK237.out 2; have hcz24_0 : w21.cell? ⟨gb235, 0, none⟩ = some (.bool false) := (blk_cell BK235.out 0).trans rfl; have hcz24_1 : w21.cell? ⟨gb235, 1, none⟩ = some (.slice A0_1 l0_1.length c0_1) := (blk_cell BK235.out 1).trans rfl; have hcz24_2 : w21.cell? ⟨gb235, 2, none⟩ = some (.slice (some ad236) l0_2.length c0_2) := (blk_cell BK235.out 2).trans rfl; have hfz24_0 := blk_frozen BK235.out 0; have hfz24_1 := blk_frozen BK235.out 1; have hfz24_2 := blk_frozen BK235.out 2))
           go_roundg k1
           case measure => have := HK1.out; omega
           case rel => exact ⟨((rd_T38 l0_2 x13_1).f2), (true), (wrap64 (x13_1 + 1)), (by first | rfl | (simp; done) | (simp [*]; done)), (by first | rfl | (simp; done) | (simp [*]; done)), (by first | rfl | (simp; done) | (simp [*]; done)), H', ⟨by have := HK1.out; omega⟩, ⟨by (with_reducible repeat (first | refine blk_drewN ?_ _ | refine blk_drew ?_ | refine blk_alloc ?_ _)); refine blk_far ?_ NB235_237.out _; (with_reducible repeat (first | refine blk_drewN ?_ _ | refine blk_drew ?_ | refine blk_alloc ?_ _)); refine blk_far ?_ NB235_237.out _; (with_reducible repeat (first | refine blk_drewN ?_ _ | refine blk_drew ?_ | refine blk_alloc ?_ _)); refine blk_far ?_ NB235_237.out _; (with_reducible repeat (first | refine blk_drewN ?_ _ | refine blk_drew ?_ | refine blk_alloc ?_ _)); exact BK235.out⟩, ⟨by repeat (first | (with_reducible first | exact HB.out | apply below_alloc | apply pw_below_drewN | apply below_drew1 | refine below_set ?_ GE235.out | refine below_set ?_ GE237.out) | exact HB.out)⟩⟩
          ·rw [if_neg c20] at H
           have c20b0 : (((rd_T38 l0_2 x13_1).f1) == a1) = false := beq_eq_false_iff_ne.mpr c20
           have c20b1 : (((rd_T38 l0_2 x13_1).f1) != a1) = true := bne_iff_ne.mpr c20
           have H' := Aside0.mk H
           clear H
           have p236 : 0 ≤ (x13_1 : Int) := of_decide_eq_true (by first | (with_reducible assumption) | assumption)
           have q236 : x13_1 < (l0_2.length : Int) := of_decide_eq_true (by first | (with_reducible assumption) | assumption)
           obtain ⟨ad236, e236, hx236_0, hx236_1, hx236_2⟩ := at_T38 HR0_2.out x13_1 p236 q236
           cases e236
           replace hx236_0 := (HB.out.cell (World.block_lt_of_cell? w _ hx236_0)).trans hx236_0
           replace hx236_1 := (HB.out.cell (World.block_lt_of_cell? w _ hx236_1)).trans hx236_1
           replace hx236_2 := (HB.out.cell (World.block_lt_of_cell? w _ hx236_2)).trans hx236_2
           replace p236 := eq_true p236
           replace q236 := eq_true q236
           go_wp2_with (first | ((with_reducible refine gate_dst (N := 9) rfl ?_); refine box_event ?hg (N := 9) ?hd (cs := #[.int .i64 0, .int .i64 0, .int .i64 0]) (t := 38) ?hr ?_; (case hd => rfl); (case hg => rfl); (case hr => first | (go_simp; done) | (go_simp; rfl)); intro gb237 hg w25 hbox hb; have n0_ := Aside0.mk (blk_below (g := gb235) (o := .cells #[.bool false, .slice A0_1 l0_1.length c0_1, .slice (some ad236) l0_2.length c0_2] 25 (0, 0)) (by (with_reducible repeat (first | refine blk_drewN ?_ _ | refine blk_drew ?_ | refine blk_alloc ?_ _)); exact BK235.out) hb); have n1_ := Aside0.mk (below_step (by repeat (first | (with_reducible first | exact HB.out | apply below_alloc | apply pw_below_drewN | apply below_drew1 | refine below_set ?_ GE235.out) | exact HB.out)) hb); have n2_ := Aside0.mk (hbox); have n3_ := Aside0.mk ((by rw [hg]; exact (below_size (by repeat (first | (with_reducible first | exact HB.out | apply below_alloc | apply pw_below_drewN | apply below_drew1 | refine below_set ?_ GE235.out) | exact HB.out))) : w.heap.size ≤ gb237)); have n4_ := Aside0.mk ((by rw [hg]; exact (below_size (by repeat (first | (with_reducible first | exact HB.out | apply below_alloc | apply pw_below_drewN | apply below_drew1 | refine below_set ?_ GE235.out) | exact HB.out))) : w.heap.size ≤ gb237)); have n5_ := Aside0.mk ((by rw [hg]; exact Nat.ne_of_lt (blk_lt (g := gb235) (o := .cells #[.bool false, .slice A0_1 l0_1.length c0_1, .slice (some ad236) l0_2.length c0_2] 25 (0, 0)) (by (with_reducible repeat (first | refine blk_drewN ?_ _ | refine blk_drew ?_ | refine blk_alloc ?_ _)); exact BK235.out)) : gb235 ≠ gb237)); have n6_ := Aside0.mk ((by rw [hg]; exact Nat.ne_of_gt (blk_lt (g := gb235) (o := .cells #[.bool false, .slice A0_1 l0_1.length c0_1, .slice (some ad236) l0_2.length c0_2] 25 (0, 0)) (by (with_reducible repeat (first | refine blk_drewN ?_ _ | refine blk_drew ?_ | refine blk_alloc ?_ _)); exact BK235.out)) : gb237 ≠ gb235)); clear BK235; clear HB; have BK235 := n0_; have HB := n1_; have BK237 := n2_; have GW237 := n3_; have GE237 := n4_; have NB235_237 := n5_; have NB237_235 := n6_; clear n0_ n1_ n2_ n3_ n4_ n5_ n6_; clear hb hbox hg; have hnb26 := NB237_235.out; have hnc26 := NB235_237.out; have hcz27_0 : w25.cell? ⟨gb237, 0, none⟩ = some (.int .i64 0) := (blk_cell BK237.out 0).trans rfl; have hcz27_1 : w25.cell? ⟨gb237, 1, none⟩ = some (.int .i64 0) := (blk_cell BK237.out 1).trans rfl; have hcz27_2 : w25.cell? ⟨gb237, 2, none⟩ = some (.int .i64 0) := (blk_cell BK237.out 2).trans rfl; have hfz27_0 := blk_frozen BK237.out 0; have hfz27_1 := blk_frozen BK237.out 1; have hfz27_2 := blk_frozen BK237.out 2; have hcz28_0 : w25.cell? ⟨gb235, 0, none⟩ = some (.bool false) := (blk_cell BK235.out 0).trans rfl; have hcz28_1 : w25.cell? ⟨gb235, 1, none⟩ = some (.slice A0_1 l0_1.length c0_1) := (blk_cell BK235.out 1).trans rfl; have hcz28_2 : w25.cell? ⟨gb235, 2, none⟩ = some (.slice (some ad236) l0_2.length c0_2) := (blk_cell BK235.out 2).trans rfl; have hfz28_0 := blk_frozen BK235.out 0; have hfz28_1 := blk_frozen BK235.out 1; have hfz28_2 := blk_frozen BK235.out 2))
           go_roundg k1
           case measure => have := HK1.out; omega
           case rel => exact ⟨(x6_1), (x7_1), (wrap64 (x13_1 + 1)), (by first | rfl | (simp; done) | (simp [*]; done)), (by first | rfl | (simp; done) | (simp [*]; done)), (by first | rfl | (simp; done) | (simp [*]; done)), H', ⟨by have := HK1.out; omega⟩, ⟨by (with_reducible repeat (first | refine blk_drewN ?_ _ | refine blk_drew ?_ | refine blk_alloc ?_ _)); refine blk_far ?_ NB235_237.out _; (with_reducible repeat (first | refine blk_drewN ?_ _ | refine blk_drew ?_ | refine blk_alloc ?_ _)); refine blk_far ?_ NB235_237.out _; (with_reducible repeat (first | refine blk_drewN ?_ _ | refine blk_drew ?_ | refine blk_alloc ?_ _)); refine blk_far ?_ NB235_237.out _; (with_reducible repeat (first | refine blk_drewN ?_ _ | refine blk_drew ?_ | refine blk_alloc ?_ _)); exact BK235.out⟩, ⟨by repeat (first | (with_reducible first | exact HB.out | apply below_alloc | apply pw_below_drewN | apply below_drew1 | refine below_set ?_ GE235.out | refine below_set ?_ GE237.out) | exact HB.out)⟩⟩
         ·rw [if_neg c19] at H
          have c19b0 : (((rd_T38 l0_2 x13_1).f0) == a2) = false := beq_eq_false_iff_ne.mpr c19
          have c19b1 : (((rd_T38 l0_2 x13_1).f0) != a2) = true := bne_iff_ne.mpr c19
          have H' := Aside0.mk H
          clear H
          have p236 : 0 ≤ (x13_1 : Int) := of_decide_eq_true (by first | (with_reducible assumption) | assumption)
          have q236 : x13_1 < (l0_2.length : Int) := of_decide_eq_true (by first | (with_reducible assumption) | assumption)
          obtain ⟨ad236, e236, hx236_0, hx236_1, hx236_2⟩ := at_T38 HR0_2.out x13_1 p236 q236
          cases e236
          replace hx236_0 := (HB.out.cell (World.block_lt_of_cell? w _ hx236_0)).trans hx236_0
          replace hx236_1 := (HB.out.cell (World.block_lt_of_cell? w _ hx236_1)).trans hx236_1
          replace hx236_2 := (HB.out.cell (World.block_lt_of_cell? w _ hx236_2)).trans hx236_2
          replace p236 := eq_true p236
          replace q236 := eq_true q236
          go_wp2_with (first | ((with_reducible refine gate_dst (N := 9) rfl ?_); refine box_event ?hg (N := 9) ?hd (cs := #[.int .i64 0, .int .i64 0, .int .i64 0]) (t := 38) ?hr ?_; (case hd => rfl); (case hg => rfl); (case hr => first | (go_simp; done) | (go_simp; rfl)); intro gb237 hg w29 hbox hb; have n0_ := Aside0.mk (blk_below (g := gb235) (o := .cells #[.bool false, .slice A0_1 l0_1.length c0_1, .slice (some ad236) l0_2.length c0_2] 25 (0, 0)) (by (with_reducible repeat (first | refine blk_drewN ?_ _ | refine blk_drew ?_ | refine blk_alloc ?_ _)); exact BK235.out) hb); have n1_ := Aside0.mk (below_step (by repeat (first | (with_reducible first | exact HB.out | apply below_alloc | apply pw_below_drewN | apply below_drew1 | refine below_set ?_ GE235.out) | exact HB.out)) hb); have n2_ := Aside0.mk (hbox); have n3_ := Aside0.mk ((by rw [hg]; exact (below_size (by repeat (first | (with_reducible first | exact HB.out | apply below_alloc | apply pw_below_drewN | apply below_drew1 | refine below_set ?_ GE235.out) | exact HB.out))) : w.heap.size ≤ gb237)); have n4_ := Aside0.mk ((by rw [hg]; exact (below_size (by repeat (first | (with_reducible first | exact HB.out | apply below_alloc | apply pw_below_drewN | apply below_drew1 | refine below_set ?_ GE235.out) | exact HB.out))) : w.heap.size ≤ gb237)); have n5_ := Aside0.mk ((by rw [hg]; exact Nat.ne_of_lt (blk_lt (g := gb235) (o := .cells #[.bool false, .slice A0_1 l0_1.length c0_1, .slice (some ad236) l0_2.length c0_2] 25 (0, 0)) (by (with_reducible repeat (first | refine blk_drewN ?_ _ | refine blk_drew ?_ | refine blk_alloc ?_ _)); exact BK235.out)) : gb235 ≠ gb237)); have n6_ := Aside0.mk ((by rw [hg]; exact Nat.ne_of_gt (blk_lt (g := gb235) (o := .cells #[.bool false, .slice A0_1 l0_1.length c0_1, .slice (some ad236) l0_2.length c0_2] 25 (0, 0)) (by (with_reducible repeat (first | refine blk_drewN ?_ _ | refine blk_drew ?_ | refine blk_alloc ?_ _)); exact BK235.out)) : gb237 ≠ gb235)); clear BK235; clear HB; have BK235 := n0_; have HB := n1_; have BK237 := n2_; have GW237 := n3_; have GE237 := n4_; have NB235_237 := n5_; have NB237_235 := n6_; clear n0_ n1_ n2_ n3_ n4_ n5_ n6_; clear hb hbox hg; have hnb30 := NB237_235.out; have hnc30 := NB235_237.out; have hcz31_0 : w29.cell? ⟨gb237, 0, none⟩ = some (.int .i64 0) := (blk_cell BK237.out 0).trans rfl; have hcz31_1 : w29.cell? ⟨gb237, 1, none⟩ = some (.int .i64 0) := (blk_cell BK237.out 1).trans rfl; have hcz31_2 : w29.cell? ⟨gb237, 2, none⟩ = some (.int .i64 0) := (blk_cell BK237.out 2).trans rfl; have hfz31_0 := blk_frozen BK237.out 0; have hfz31_1 := blk_frozen BK237.out 1; have hfz31_2 := blk_frozen BK237.out 2; have hcz32_0 : w29.cell? ⟨gb235, 0, none⟩ = some (.bool false) := (blk_cell BK235.out 0).trans rfl; have hcz32_1 : w29.cell? ⟨gb235, 1, none⟩ = some (.slice A0_1 l0_1.length c0_1) := (blk_cell BK235.out 1).trans rfl; have hcz32_2 : w29.cell? ⟨gb235, 2, none⟩ = some (.slice (some ad236) l0_2.length c0_2) := (blk_cell BK235.out 2).trans rfl; have hfz32_0 := blk_frozen BK235.out 0; have hfz32_1 := blk_frozen BK235.out 1; have hfz32_2 := blk_frozen BK235.out 2))
          go_roundg k1
          case measure => have := HK1.out; omega
          case rel => exact ⟨(x6_1), (x7_1), (wrap64 (x13_1 + 1)), (by first | rfl | (simp; done) | (simp [*]; done)), (by first | rfl | (simp; done) | (simp [*]; done)), (by first | rfl | (simp; done) | (simp [*]; done)), H', ⟨by have := HK1.out; omega⟩, ⟨by (with_reducible repeat (first | refine blk_drewN ?_ _ | refine blk_drew ?_ | refine blk_alloc ?_ _)); refine blk_far ?_ NB235_237.out _; (with_reducible repeat (first | refine blk_drewN ?_ _ | refine blk_drew ?_ | refine blk_alloc ?_ _)); refine blk_far ?_ NB235_237.out _; (with_reducible repeat (first | refine blk_drewN ?_ _ | refine blk_drew ?_ | refine blk_alloc ?_ _)); refine blk_far ?_ NB235_237.out _; (with_reducible repeat (first | refine blk_drewN ?_ _ | refine blk_drew ?_ | refine blk_alloc ?_ _)); exact BK235.out⟩, ⟨by repeat (first | (with_reducible first | exact HB.out | apply below_alloc | apply pw_below_drewN | apply below_drew1 | refine below_set ?_ GE235.out | refine below_set ?_ GE237.out) | exact HB.out)⟩⟩
      ·rw [if_neg c9] at H
       have c9b0 : (((rd_T38 l0_2 x13_1).f0) == a1) = false := beq_eq_false_iff_ne.mpr c9
       have c9b1 : (((rd_T38 l0_2 x13_1).f0) != a1) = true := bne_iff_ne.mpr c9
       by_cases c33 : a0_0 = true
       ·subst c33
        have H1 : (spec_Weight.l0 k1 a1 a2 x6_1 x7_1 l0_2 (l0_2.length : Int) (wrap64 (x13_1 + 1)) true l0_1 l0_2) = some (r1, r2) := by rw [if_pos rfl] at H; exact H
        clear H
        have H := H1
        clear H1
        have H' := Aside0.mk H
        clear H
        have p236 : 0 ≤ (x13_1 : Int) := of_decide_eq_true (by first | (with_reducible assumption) | assumption)
        have q236 : x13_1 < (l0_2.length : Int) := of_decide_eq_true (by first | (with_reducible assumption) | assumption)
        obtain ⟨ad236, e236, hx236_0, hx236_1, hx236_2⟩ := at_T38 HR0_2.out x13_1 p236 q236
        cases e236
        replace hx236_0 := (HB.out.cell (World.block_lt_of_cell? w _ hx236_0)).trans hx236_0
        replace hx236_1 := (HB.out.cell (World.block_lt_of_cell? w _ hx236_1)).trans hx236_1
        replace hx236_2 := (HB.out.cell (World.block_lt_of_cell? w _ hx236_2)).trans hx236_2
        replace p236 := eq_true p236
        replace q236 := eq_true q236
        go_wp2_with (first | ((with_reducible refine gate_dst (N := 9) rfl ?_); refine box_event ?hg (N := 9) ?hd (cs := #[.int .i64 0, .int .i64 0, .int .i64 0]) (t := 38) ?hr ?_; (case hd => rfl); (case hg => rfl); (case hr => first | (go_simp; done) | (go_simp; rfl)); intro gb237 hg w34 hbox hb; have n0_ := Aside0.mk (blk_below (g := gb235) (o := .cells #[.bool true, .slice A0_1 l0_1.length c0_1, .slice (some ad236) l0_2.length c0_2] 25 (0, 0)) (by (with_reducible repeat (first | refine blk_drewN ?_ _ | refine blk_drew ?_ | refine blk_alloc ?_ _)); exact BK235.out) hb); have n1_ := Aside0.mk (below_step (by repeat (first | (with_reducible first | exact HB.out | apply below_alloc | apply pw_below_drewN | apply below_drew1 | refine below_set ?_ GE235.out) | exact HB.out)) hb); have n2_ := Aside0.mk (hbox); have n3_ := Aside0.mk ((by rw [hg]; exact (below_size (by repeat (first | (with_reducible first | exact HB.out | apply below_alloc | apply pw_below_drewN | apply below_drew1 | refine below_set ?_ GE235.out) | exact HB.out))) : w.heap.size ≤ gb237)); have n4_ := Aside0.mk ((by rw [hg]; exact (below_size (by repeat (first | (with_reducible first | exact HB.out | apply below_alloc | apply pw_below_drewN | apply below_drew1 | refine below_set ?_ GE235.out) | exact HB.out))) : w.heap.size ≤ gb237)); have n5_ := Aside0.mk ((by rw [hg]; exact Nat.ne_of_lt (blk_lt (g := gb235) (o := .cells #[.bool true, .slice A0_1 l0_1.length c0_1, .slice (some ad236) l0_2.length c0_2] 25 (0, 0)) (by (with_reducible repeat (first | refine blk_drewN ?_ _ | refine blk_drew ?_ | refine blk_alloc ?_ _)); exact BK235.out)) : gb235 ≠ gb237)); have n6_ := Aside0.mk ((by rw [hg]; exact Nat.ne_of_gt (blk_lt (g := gb235) (o := .cells #[.bool true, .slice A0_1 l0_1.length c0_1, .slice (some ad236) l0_2.length c0_2] 25 (0, 0)) (by (with_reducible repeat (first | refine blk_drewN ?_ _ | refine blk_drew ?_ | refine blk_alloc ?_ _)); exact BK235.out)) : gb237 ≠ gb235)); clear BK235; clear HB; have BK235 := n0_; have HB := n1_; have BK237 := n2_; have GW237 := n3_; have GE237 := n4_; have NB235_237 := n5_; have NB237_235 := n6_; clear n0_ n1_ n2_ n3_ n4_ n5_ n6_; clear hb hbox hg; have hnb35 := NB237_235.out; have hnc35 := NB235_237.out; have hcz36_0 : w34.cell? ⟨gb237, 0, none⟩ = some (.int .i64 0) := (blk_cell BK237.out 0).trans rfl; have hcz36_1 : w34.cell? ⟨gb237, 1, none⟩ = some (.int .i64 0) := (blk_cell BK237.out 1).trans rfl; have hcz36_2 : w34.cell? ⟨gb237, 2, none⟩ = some (.int .i64 0) := (blk_cell BK237.out 2).trans rfl; have hfz36_0 := blk_frozen BK237.out 0; have hfz36_1 := blk_frozen BK237.out 1; have hfz36_2 := blk_frozen BK237.out 2; have hcz37_0 : w34.cell? ⟨gb235, 0, none⟩ = some (.bool true) := (blk_cell BK235.out 0).trans rfl; have hcz37_1 : w34.cell? ⟨gb235, 1, none⟩ = some (.slice A0_1 l0_1.length c0_1) := (blk_cell BK235.out 1).trans rfl; have hcz37_2 : w34.cell? ⟨gb235, 2, none⟩ = some (.slice (some ad236) l0_2.length c0_2) := (blk_cell BK235.out 2).trans rfl; have hfz37_0 := blk_frozen BK235.out 0; have hfz37_1 := blk_frozen BK235.out 1; have hfz37_2 := blk_frozen BK235.out 2))
        go_roundg k1
        case measure => have := HK1.out; omega
        case rel => exact ⟨(x6_1), (x7_1), (wrap64 (x13_1 + 1)), (by first | rfl | (simp; done) | (simp [*]; done)), (by first | rfl | (simp; done) | (simp [*]; done)), (by first | rfl | (simp; done) | (simp [*]; done)), H', ⟨by have := HK1.out; omega⟩, ⟨by (with_reducible repeat (first | refine blk_drewN ?_ _ | refine blk_drew ?_ | refine blk_alloc ?_ _)); refine blk_far ?_ NB235_237.out _; (with_reducible repeat (first | refine blk_drewN ?_ _ | refine blk_drew ?_ | refine blk_alloc ?_ _)); refine blk_far ?_ NB235_237.out _; (with_reducible repeat (first | refine blk_drewN ?_ _ | refine blk_drew ?_ | refine blk_alloc ?_ _)); refine blk_far ?_ NB235_237.out _; (with_reducible repeat (first | refine blk_drewN ?_ _ | refine blk_drew ?_ | refine blk_alloc ?_ _)); exact BK235.out⟩, ⟨by repeat (first | (with_reducible first | exact HB.out | apply below_alloc | apply pw_below_drewN | apply below_drew1 | refine below_set ?_ GE235.out | refine below_set ?_ GE237.out) | exact HB.out)⟩⟩
       ·replace c33 := Bool.eq_false_iff.mpr c33
        subst c33
        have H1 : (if ((rd_T38 l0_2 x13_1).f0) = a2 then (if ((rd_T38 l0_2 x13_1).f1) = a1 then (spec_Weight.l0 k1 a1 a2 ((rd_T38 l0_2 x13_1).f2) true l0_2 (l0_2.length : Int) (wrap64 (x13_1 + 1)) false l0_1 l0_2) else (spec_Weight.l0 k1 a1 a2 x6_1 x7_1 l0_2 (l0_2.length : Int) (wrap64 (x13_1 + 1)) false l0_1 l0_2)) else (spec_Weight.l0 k1 a1 a2 x6_1 x7_1 l0_2 (l0_2.length : Int) (wrap64 (x13_1 + 1)) false l0_1 l0_2)) = some (r1, r2) := by rw [if_neg (show ¬ (false = true) by decide)] at H; exact H
        clear H
        have H := H1
        clear H1
        by_cases c38 : ((rd_T38 l0_2 x13_1).f0) = a2
        ·rw [if_pos c38] at H
         have c38b0 : (((rd_T38 l0_2 x13_1).f0) == a2) = true := beq_iff_eq.mpr c38
         have c38b1 : (((rd_T38 l0_2 x13_1).f0) != a2) = false := bne_eq_false_iff_eq.mpr c38
         clear c38
         by_cases c39 : ((rd_T38 l0_2 x13_1).f1) = a1
         ·rw [if_pos c39] at H
          have c39b0 : (((rd_T38 l0_2 x13_1).f1) == a1) = true := beq_iff_eq.mpr c39
          have c39b1 : (((rd_T38 l0_2 x13_1).f1) != a1) = false := bne_eq_false_iff_eq.mpr c39
          clear c39
          have H' := Aside0.mk H
          clear H
          have p236 : 0 ≤ (x13_1 : Int) := of_decide_eq_true (by first | (with_reducible assumption) | assumption)
          have q236 : x13_1 < (l0_2.length : Int) := of_decide_eq_true (by first | (with_reducible assumption) | assumption)
          obtain ⟨ad236, e236, hx236_0, hx236_1, hx236_2⟩ := at_T38 HR0_2.out x13_1 p236 q236
          cases e236
          replace hx236_0 := (HB.out.cell (World.block_lt_of_cell? w _ hx236_0)).trans hx236_0
          replace hx236_1 := (HB.out.cell (World.block_lt_of_cell? w _ hx236_1)).trans hx236_1
          replace hx236_2 := (HB.out.cell (World.block_lt_of_cell? w _ hx236_2)).trans hx236_2
          replace p236 := eq_true p236
          replace q236 := eq_true q236
          go_wp2_with (first | ((with_reducible refine gate_dst (N := 9) rfl ?_); refine box_event ?hg (N := 9) ?hd (cs := #[.int .i64 0, .int .i64 0, .int .i64 0]) (t := 38) ?hr ?_; (case hd => rfl); (case hg => rfl); (case hr => first | (go_simp; done) | (go_simp; rfl)); intro gb237 hg w40 hbox hb; have n0_ := Aside0.mk (blk_below (g := gb235) (o := .cells #[.bool false, .slice A0_1 l0_1.length c0_1, .slice (some ad236) l0_2.length c0_2] 25 (0, 0)) (by (with_reducible repeat (first | refine blk_drewN ?_ _ | refine blk_drew ?_ | refine blk_alloc ?_ _)); exact BK235.out) hb); have n1_ := Aside0.mk (below_step (by repeat (first | (with_reducible first | exact HB.out | apply below_alloc | apply pw_below_drewN | apply below_drew1 | refine below_set ?_ GE235.out) | exact HB.out)) hb); have n2_ := Aside0.mk (hbox); have n3_ := Aside0.mk ((by rw [hg]; exact (below_size (by repeat (first | (with_reducible first | exact HB.out | apply below_alloc | apply pw_below_drewN | apply below_drew1 | refine below_set ?_ GE235.out) | exact HB.out))) : w.heap.size ≤ gb237)); have n4_ := Aside0.mk ((by rw [hg]; exact (below_size (by repeat (first | (with_reducible first | exact HB.out | apply below_alloc | apply pw_below_drewN | apply below_drew1 | refine below_set ?_ GE235.out) | exact HB.out))) : w.heap.size ≤ gb237)); have n5_ := Aside0.mk ((by rw [hg]; exact Nat.ne_of_lt (blk_lt (g := gb235) (o := .cells #[.bool false, .slice A0_1 l0_1.length c0_1, .slice (some ad236) l0_2.length c0_2] 25 (0, 0)) (by (with_reducible repeat (first | refine blk_drewN ?_ _ | refine blk_drew ?_ | refine blk_alloc ?_ _)); exact BK235.out)) : gb235 ≠ gb237)); have n6_ := Aside0.mk ((by rw [hg]; exact Nat.ne_of_gt (blk_lt (g := gb235) (o := .cells #[.bool false, .slice A0_1 l0_1.length c0_1, .slice (some ad236) l0_2.length c0_2] 25 (0, 0)) (by (with_reducible repeat (first | refine blk_drewN ?_ _ | refine blk_drew ?_ | refine blk_alloc ?_ _)); exact BK235.out)) : gb237 ≠ gb235)); clear BK235; clear HB; have BK235 := n0_; have HB := n1_; have BK237 := n2_; have GW237 := n3_; have GE237 := n4_; have NB235_237 := n5_; have NB237_235 := n6_; clear n0_ n1_ n2_ n3_ n4_ n5_ n6_; clear hb hbox hg; have hnb41 := NB237_235.out; have hnc41 := NB235_237.out; have hcz42_0 : w40.cell? ⟨gb237, 0, none⟩ = some (.int .i64 0) := (blk_cell BK237.out 0).trans rfl; have hcz42_1 : w40.cell? ⟨gb237, 1, none⟩ = some (.int .i64 0) := (blk_cell BK237.out 1).trans rfl; have hcz42_2 : w40.cell? ⟨gb237, 2, none⟩ = some (.int .i64 0) := (blk_cell BK237.out 2).trans rfl; have hfz42_0 := blk_frozen BK237.out 0; have hfz42_1 := blk_frozen BK237.out 1; have hfz42_2 := blk_frozen BK237.out 2; have hcz43_0 : w40.cell? ⟨gb235, 0, none⟩ = some (.bool false) := (blk_cell BK235.out 0).trans rfl; have hcz43_1 : w40.cell? ⟨gb235, 1, none⟩ = some (.slice A0_1 l0_1.length c0_1) := (blk_cell BK235.out 1).trans rfl; have hcz43_2 : w40.cell? ⟨gb235, 2, none⟩ = some (.slice (some ad236) l0_2.length c0_2) := (blk_cell BK235.out 2).trans rfl; have hfz43_0 := blk_frozen BK235.out 0; have hfz43_1 := blk_frozen BK235.out 1; have hfz43_2 := blk_frozen BK235.out 2))
          go_roundg k1
          case measure => have := HK1.out; omega
          case rel => exact ⟨((rd_T38 l0_2 x13_1).f2), (true), (wrap64 (x13_1 + 1)), (by first | rfl | (simp; done) | (simp [*]; done)), (by first | rfl | (simp; done) | (simp [*]; done)), (by first | rfl | (simp; done) | (simp [*]; done)), H', ⟨by have := HK1.out; omega⟩, ⟨by (with_reducible repeat (first | refine blk_drewN ?_ _ | refine blk_drew ?_ | refine blk_alloc ?_ _)); refine blk_far ?_ NB235_237.out _; (with_reducible repeat (first | refine blk_drewN ?_ _ | refine blk_drew ?_ | refine blk_alloc ?_ _)); refine blk_far ?_ NB235_237.out _; (with_reducible repeat (first | refine blk_drewN ?_ _ | refine blk_drew ?_ | refine blk_alloc ?_ _)); refine blk_far ?_ NB235_237.out _; (with_reducible repeat (first | refine blk_drewN ?_ _ | refine blk_drew ?_ | refine blk_alloc ?_ _)); exact BK235.out⟩, ⟨by repeat (first | (with_reducible first | exact HB.out | apply below_alloc | apply pw_below_drewN | apply below_drew1 | refine below_set ?_ GE235.out | refine below_set ?_ GE237.out) | exact HB.out)⟩⟩
         ·rw [if_neg c39] at H
          have c39b0 : (((rd_T38 l0_2 x13_1).f1) == a1) = false := beq_eq_false_iff_ne.mpr c39
          have c39b1 : (((rd_T38 l0_2 x13_1).f1) != a1) = true := bne_iff_ne.mpr c39
          have H' := Aside0.mk H
          clear H
          have p236 : 0 ≤ (x13_1 : Int) := of_decide_eq_true (by first | (with_reducible assumption) | assumption)
          have q236 : x13_1 < (l0_2.length : Int) := of_decide_eq_true (by first | (with_reducible assumption) | assumption)
          obtain ⟨ad236, e236, hx236_0, hx236_1, hx236_2⟩ := at_T38 HR0_2.out x13_1 p236 q236
          cases e236
          replace hx236_0 := (HB.out.cell (World.block_lt_of_cell? w _ hx236_0)).trans hx236_0
          replace hx236_1 := (HB.out.cell (World.block_lt_of_cell? w _ hx236_1)).trans hx236_1
          replace hx236_2 := (HB.out.cell (World.block_lt_of_cell? w _ hx236_2)).trans hx236_2
          replace p236 := eq_true p236
          replace q236 := eq_true q236
          go_wp2_with (first | ((with_reducible refine gate_dst (N := 9) rfl ?_); refine box_event ?hg (N := 9) ?hd (cs := #[.int .i64 0, .int .i64 0, .int .i64 0]) (t := 38) ?hr ?_; (case hd => rfl); (case hg => rfl); (case hr => first | (go_simp; done) | (go_simp; rfl)); intro gb237 hg w44 hbox hb; have n0_ := Aside0.mk (blk_below (g := gb235) (o := .cells #[.bool false, .slice A0_1 l0_1.length c0_1, .slice (some ad236) l0_2.length c0_2] 25 (0, 0)) (by (with_reducible repeat (first | refine blk_drewN ?_ _ | refine blk_drew ?_ | refine blk_alloc ?_ _)); exact BK235.out) hb); have n1_ := Aside0.mk (below_step (by repeat (first | (with_reducible first | exact HB.out | apply below_alloc | apply pw_below_drewN | apply below_drew1 | refine below_set ?_ GE235.out) | exact HB.out)) hb); have n2_ := Aside0.mk (hbox); have n3_ := Aside0.mk ((by rw [hg]; exact (below_size (by repeat (first | (with_reducible first | exact HB.out | apply below_alloc | apply pw_below_drewN | apply below_drew1 | refine below_set ?_ GE235.out) | exact HB.out))) : w.heap.size ≤ gb237)); have n4_ := Aside0.mk ((by rw [hg]; exact (below_size (by repeat (first | (with_reducible first | exact HB.out | apply below_alloc | apply pw_below_drewN | apply below_drew1 | refine below_set ?_ GE235.out) | exact HB.out))) : w.heap.size ≤ gb237)); have n5_ := Aside0.mk ((by rw [hg]; exact Nat.ne_of_lt (blk_lt (g := gb235) (o := .cells #[.bool false, .slice A0_1 l0_1.length c0_1, .slice (some ad236) l0_2.length c0_2] 25 (0, 0)) (by (with_reducible repeat (first | refine blk_drewN ?_ _ | refine blk_drew ?_ | refine blk_alloc ?_ _)); exact BK235.out)) : gb235 ≠ gb237)); have n6_ := Aside0.mk ((by rw [hg]; exact Nat.ne_of_gt (blk_lt (g := gb235) (o := .cells #[.bool false, .slice A0_1 l0_1.length c0_1, .slice (some ad236) l0_2.length c0_2] 25 (0, 0)) (by (with_reducible repeat (first | refine blk_drewN ?_ _ | refine blk_drew ?_ | refine blk_alloc ?_ _)); exact BK235.out)) : gb237 ≠ gb235)); clear BK235; clear HB; have BK235 := n0_; have HB := n1_; have BK237 := n2_; have GW237 := n3_; have GE237 := n4_; have NB235_237 := n5_; have NB237_235 := n6_; clear n0_ n1_ n2_ n3_ n4_ n5_ n6_; clear hb hbox hg; have hnb45 := NB237_235.out; have hnc45 := NB235_237.out; have hcz46_0 : w44.cell? ⟨gb237, 0, none⟩ = some (.int .i64 0) := (blk_cell BK237.out 0).trans rfl; have hcz46_1 : w44.cell? ⟨gb237, 1, none⟩ = some (.int .i64 0) := (blk_cell BK237.out 1).trans rfl; have hcz46_2 : w44.cell? ⟨gb237, 2, none⟩ = some (.int .i64 0) := (blk_cell BK237.out 2).trans rfl; have hfz46_0 := blk_frozen BK237.out 0; have hfz46_1 := blk_frozen BK237.out 1; have hfz46_2 := blk_frozen BK237.out 2; have hcz47_0 : w44.cell? ⟨gb235, 0, none⟩ = some (.bool false) := (blk_cell BK235.out 0).trans rfl; have hcz47_1 : w44.cell? ⟨gb235, 1, none⟩ = some (.slice A0_1 l0_1.length c0_1) := (blk_cell BK235.out 1).trans rfl; have hcz47_2 : w44.cell? ⟨gb235, 2, none⟩ = some (.slice (some ad236) l0_2.length c0_2) := (blk_cell BK235.out 2).trans rfl; have hfz47_0 := blk_frozen BK235.out 0; have hfz47_1 := blk_frozen BK235.out 1; have hfz47_2 := blk_frozen BK235.out 2))
          go_roundg k1
          case measure => have := HK1.out; omega
          case rel => exact ⟨(x6_1), (x7_1), (wrap64 (x13_1 + 1)), (by first | rfl | (simp; done) | (simp [*]; done)), (by first | rfl | (simp; done) | (simp [*]; done)), (by first | rfl | (simp; done) | (simp [*]; done)), H', ⟨by have := HK1.out; omega⟩, ⟨by (with_reducible repeat (first | refine blk_drewN ?_ _ | refine blk_drew ?_ | refine blk_alloc ?_ _)); refine blk_far ?_ NB235_237.out _; (with_reducible repeat (first | refine blk_drewN ?_ _ | refine blk_drew ?_ | refine blk_alloc ?_ _)); refine blk_far ?_ NB235_237.out _; (with_reducible repeat (first | refine blk_drewN ?_ _ | refine blk_drew ?_ | refine blk_alloc ?_ _)); refine blk_far ?_ NB235_237.out _; (with_reducible repeat (first | refine blk_drewN ?_ _ | refine blk_drew ?_ | refine blk_alloc ?_ _)); exact BK235.out⟩, ⟨by repeat (first | (with_reducible first | exact HB.out | apply below_alloc | apply pw_below_drewN | apply below_drew1 | refine below_set ?_ GE235.out | refine below_set ?_ GE237.out) | exact HB.out)⟩⟩
        ·rw [if_neg c38] at H
         have c38b0 : (((rd_T38 l0_2 x13_1).f0) == a2) = false := beq_eq_false_iff_ne.mpr c38
         have c38b1 : (((rd_T38 l0_2 x13_1).f0) != a2) = true := bne_iff_ne.mpr c38
         have H' := Aside0.mk H
         clear H
         have p236 : 0 ≤ (x13_1 : Int) := of_decide_eq_true (by first | (with_reducible assumption) | assumption)
         have q236 : x13_1 < (l0_2.length : Int) := of_decide_eq_true (by first | (with_reducible assumption) | assumption)
         obtain ⟨ad236, e236, hx236_0, hx236_1, hx236_2⟩ := at_T38 HR0_2.out x13_1 p236 q236
         cases e236
         replace hx236_0 := (HB.out.cell (World.block_lt_of_cell? w _ hx236_0)).trans hx236_0
         replace hx236_1 := (HB.out.cell (World.block_lt_of_cell? w _ hx236_1)).trans hx236_1
         replace hx236_2 := (HB.out.cell (World.block_lt_of_cell? w _ hx236_2)).trans hx236_2
         replace p236 := eq_true p236
         replace q236 := eq_true q236
         go_wp2_with (first | ((with_reducible refine gate_dst (N := 9) rfl ?_); refine box_event ?hg (N := 9) ?hd (cs := #[.int .i64 0, .int .i64 0, .int .i64 0]) (t := 38) ?hr ?_; (case hd => rfl); (case hg => rfl); (case hr => first | (go_simp; done) | (go_simp; rfl)); intro gb237 hg w48 hbox hb; have n0_ := Aside0.mk (blk_below (g := gb235) (o := .cells #[.bool false, .slice A0_1 l0_1.length c0_1, .slice (some ad236) l0_2.length c0_2] 25 (0, 0)) (by (with_reducible repeat (first | refine blk_drewN ?_ _ | refine blk_drew ?_ | refine blk_alloc ?_ _)); exact BK235.out) hb); have n1_ := Aside0.mk (below_step (by repeat (first | (with_reducible first | exact HB.out | apply below_alloc | apply pw_below_drewN | apply below_drew1 | refine below_set ?_ GE235.out) | exact HB.out)) hb); have n2_ := Aside0.mk (hbox); have n3_ := Aside0.mk ((by rw [hg]; exact (below_size (by repeat (first | (with_reducible first | exact HB.out | apply below_alloc | apply pw_below_drewN | apply below_drew1 | refine below_set ?_ GE235.out) | exact HB.out))) : w.heap.size ≤ gb237)); have n4_ := Aside0.mk ((by rw [hg]; exact (below_size (by repeat (first | (with_reducible first | exact HB.out | apply below_alloc | apply pw_below_drewN | apply below_drew1 | refine below_set ?_ GE235.out) | exact HB.out))) : w.heap.size ≤ gb237)); have n5_ := Aside0.mk ((by rw [hg]; exact Nat.ne_of_lt (blk_lt (g := gb235) (o := .cells #[.bool false, .slice A0_1 l0_1.length c0_1, .slice (some ad236) l0_2.length c0_2] 25 (0, 0)) (by (with_reducible repeat (first | refine blk_drewN ?_ _ | refine blk_drew ?_ | refine blk_alloc ?_ _)); exact BK235.out)) : gb235 ≠ gb237)); have n6_ := Aside0.mk ((by rw [hg]; exact Nat.ne_of_gt (blk_lt (g := gb235) (o := .cells #[.bool false, .slice A0_1 l0_1.length c0_1, .slice (some ad236) l0_2.length c0_2] 25 (0, 0)) (by (with_reducible repeat (first | refine blk_drewN ?_ _ | refine blk_drew ?_ | refine blk_alloc ?_ _)); exact BK235.out)) : gb237 ≠ gb235)); clear BK235; clear HB; have BK235 := n0_; have HB := n1_; have BK237 := n2_; have GW237 := n3_; have GE237 := n4_; have NB235_237 := n5_; have NB237_235 := n6_; clear n0_ n1_ n2_ n3_ n4_ n5_ n6_; clear hb hbox hg; have hnb49 := NB237_235.out; have hnc49 := NB235_237.out; have hcz50_0 : w48.cell? ⟨gb237, 0, none⟩ = some (.int .i64 0) := (blk_cell BK237.out 0).trans rfl; have hcz50_1 : w48.cell? ⟨gb237, 1, none⟩ = some (.int .i64 0) := (blk_cell BK237.out 1).trans rfl; have hcz50_2 : w48.cell? ⟨gb237, 2, none⟩ = some (.int .i64 0) := (blk_cell BK237.out 2).trans rfl; have hfz50_0 := blk_frozen BK237.out 0; have hfz50_1 := blk_frozen BK237.out 1; have hfz50_2 := blk_frozen BK237.out 2; have hcz51_0 : w48.cell? ⟨gb235, 0, none⟩ = some (.bool false) := (blk_cell BK235.out 0).trans rfl; have hcz51_1 : w48.cell? ⟨gb235, 1, none⟩ = some (.slice A0_1 l0_1.length c0_1) := (blk_cell BK235.out 1).trans rfl; have hcz51_2 : w48.cell? ⟨gb235, 2, none⟩ = some (.slice (some ad236) l0_2.length c0_2) := (blk_cell BK235.out 2).trans rfl; have hfz51_0 := blk_frozen BK235.out 0; have hfz51_1 := blk_frozen BK235.out 1; have hfz51_2 := blk_frozen BK235.out 2))
         go_roundg k1
         case measure => have := HK1.out; omega
         case rel => exact ⟨(x6_1), (x7_1), (wrap64 (x13_1 + 1)), (by first | rfl | (simp; done) | (simp [*]; done)), (by first | rfl | (simp; done) | (simp [*]; done)), (by first | rfl | (simp; done) | (simp [*]; done)), H', ⟨by have := HK1.out; omega⟩, ⟨by (with_reducible repeat (first | refine blk_drewN ?_ _ | refine blk_drew ?_ | refine blk_alloc ?_ _)); refine blk_far ?_ NB235_237.out _; (with_reducible repeat (first | refine blk_drewN ?_ _ | refine blk_drew ?_ | refine blk_alloc ?_ _)); refine blk_far ?_ NB235_237.out _; (with_reducible repeat (first | refine blk_drewN ?_ _ | refine blk_drew ?_ | refine blk_alloc ?_ _)); refine blk_far ?_ NB235_237.out _; (with_reducible repeat (first | refine blk_drewN ?_ _ | refine blk_drew ?_ | refine blk_alloc ?_ _)); exact BK235.out⟩, ⟨by repeat (first | (with_reducible first | exact HB.out | apply below_alloc | apply pw_below_drewN | apply below_drew1 | refine below_set ?_ GE235.out | refine below_set ?_ GE237.out) | exact HB.out)⟩⟩
     ·rw [if_neg c8] at H
      exact absurd H (by simp)
    ·rw [if_neg c7] at H
     exact absurd H (by simp)
   ·rw [if_neg c6] at H
    have c6b0 : decide (x13_1 < (l0_2.length : Int)) = false := decide_eq_false c6
    clear c6
    simp only [Option.some.injEq, Prod.mk.injEq] at H
    obtain ⟨rfl, rfl⟩ := H
    go_wp2
    go_ret2
    exact ⟨by first | rfl | (simp [errW_none, errW_some] <;> rfl) | (simp [*, errW_none, errW_some] <;> rfl), by repeat (first | (with_reducible first | exact HB.out | apply below_alloc | apply pw_below_drewN | apply below_drew1 | refine below_set ?_ GE235.out) | exact HB.out)⟩

/-! ### spec_Joined: function 81 -/
def spec_Joined.f (k : Nat) (a0_0 : Bool) (l0_1 : List Int) (l0_2 : List (S38)) (a1 : Int) (a2 : Int) : Option (Bool) := (spec_Weight.f k a0_0 l0_1 l0_2 a1 a2).bind fun bt239 => (some bt239.2)
theorem spec_Joined.mono : ∀ a0 a1 a2 a3 a4 k, LeO (spec_Joined.f k a0 a1 a2 a3 a4) (spec_Joined.f (k + 1) a0 a1 a2 a3 a4) := by
 intro a0 a1 a2 a3 a4 k
 unfold spec_Joined.f
 repeat' first
   | (with_reducible exact spec_Weight.mono _ _ _ _ _ _)
   | (with_reducible exact LeO.refl _)
   | (with_reducible exact LeO.none _)
   | (with_reducible refine LeO.ite ?_ ?_)
   | (with_reducible refine LeO.bind ?_ (fun _ => ?_))
   | exact spec_Weight.mono _ _ _ _ _ _
   | exact LeO.none _
   | refine LeO.ite ?_ ?_
   | refine LeO.bind ?_ (fun _ => ?_)
set_option maxHeartbeats 8000000 in
set_option maxRecDepth 100000 in
theorem spec_Joined.calls (k : Nat) (a0_0 : Bool) (A0_1 : Option Addr) (c0_1 : Nat) (l0_1 : List Int) (A0_2 : Option Addr) (c0_2 : Nat) (l0_2 : List (S38)) (a1 : Int) (a2 : Int) (r : Bool) (w : World) (hr0_1 : Kd.C (Kd.int .i64) w A0_1 l0_1.length l0_1) (hc0_1 : l0_1.length ≤ c0_1) (hr0_2 : Kd.C k38 w A0_2 l0_2.length l0_2) (hc0_2 : l0_2.length ≤ c0_2) (h : spec_Joined.f k a0_0 l0_1 l0_2 a1 a2 = some r) :
  Calls Tryz.prog 81 #[.agg #[.bool a0_0, .slice A0_1 l0_1.length c0_1, .slice A0_2 l0_2.length c0_2], .int .i64 a1, .int .i64 a2] w fun e w' => e = .returned (.bool r) ∧ Below w.heap.size w w' := by
 have hu25 := Tryz.underlying25
 have HR0_1 := Aside0.mk hr0_1
 have HC0_1 := Aside0.mk hc0_1
 clear hr0_1 hc0_1
 have HR0_2 := Aside0.mk hr0_2
 have HC0_2 := Aside0.mk hc0_2
 clear hr0_2 hc0_2
 have HB := Aside0.mk (Below.refl w.heap.size w)
 have H : ((spec_Weight.f k a0_0 l0_1 l0_2 a1 a2).bind fun bt239 => (some bt239.2)) = some r := h
 clear h
 replace H := Option.bind_eq_some_iff.mp H
 obtain ⟨⟨t239, t240⟩, A40, H⟩ := H
 replace H : (some t240) = some r := H
 have A4 := Aside0.mk A40
 clear A40
 obtain rfl := Option.some.inj H
 go_enter Tryz.func81, Tryz.ntmps81
 go_wp2_with (first | ((with_reducible refine gate_dst (N := 3) rfl ?_); refine box_event ?hg (N := 3) ?hd (cs := #[.bool a0_0, .slice A0_1 l0_1.length c0_1, .slice A0_2 l0_2.length c0_2]) (t := 25) ?hr ?_; (case hd => rfl); (case hg => rfl); (case hr => first | (go_simp; done) | (go_simp; rfl)); intro gb238 hg w5 hbox hb; have n0_ := Aside0.mk (below_step (by repeat (first | (with_reducible first | exact HB.out | apply below_alloc | apply pw_below_drewN | apply below_drew1) | exact HB.out)) hb); have n1_ := Aside0.mk (hbox); have n2_ := Aside0.mk ((by rw [hg]; exact (below_size (by repeat (first | (with_reducible first | exact HB.out | apply below_alloc | apply pw_below_drewN | apply below_drew1) | exact HB.out))) : w.heap.size ≤ gb238)); have n3_ := Aside0.mk ((by rw [hg]; exact (below_size (by repeat (first | (with_reducible first | exact HB.out | apply below_alloc | apply pw_below_drewN | apply below_drew1) | exact HB.out))) : w.heap.size ≤ gb238)); clear HB; have HB := n0_; have BK238 := n1_; have GW238 := n2_; have GE238 := n3_; clear n0_ n1_ n2_ n3_; clear hb hbox hg; have hcz6_0 : w5.cell? ⟨gb238, 0, none⟩ = some (.bool a0_0) := (blk_cell BK238.out 0).trans rfl; have hcz6_1 : w5.cell? ⟨gb238, 1, none⟩ = some (.slice A0_1 l0_1.length c0_1) := (blk_cell BK238.out 1).trans rfl; have hcz6_2 : w5.cell? ⟨gb238, 2, none⟩ = some (.slice A0_2 l0_2.length c0_2) := (blk_cell BK238.out 2).trans rfl; have hfz6_0 := blk_frozen BK238.out 0; have hfz6_1 := blk_frozen BK238.out 1; have hfz6_2 := blk_frozen BK238.out 2) | ((with_reducible refine gate_callee (f := 60) rfl ?_); refine goesL_ (some 13) rfl rfl Tryz.func60 (by kernel_rfl) rfl #[.agg #[.bool a0_0, .slice A0_1 l0_1.length c0_1, .slice A0_2 l0_2.length c0_2], .int .i64 a1, .int .i64 a2] rfl (by (try simp only [List.map_toArray, List.map_cons, List.map_nil]); first | done | rfl | (simp only [List.length_drop, List.length_take]; rfl)) ?_; (with_reducible refine (spec_Weight.calls k a0_0 _ _ l0_1 _ _ l0_2 a1 a2 t239 t240 _ ?side1 ?side2 ?side3 ?side4 A4.out).mono ?_); (case side1 => repeat (first | exact (Kd.C_below HR0_1.out HB.out) | (with_reducible refine Kd.C_alloc ?_ _) | (with_reducible refine Kd.C_drewN ?_ _) | (with_reducible refine Kd.C_drew ?_))); (case side2 => exact HC0_1.out); (case side3 => repeat (first | exact (Kd.C_below HR0_2.out HB.out) | (with_reducible refine Kd.C_alloc ?_ _) | (with_reducible refine Kd.C_drewN ?_ _) | (with_reducible refine Kd.C_drew ?_))); (case side4 => exact HC0_2.out); rintro e w7 ⟨rfl, hb⟩; refine ⟨_, rfl, ?_⟩; have n0_ := Aside0.mk (blk_below (g := gb238) (o := .cells #[.bool a0_0, .slice A0_1 l0_1.length c0_1, .slice A0_2 l0_2.length c0_2] 25 (0, 0)) (by (with_reducible repeat (first | refine blk_drewN ?_ _ | refine blk_drew ?_ | refine blk_alloc ?_ _)); exact BK238.out) hb); have n1_ := Aside0.mk (below_step (by repeat (first | (with_reducible first | exact HB.out | apply below_alloc | apply pw_below_drewN | apply below_drew1 | refine below_set ?_ GE238.out) | exact HB.out)) hb); clear BK238; clear HB; have BK238 := n0_; have HB := n1_; clear n0_ n1_; (try clear hb); (try clear hb2); (try clear hk); (try clear hi)))
 go_ret
 exact ⟨by first | rfl | (simp [errW_none, errW_some] <;> rfl) | (simp [*, errW_none, errW_some] <;> rfl), by repeat (first | (with_reducible first | exact HB.out | apply below_alloc | apply pw_below_drewN | apply below_drew1 | refine below_set ?_ GE238.out) | exact HB.out)⟩

/-! ### spec_Touch: function 59 -/
def spec_Touch.f (k : Nat) (a0_0 : Bool) (l0_1 : List Int) (l0_2 : List (S38)) (a1 : Int) (a2 : Int) : Option (Bool) := (spec_Joined.f k a0_0 l0_1 l0_2 a1 a2).bind fun t242 => (if t242 = true then (some true) else ((spec_Joined.f k a0_0 l0_1 l0_2 a2 a1).bind fun t243 => (some t243)))
theorem spec_Touch.mono : ∀ a0 a1 a2 a3 a4 k, LeO (spec_Touch.f k a0 a1 a2 a3 a4) (spec_Touch.f (k + 1) a0 a1 a2 a3 a4) := by
 intro a0 a1 a2 a3 a4 k
 unfold spec_Touch.f
 repeat' first
   | (with_reducible exact spec_Joined.mono _ _ _ _ _ _)
   | (with_reducible exact LeO.refl _)
   | (with_reducible exact LeO.none _)
   | (with_reducible refine LeO.ite ?_ ?_)
   | (with_reducible refine LeO.bind ?_ (fun _ => ?_))
   | exact spec_Joined.mono _ _ _ _ _ _
   | exact LeO.none _
   | refine LeO.ite ?_ ?_
   | refine LeO.bind ?_ (fun _ => ?_)
set_option maxHeartbeats 8000000 in
set_option maxRecDepth 100000 in
theorem spec_Touch.calls (k : Nat) (a0_0 : Bool) (A0_1 : Option Addr) (c0_1 : Nat) (l0_1 : List Int) (A0_2 : Option Addr) (c0_2 : Nat) (l0_2 : List (S38)) (a1 : Int) (a2 : Int) (r : Bool) (w : World) (hr0_1 : Kd.C (Kd.int .i64) w A0_1 l0_1.length l0_1) (hc0_1 : l0_1.length ≤ c0_1) (hr0_2 : Kd.C k38 w A0_2 l0_2.length l0_2) (hc0_2 : l0_2.length ≤ c0_2) (h : spec_Touch.f k a0_0 l0_1 l0_2 a1 a2 = some r) :
  Calls Tryz.prog 59 #[.agg #[.bool a0_0, .slice A0_1 l0_1.length c0_1, .slice A0_2 l0_2.length c0_2], .int .i64 a1, .int .i64 a2] w fun e w' => e = .returned (.bool r) ∧ Below w.heap.size w w' := by
 have hu25 := Tryz.underlying25
 have HR0_1 := Aside0.mk hr0_1
 have HC0_1 := Aside0.mk hc0_1
 clear hr0_1 hc0_1
 have HR0_2 := Aside0.mk hr0_2
 have HC0_2 := Aside0.mk hc0_2
 clear hr0_2 hc0_2
 have HB := Aside0.mk (Below.refl w.heap.size w)
 have H : ((spec_Joined.f k a0_0 l0_1 l0_2 a1 a2).bind fun t242 => (if t242 = true then (some true) else ((spec_Joined.f k a0_0 l0_1 l0_2 a2 a1).bind fun t243 => (some t243)))) = some r := h
 clear h
 replace H := Option.bind_eq_some_iff.mp H
 obtain ⟨t242, A40, H⟩ := H
 replace H : (if t242 = true then (some true) else ((spec_Joined.f k a0_0 l0_1 l0_2 a2 a1).bind fun t243 => (some t243))) = some r := H
 have A4 := Aside0.mk A40
 clear A40
 by_cases c5 : t242 = true
 ·subst c5
  have H1 : (some true) = some r := by rw [if_pos rfl] at H; exact H
  clear H
  have H := H1
  clear H1
  obtain rfl := Option.some.inj H
  go_enter Tryz.func59, Tryz.ntmps59
  go_wp2_with (first | ((with_reducible refine gate_dst (N := 3) rfl ?_); refine box_event ?hg (N := 3) ?hd (cs := #[.bool a0_0, .slice A0_1 l0_1.length c0_1, .slice A0_2 l0_2.length c0_2]) (t := 25) ?hr ?_; (case hd => rfl); (case hg => rfl); (case hr => first | (go_simp; done) | (go_simp; rfl)); intro gb241 hg w6 hbox hb; have n0_ := Aside0.mk (below_step (by repeat (first | (with_reducible first | exact HB.out | apply below_alloc | apply pw_below_drewN | apply below_drew1) | exact HB.out)) hb); have n1_ := Aside0.mk (hbox); have n2_ := Aside0.mk ((by rw [hg]; exact (below_size (by repeat (first | (with_reducible first | exact HB.out | apply below_alloc | apply pw_below_drewN | apply below_drew1) | exact HB.out))) : w.heap.size ≤ gb241)); have n3_ := Aside0.mk ((by rw [hg]; exact (below_size (by repeat (first | (with_reducible first | exact HB.out | apply below_alloc | apply pw_below_drewN | apply below_drew1) | exact HB.out))) : w.heap.size ≤ gb241)); clear HB; have HB := n0_; have BK241 := n1_; have GW241 := n2_; have GE241 := n3_; clear n0_ n1_ n2_ n3_; clear hb hbox hg; have hcz7_0 : w6.cell? ⟨gb241, 0, none⟩ = some (.bool a0_0) := (blk_cell BK241.out 0).trans rfl; have hcz7_1 : w6.cell? ⟨gb241, 1, none⟩ = some (.slice A0_1 l0_1.length c0_1) := (blk_cell BK241.out 1).trans rfl; have hcz7_2 : w6.cell? ⟨gb241, 2, none⟩ = some (.slice A0_2 l0_2.length c0_2) := (blk_cell BK241.out 2).trans rfl; have hfz7_0 := blk_frozen BK241.out 0; have hfz7_1 := blk_frozen BK241.out 1; have hfz7_2 := blk_frozen BK241.out 2) | ((with_reducible refine gate_callee (f := 81) rfl ?_); refine goesL_ (some 10) rfl rfl Tryz.func81 (by kernel_rfl) rfl #[.agg #[.bool a0_0, .slice A0_1 l0_1.length c0_1, .slice A0_2 l0_2.length c0_2], .int .i64 a1, .int .i64 a2] rfl (by (try simp only [List.map_toArray, List.map_cons, List.map_nil]); first | done | rfl | (simp only [List.length_drop, List.length_take]; rfl)) ?_; (with_reducible refine (spec_Joined.calls k a0_0 _ _ l0_1 _ _ l0_2 a1 a2 true _ ?side1 ?side2 ?side3 ?side4 A4.out).mono ?_); (case side1 => repeat (first | exact (Kd.C_below HR0_1.out HB.out) | (with_reducible refine Kd.C_alloc ?_ _) | (with_reducible refine Kd.C_drewN ?_ _) | (with_reducible refine Kd.C_drew ?_))); (case side2 => exact HC0_1.out); (case side3 => repeat (first | exact (Kd.C_below HR0_2.out HB.out) | (with_reducible refine Kd.C_alloc ?_ _) | (with_reducible refine Kd.C_drewN ?_ _) | (with_reducible refine Kd.C_drew ?_))); (case side4 => exact HC0_2.out); rintro e w8 ⟨rfl, hb⟩; refine ⟨_, rfl, ?_⟩; have n0_ := Aside0.mk (blk_below (g := gb241) (o := .cells #[.bool a0_0, .slice A0_1 l0_1.length c0_1, .slice A0_2 l0_2.length c0_2] 25 (0, 0)) (by (with_reducible repeat (first | refine blk_drewN ?_ _ | refine blk_drew ?_ | refine blk_alloc ?_ _)); exact BK241.out) hb); have n1_ := Aside0.mk (below_step (by repeat (first | (with_reducible first | exact HB.out | apply below_alloc | apply pw_below_drewN | apply below_drew1 | refine below_set ?_ GE241.out) | exact HB.out)) hb); clear BK241; clear HB; have BK241 := n0_; have HB := n1_; clear n0_ n1_; (try clear hb); (try clear hb2); (try clear hk); (try clear hi)))
  go_ret
  exact ⟨by first | rfl | (simp [errW_none, errW_some] <;> rfl) | (simp [*, errW_none, errW_some] <;> rfl), by repeat (first | (with_reducible first | exact HB.out | apply below_alloc | apply pw_below_drewN | apply below_drew1 | refine below_set ?_ GE241.out) | exact HB.out)⟩
 ·replace c5 := Bool.eq_false_iff.mpr c5
  subst c5
  have H1 : ((spec_Joined.f k a0_0 l0_1 l0_2 a2 a1).bind fun t243 => (some t243)) = some r := by rw [if_neg (show ¬ (false = true) by decide)] at H; exact H
  clear H
  have H := H1
  clear H1
  replace H := Option.bind_eq_some_iff.mp H
  obtain ⟨t243, A90, H⟩ := H
  replace H : (some t243) = some r := H
  have A9 := Aside0.mk A90
  clear A90
  obtain rfl := Option.some.inj H
  go_enter Tryz.func59, Tryz.ntmps59
  go_wp2_with (first | ((with_reducible refine gate_dst (N := 3) rfl ?_); refine box_event ?hg (N := 3) ?hd (cs := #[.bool a0_0, .slice A0_1 l0_1.length c0_1, .slice A0_2 l0_2.length c0_2]) (t := 25) ?hr ?_; (case hd => rfl); (case hg => rfl); (case hr => first | (go_simp; done) | (go_simp; rfl)); intro gb241 hg w10 hbox hb; have n0_ := Aside0.mk (below_step (by repeat (first | (with_reducible first | exact HB.out | apply below_alloc | apply pw_below_drewN | apply below_drew1) | exact HB.out)) hb); have n1_ := Aside0.mk (hbox); have n2_ := Aside0.mk ((by rw [hg]; exact (below_size (by repeat (first | (with_reducible first | exact HB.out | apply below_alloc | apply pw_below_drewN | apply below_drew1) | exact HB.out))) : w.heap.size ≤ gb241)); have n3_ := Aside0.mk ((by rw [hg]; exact (below_size (by repeat (first | (with_reducible first | exact HB.out | apply below_alloc | apply pw_below_drewN | apply below_drew1) | exact HB.out))) : w.heap.size ≤ gb241)); clear HB; have HB := n0_; have BK241 := n1_; have GW241 := n2_; have GE241 := n3_; clear n0_ n1_ n2_ n3_; clear hb hbox hg; have hcz11_0 : w10.cell? ⟨gb241, 0, none⟩ = some (.bool a0_0) := (blk_cell BK241.out 0).trans rfl; have hcz11_1 : w10.cell? ⟨gb241, 1, none⟩ = some (.slice A0_1 l0_1.length c0_1) := (blk_cell BK241.out 1).trans rfl; have hcz11_2 : w10.cell? ⟨gb241, 2, none⟩ = some (.slice A0_2 l0_2.length c0_2) := (blk_cell BK241.out 2).trans rfl; have hfz11_0 := blk_frozen BK241.out 0; have hfz11_1 := blk_frozen BK241.out 1; have hfz11_2 := blk_frozen BK241.out 2) | ((with_reducible refine gate_callee (f := 81) rfl ?_); refine goesL_ (some 10) rfl rfl Tryz.func81 (by kernel_rfl) rfl #[.agg #[.bool a0_0, .slice A0_1 l0_1.length c0_1, .slice A0_2 l0_2.length c0_2], .int .i64 a1, .int .i64 a2] rfl (by (try simp only [List.map_toArray, List.map_cons, List.map_nil]); first | done | rfl | (simp only [List.length_drop, List.length_take]; rfl)) ?_; (with_reducible refine (spec_Joined.calls k a0_0 _ _ l0_1 _ _ l0_2 a1 a2 false _ ?side1 ?side2 ?side3 ?side4 A4.out).mono ?_); (case side1 => repeat (first | exact (Kd.C_below HR0_1.out HB.out) | (with_reducible refine Kd.C_alloc ?_ _) | (with_reducible refine Kd.C_drewN ?_ _) | (with_reducible refine Kd.C_drew ?_))); (case side2 => exact HC0_1.out); (case side3 => repeat (first | exact (Kd.C_below HR0_2.out HB.out) | (with_reducible refine Kd.C_alloc ?_ _) | (with_reducible refine Kd.C_drewN ?_ _) | (with_reducible refine Kd.C_drew ?_))); (case side4 => exact HC0_2.out); rintro e w12 ⟨rfl, hb⟩; refine ⟨_, rfl, ?_⟩; have n0_ := Aside0.mk (blk_below (g := gb241) (o := .cells #[.bool a0_0, .slice A0_1 l0_1.length c0_1, .slice A0_2 l0_2.length c0_2] 25 (0, 0)) (by (with_reducible repeat (first | refine blk_drewN ?_ _ | refine blk_drew ?_ | refine blk_alloc ?_ _)); exact BK241.out) hb); have n1_ := Aside0.mk (below_step (by repeat (first | (with_reducible first | exact HB.out | apply below_alloc | apply pw_below_drewN | apply below_drew1 | refine below_set ?_ GE241.out) | exact HB.out)) hb); clear BK241; clear HB; have BK241 := n0_; have HB := n1_; clear n0_ n1_; (try clear hb); (try clear hb2); (try clear hk); (try clear hi); have hcz13_0 : w12.cell? ⟨gb241, 0, none⟩ = some (.bool a0_0) := (blk_cell BK241.out 0).trans rfl; have hcz13_1 : w12.cell? ⟨gb241, 1, none⟩ = some (.slice A0_1 l0_1.length c0_1) := (blk_cell BK241.out 1).trans rfl; have hcz13_2 : w12.cell? ⟨gb241, 2, none⟩ = some (.slice A0_2 l0_2.length c0_2) := (blk_cell BK241.out 2).trans rfl; have hfz13_0 := blk_frozen BK241.out 0; have hfz13_1 := blk_frozen BK241.out 1; have hfz13_2 := blk_frozen BK241.out 2) | (go_at_call 81; (with_reducible refine (spec_Joined.calls k a0_0 _ _ l0_1 _ _ l0_2 a2 a1 t243 _ ?side1 ?side2 ?side3 ?side4 A9.out).mono ?_); (case side1 => repeat (first | exact (Kd.C_below HR0_1.out HB.out) | (with_reducible refine Kd.C_alloc ?_ _) | (with_reducible refine Kd.C_drewN ?_ _) | (with_reducible refine Kd.C_drew ?_))); (case side2 => exact HC0_1.out); (case side3 => repeat (first | exact (Kd.C_below HR0_2.out HB.out) | (with_reducible refine Kd.C_alloc ?_ _) | (with_reducible refine Kd.C_drewN ?_ _) | (with_reducible refine Kd.C_drew ?_))); (case side4 => exact HC0_2.out); rintro e w14 ⟨rfl, hb⟩; have n0_ := Aside0.mk (blk_below (g := gb241) (o := .cells #[.bool a0_0, .slice A0_1 l0_1.length c0_1, .slice A0_2 l0_2.length c0_2] 25 (0, 0)) (by (with_reducible repeat (first | refine blk_drewN ?_ _ | refine blk_drew ?_ | refine blk_alloc ?_ _)); exact BK241.out) hb); have n1_ := Aside0.mk (below_step (by repeat (first | (with_reducible first | exact HB.out | apply below_alloc | apply pw_below_drewN | apply below_drew1 | refine below_set ?_ GE241.out) | exact HB.out)) hb); clear BK241; clear HB; have BK241 := n0_; have HB := n1_; clear n0_ n1_; (try clear hb); (try clear hb2); (try clear hk); (try clear hi)))
  go_ret
  exact ⟨by first | rfl | (simp [errW_none, errW_some] <;> rfl) | (simp [*, errW_none, errW_some] <;> rfl), by repeat (first | (with_reducible first | exact HB.out | apply below_alloc | apply pw_below_drewN | apply below_drew1 | refine below_set ?_ GE241.out) | exact HB.out)⟩

/-! ### spec_merged: function 61 -/
def spec_merged.f (a0 : Int) (a1 : Int) (a2 : Int) : Option (Int) := if a2 = 0 then (some (wrap64 (a0 + a1))) else (if a2 = 1 then (some (mn a0 a1)) else (some (mx a0 a1)))
set_option maxHeartbeats 8000000 in
set_option maxRecDepth 100000 in
theorem spec_merged.calls (a0 : Int) (a1 : Int) (a2 : Int) (r : Int) (w : World) (h : spec_merged.f a0 a1 a2 = some r) :
  Calls Tryz.prog 61 #[.int .i64 a0, .int .i64 a1, .int .i64 a2] w fun e w' => e = .returned (.int .i64 r) ∧ Below w.heap.size w w' := by
 have HB := Aside0.mk (Below.refl w.heap.size w)
 have H : (if a2 = 0 then (some (wrap64 (a0 + a1))) else (if a2 = 1 then (some (mn a0 a1)) else (some (mx a0 a1)))) = some r := h
 clear h
 by_cases c4 : a2 = 0
 ·rw [if_pos c4] at H
  have c4b0 : (a2 == 0) = true := beq_iff_eq.mpr c4
  have c4b1 : (a2 != 0) = false := bne_eq_false_iff_eq.mpr c4
  clear c4
  obtain rfl := Option.some.inj H
  go_enter Tryz.func61, Tryz.ntmps61
  go_wp2
  go_ret
  exact ⟨by first | rfl | (simp [errW_none, errW_some] <;> rfl) | (simp [*, errW_none, errW_some] <;> rfl), by repeat (first | (with_reducible first | exact HB.out | apply below_alloc | apply pw_below_drewN | apply below_drew1) | exact HB.out)⟩
 ·rw [if_neg c4] at H
  have c4b0 : (a2 == 0) = false := beq_eq_false_iff_ne.mpr c4
  have c4b1 : (a2 != 0) = true := bne_iff_ne.mpr c4
  by_cases c5 : a2 = 1
  ·rw [if_pos c5] at H
   have c5b0 : (a2 == 1) = true := beq_iff_eq.mpr c5
   have c5b1 : (a2 != 1) = false := bne_eq_false_iff_eq.mpr c5
   clear c5
   obtain ⟨ji6, hji6⟩ : ∃ j_ : Int, (mn a0 a1) = j_ := ⟨_, rfl⟩
   replace H : (some ji6) = some r := by first | (rw [hji6] at H; exact H) | (simp only [hji6] at H ⊢; exact H)
   have hji6_ : (if a1 < a0 then a1 else a0) = ji6 := hji6
   obtain rfl := Option.some.inj H
   go_enter Tryz.func61, Tryz.ntmps61
   go_wp2
   go_ret
   exact ⟨by first | rfl | (simp [errW_none, errW_some] <;> rfl) | (simp only [← hji6]; first | rfl | (simp [errW_none, errW_some] <;> rfl)) | (simp [*, errW_none, errW_some] <;> rfl), by repeat (first | (with_reducible first | exact HB.out | apply below_alloc | apply pw_below_drewN | apply below_drew1) | exact HB.out)⟩
  ·rw [if_neg c5] at H
   have c5b0 : (a2 == 1) = false := beq_eq_false_iff_ne.mpr c5
   have c5b1 : (a2 != 1) = true := bne_iff_ne.mpr c5
   obtain ⟨ji7, hji7⟩ : ∃ j_ : Int, (mx a0 a1) = j_ := ⟨_, rfl⟩
   replace H : (some ji7) = some r := by first | (rw [hji7] at H; exact H) | (simp only [hji7] at H ⊢; exact H)
   have hji7_ : (if a0 < a1 then a1 else a0) = ji7 := hji7
   obtain rfl := Option.some.inj H
   go_enter Tryz.func61, Tryz.ntmps61
   go_wp2
   go_ret
   exact ⟨by first | rfl | (simp [errW_none, errW_some] <;> rfl) | (simp only [← hji7]; first | rfl | (simp [errW_none, errW_some] <;> rfl)) | (simp [*, errW_none, errW_some] <;> rfl), by repeat (first | (with_reducible first | exact HB.out | apply below_alloc | apply pw_below_drewN | apply below_drew1) | exact HB.out)⟩

end Go.Proofs.YtfkmpnpliadohaaGreat.PL
