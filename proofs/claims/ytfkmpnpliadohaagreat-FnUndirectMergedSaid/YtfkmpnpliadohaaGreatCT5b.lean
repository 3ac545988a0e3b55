/- Printed by a program (the kit's printer, run over contracts that were proved by hand). -/
import Derived.Test.YtfkmpnpliadohaaGreatCT0
import Derived.Test.YtfkmpnpliadohaaGreatCT5
set_option linter.unusedVariables false
set_option linter.unusedSimpArgs false
namespace Go.Proofs.YtfkmpnpliadohaaGreat.PL
open Go.RowKit Go.Proofs.YtfkmpnpliadohaaGreatW.PrintWords Go.Proofs.YtfkmpnpliadohaaGreatW.PrintLast Go.Proofs.YtfkmpnpliadohaaGreatW.PrintMore
attribute [local go_sem] max2_int min2_int max_two min_two max_three min_three max_four min_four   -- for this text's walks alone
set_option linter.unusedVariables false
set_option linter.unusedSimpArgs false

/-! ### laws_FnUndirectMerged: function 3 -/
def laws_FnUndirectMerged.T21 : Bool × List (List Nat × List Nat) := (true, [([], []), ([0], [0]), ([], []), ([2], [2]), ([], []), ([3, 4], [3, 4]), ([5], [5]), ([], []), ([7], [7]), ([], []), ([8, 9], [8, 9]), ([10], [10]), ([], []), ([], []), ([], []), ([12, 13, 14], [12, 13, 14]), ([6, 11, 15], [6, 11, 15]), ([16], [16]), ([1, 17, 15], [1, 17]), ([0, 1, 2, 3, 4, 5, 6, 7, 8, 9, 10, 11, 12, 13, 14, 15, 16, 17, 18], []), ([19, 18, 18, 0, 1, 2, 3, 4, 5, 6, 7, 8, 9, 10, 11, 12, 13, 14, 15, 16, 17, 18], [18, 19])])
def laws_FnUndirectMerged.B21 : List Nat := [0, 1, 0, 4, 0, 28, 60, 0, 128, 0, 896, 1920, 0, 0, 0, 28672, 65532, 131068, 262143, 524287, 1048575]
theorem laws_FnUndirectMerged.tab21 : rtab .any (opsOf Tryz.f3 21) = laws_FnUndirectMerged.T21 := by kernel_rfl
theorem laws_FnUndirectMerged.bits21 : waitsOk laws_FnUndirectMerged.T21.2 laws_FnUndirectMerged.B21 = true := by kernel_rfl
set_option maxHeartbeats 8000000 in
set_option maxRecDepth 100000 in
theorem laws_FnUndirectMerged.calls (k : Nat) (a0_0 : Bool) (A0_1 : Option Addr) (c0_1 : Nat) (l0_1 : List Int) (A0_2 : Option Addr) (c0_2 : Nat) (l0_2 : List (S38)) (a1 : Int) (a2 : Int) (r : Bool) (w : World) (hr0_1 : Kd.C (Kd.int .i64) w A0_1 l0_1.length l0_1) (hc0_1 : l0_1.length ≤ c0_1) (hr0_2 : Kd.C k38 w A0_2 l0_2.length l0_2) (hc0_2 : l0_2.length ≤ c0_2) (h : laws_FnUndirectMerged.f k a0_0 l0_1 l0_2 a1 a2 = some r) :
  Calls Tryz.prog 3 #[.agg #[.bool a0_0, .slice A0_1 l0_1.length c0_1, .slice A0_2 l0_2.length c0_2], .int .i64 a1, .int .u8 a2] w fun e w' => e = .returned (.bool r) ∧ Below w.heap.size w w' := by
 have hu25 := Tryz.underlying25
 have hu33 := Tryz.underlying33
 have hu38 := Tryz.underlying38
 have HR0_1 := Aside0.mk hr0_1
 have HC0_1 := Aside0.mk hc0_1
 clear hr0_1 hc0_1
 have HR0_2 := Aside0.mk hr0_2
 have HC0_2 := Aside0.mk hc0_2
 clear hr0_2 hc0_2
 have HB := Aside0.mk (Below.refl w.heap.size w)
 have H : ((laws_zzFits1.f a0_0 l0_1 l0_2).bind fun t160 => (if t160 = true then ((laws_fewOf.f k a0_0 l0_1 l0_2 true 25).bind fun t161 => (if t161 = true then (if a1 > 1099511627776 then (laws_FnUndirectMerged.j0 k a1 a2 true a0_0 l0_1 l0_2) else (laws_FnUndirectMerged.j0 k a1 a2 (decide (a1 < (-1099511627776))) a0_0 l0_1 l0_2)) else (laws_FnUndirectMerged.j0 k a1 a2 true a0_0 l0_1 l0_2))) else (some true))) = some r := h
 clear h
 replace H := Option.bind_eq_some_iff.mp H
 obtain ⟨t160, A40, H⟩ := H
 replace H : (if t160 = true then ((laws_fewOf.f k a0_0 l0_1 l0_2 true 25).bind fun t161 => (if t161 = true then (if a1 > 1099511627776 then (laws_FnUndirectMerged.j0 k a1 a2 true a0_0 l0_1 l0_2) else (laws_FnUndirectMerged.j0 k a1 a2 (decide (a1 < (-1099511627776))) a0_0 l0_1 l0_2)) else (laws_FnUndirectMerged.j0 k a1 a2 true a0_0 l0_1 l0_2))) else (some true)) = some r := H
 have A4 := Aside0.mk A40
 clear A40
 by_cases c5 : t160 = true
 ·subst c5
  have H1 : ((laws_fewOf.f k a0_0 l0_1 l0_2 true 25).bind fun t161 => (if t161 = true then (if a1 > 1099511627776 then (laws_FnUndirectMerged.j0 k a1 a2 true a0_0 l0_1 l0_2) else (laws_FnUndirectMerged.j0 k a1 a2 (decide (a1 < (-1099511627776))) a0_0 l0_1 l0_2)) else (laws_FnUndirectMerged.j0 k a1 a2 true a0_0 l0_1 l0_2))) = some r := by rw [if_pos rfl] at H; exact H
  clear H
  have H := H1
  clear H1
  have HC6 := Aside0.mk H
  clear H
  go_enter Tryz.func3, Tryz.ntmps3
  go_upto_region 3 with (first | ((with_reducible refine gate_dst (N := 3) rfl ?_); refine box_event ?hg (N := 3) ?hd (cs := #[.bool a0_0, .slice A0_1 l0_1.length c0_1, .slice A0_2 l0_2.length c0_2]) (t := 25) ?hr ?_; (case hd => rfl); (case hg => rfl); (case hr => first | (go_simp; done) | (go_simp; rfl)); intro gb159 hg w7 hbox hb; have n0_ := Aside0.mk (below_step (by repeat (first | (with_reducible first | exact HB.out | apply below_alloc | apply pw_below_drewN | apply below_drew1) | exact HB.out)) hb); have n1_ := Aside0.mk (hbox); have n2_ := Aside0.mk ((by rw [hg]; exact (below_size (by repeat (first | (with_reducible first | exact HB.out | apply below_alloc | apply pw_below_drewN | apply below_drew1) | exact HB.out))) : w.heap.size ≤ gb159)); have n3_ := Aside0.mk ((by rw [hg]; exact (below_size (by repeat (first | (with_reducible first | exact HB.out | apply below_alloc | apply pw_below_drewN | apply below_drew1) | exact HB.out))) : w.heap.size ≤ gb159)); clear HB; have HB := n0_; have BK159 := n1_; have GW159 := n2_; have GE159 := n3_; clear n0_ n1_ n2_ n3_; clear hb hbox hg; have hcz8_0 : w7.cell? ⟨gb159, 0, none⟩ = some (.bool a0_0) := (blk_cell BK159.out 0).trans rfl; have hcz8_1 : w7.cell? ⟨gb159, 1, none⟩ = some (.slice A0_1 l0_1.length c0_1) := (blk_cell BK159.out 1).trans rfl; have hcz8_2 : w7.cell? ⟨gb159, 2, none⟩ = some (.slice A0_2 l0_2.length c0_2) := (blk_cell BK159.out 2).trans rfl; have hfz8_0 := blk_frozen BK159.out 0; have hfz8_1 := blk_frozen BK159.out 1; have hfz8_2 := blk_frozen BK159.out 2) | ((with_reducible refine gate_callee (f := 10) rfl ?_); refine goesL_ (some 17) rfl rfl Tryz.func10 (by kernel_rfl) rfl #[.agg #[.bool a0_0, .slice A0_1 l0_1.length c0_1, .slice A0_2 l0_2.length c0_2]] rfl (by (try simp only [List.map_toArray, List.map_cons, List.map_nil]); first | done | rfl | (simp only [List.length_drop, List.length_take]; rfl)) ?_; (with_reducible refine (laws_zzFits1.calls a0_0 _ _ l0_1 _ _ l0_2 true _ ?side1 ?side2 ?side3 ?side4 A4.out).mono ?_); (case side1 => repeat (first | exact (Kd.C_below HR0_1.out HB.out) | (with_reducible refine Kd.C_alloc ?_ _) | (with_reducible refine Kd.C_drewN ?_ _) | (with_reducible refine Kd.C_drew ?_))); (case side2 => exact HC0_1.out); (case side3 => repeat (first | exact (Kd.C_below HR0_2.out HB.out) | (with_reducible refine Kd.C_alloc ?_ _) | (with_reducible refine Kd.C_drewN ?_ _) | (with_reducible refine Kd.C_drew ?_))); (case side4 => exact HC0_2.out); rintro e w9 ⟨rfl, hb⟩; refine ⟨_, rfl, ?_⟩; have n0_ := Aside0.mk (blk_below (g := gb159) (o := .cells #[.bool a0_0, .slice A0_1 l0_1.length c0_1, .slice A0_2 l0_2.length c0_2] 25 (0, 0)) (by (with_reducible repeat (first | refine blk_drewN ?_ _ | refine blk_drew ?_ | refine blk_alloc ?_ _)); exact BK159.out) hb); have n1_ := Aside0.mk (below_step (by repeat (first | (with_reducible first | exact HB.out | apply below_alloc | apply pw_below_drewN | apply below_drew1 | refine below_set ?_ GE159.out) | exact HB.out)) hb); clear BK159; clear HB; have BK159 := n0_; have HB := n1_; clear n0_ n1_; (try clear hb); (try clear hb2); (try clear hk); (try clear hi)))
  (try simp only [Act.put, List.setIfInBounds_toArray, List.set_cons_zero, List.set_cons_succ])
  go_cut [29] (fun v29 wc => ∃ (kq : Nat) (x29_5 : Bool), v29 = .bool x29_5 ∧ Aside0 (laws_FnUndirectMerged.j0 kq a1 a2 x29_5 a0_0 l0_1 l0_2 = some r) ∧ Aside0 (kq ≤ k) ∧ Aside0 (wc.heap[gb159]? = some (.cells #[.bool a0_0, (.slice A0_1 l0_1.length c0_1), (.slice A0_2 l0_2.length c0_2)] 25 (0, 0))) ∧ Aside0 (Below w.heap.size w wc))
  case first =>
   have H := HC6.out
   clear HC6
   replace H := Option.bind_eq_some_iff.mp H
   obtain ⟨t161, A100, H⟩ := H
   replace H : (if t161 = true then (if a1 > 1099511627776 then (laws_FnUndirectMerged.j0 k a1 a2 true a0_0 l0_1 l0_2) else (laws_FnUndirectMerged.j0 k a1 a2 (decide (a1 < (-1099511627776))) a0_0 l0_1 l0_2)) else (laws_FnUndirectMerged.j0 k a1 a2 true a0_0 l0_1 l0_2)) = some r := H
   have A10 := Aside0.mk A100
   clear A100
   by_cases c11 : t161 = true
   ·subst c11
    have H1 : (if a1 > 1099511627776 then (laws_FnUndirectMerged.j0 k a1 a2 true a0_0 l0_1 l0_2) else (laws_FnUndirectMerged.j0 k a1 a2 (decide (a1 < (-1099511627776))) a0_0 l0_1 l0_2)) = some r := by rw [if_pos rfl] at H; exact H
    clear H
    have H := H1
    clear H1
    by_cases c12 : a1 > 1099511627776
    ·rw [if_pos c12] at H
     have c12b0 : decide (1099511627776 < a1) = true := decide_eq_true c12
     clear c12
     (first | rw [c12b0] | (simp only [i64_w, i32_w]; rw [c12b0]) | skip)
     have H' := Aside0.mk H
     clear H
     have hcz13_0 : w9.cell? ⟨gb159, 0, none⟩ = some (.bool a0_0) := (blk_cell BK159.out 0).trans rfl
     have hcz13_1 : w9.cell? ⟨gb159, 1, none⟩ = some (.slice A0_1 l0_1.length c0_1) := (blk_cell BK159.out 1).trans rfl
     have hcz13_2 : w9.cell? ⟨gb159, 2, none⟩ = some (.slice A0_2 l0_2.length c0_2) := (blk_cell BK159.out 2).trans rfl
     have hfz13_0 := blk_frozen BK159.out 0
     have hfz13_1 := blk_frozen BK159.out 1
     have hfz13_2 := blk_frozen BK159.out 2
     go_wp2_with (first | ((with_reducible refine gate_callee (f := 11) rfl ?_); refine goesL_ (some 20) rfl rfl Tryz.func11 (by kernel_rfl) rfl #[.agg #[.bool a0_0, .slice A0_1 l0_1.length c0_1, .slice A0_2 l0_2.length c0_2], .bool true, .int .i64 25] rfl (by (try simp only [List.map_toArray, List.map_cons, List.map_nil]); first | done | rfl | (simp only [List.length_drop, List.length_take]; rfl)) ?_; (with_reducible refine (laws_fewOf.calls k a0_0 _ _ l0_1 _ _ l0_2 true 25 true _ ?side1 ?side2 ?side3 ?side4 A10.out).mono ?_); (case side1 => repeat (first | exact (Kd.C_below HR0_1.out HB.out) | (with_reducible refine Kd.C_alloc ?_ _) | (with_reducible refine Kd.C_drewN ?_ _) | (with_reducible refine Kd.C_drew ?_))); (case side2 => exact HC0_1.out); (case side3 => repeat (first | exact (Kd.C_below HR0_2.out HB.out) | (with_reducible refine Kd.C_alloc ?_ _) | (with_reducible refine Kd.C_drewN ?_ _) | (with_reducible refine Kd.C_drew ?_))); (case side4 => exact HC0_2.out); rintro e w14 ⟨rfl, hb⟩; refine ⟨_, rfl, ?_⟩; have n0_ := Aside0.mk (blk_below (g := gb159) (o := .cells #[.bool a0_0, .slice A0_1 l0_1.length c0_1, .slice A0_2 l0_2.length c0_2] 25 (0, 0)) (by (with_reducible repeat (first | refine blk_drewN ?_ _ | refine blk_drew ?_ | refine blk_alloc ?_ _)); exact BK159.out) hb); have n1_ := Aside0.mk (below_step (by repeat (first | (with_reducible first | exact HB.out | apply below_alloc | apply pw_below_drewN | apply below_drew1 | refine below_set ?_ GE159.out) | exact HB.out)) hb); clear BK159; clear HB; have BK159 := n0_; have HB := n1_; clear n0_ n1_; (try clear hb); (try clear hb2); (try clear hk); (try clear hi)))
     go_meet
     case rel => exact ⟨_, (true), (by first | rfl | (simp; done) | (simp [*]; done)), H', ⟨by first | omega | exact Nat.le_refl _⟩, ⟨by (with_reducible repeat (first | refine blk_drewN ?_ _ | refine blk_drew ?_ | refine blk_alloc ?_ _)); exact BK159.out⟩, ⟨by repeat (first | (with_reducible first | exact HB.out | apply below_alloc | apply pw_below_drewN | apply below_drew1 | refine below_set ?_ GE159.out) | exact HB.out)⟩⟩
    ·rw [if_neg c12] at H
     have c12b0 : decide (1099511627776 < a1) = false := decide_eq_false c12
     clear c12
     (first | rw [c12b0] | (simp only [i64_w, i32_w]; rw [c12b0]) | skip)
     have H' := Aside0.mk H
     clear H
     have hcz15_0 : w9.cell? ⟨gb159, 0, none⟩ = some (.bool a0_0) := (blk_cell BK159.out 0).trans rfl
     have hcz15_1 : w9.cell? ⟨gb159, 1, none⟩ = some (.slice A0_1 l0_1.length c0_1) := (blk_cell BK159.out 1).trans rfl
     have hcz15_2 : w9.cell? ⟨gb159, 2, none⟩ = some (.slice A0_2 l0_2.length c0_2) := (blk_cell BK159.out 2).trans rfl
     have hfz15_0 := blk_frozen BK159.out 0
     have hfz15_1 := blk_frozen BK159.out 1
     have hfz15_2 := blk_frozen BK159.out 2
     go_wp2_with (first | ((with_reducible refine gate_callee (f := 11) rfl ?_); refine goesL_ (some 20) rfl rfl Tryz.func11 (by kernel_rfl) rfl #[.agg #[.bool a0_0, .slice A0_1 l0_1.length c0_1, .slice A0_2 l0_2.length c0_2], .bool true, .int .i64 25] rfl (by (try simp only [List.map_toArray, List.map_cons, List.map_nil]); first | done | rfl | (simp only [List.length_drop, List.length_take]; rfl)) ?_; (with_reducible refine (laws_fewOf.calls k a0_0 _ _ l0_1 _ _ l0_2 true 25 true _ ?side1 ?side2 ?side3 ?side4 A10.out).mono ?_); (case side1 => repeat (first | exact (Kd.C_below HR0_1.out HB.out) | (with_reducible refine Kd.C_alloc ?_ _) | (with_reducible refine Kd.C_drewN ?_ _) | (with_reducible refine Kd.C_drew ?_))); (case side2 => exact HC0_1.out); (case side3 => repeat (first | exact (Kd.C_below HR0_2.out HB.out) | (with_reducible refine Kd.C_alloc ?_ _) | (with_reducible refine Kd.C_drewN ?_ _) | (with_reducible refine Kd.C_drew ?_))); (case side4 => exact HC0_2.out); rintro e w16 ⟨rfl, hb⟩; refine ⟨_, rfl, ?_⟩; have n0_ := Aside0.mk (blk_below (g := gb159) (o := .cells #[.bool a0_0, .slice A0_1 l0_1.length c0_1, .slice A0_2 l0_2.length c0_2] 25 (0, 0)) (by (with_reducible repeat (first | refine blk_drewN ?_ _ | refine blk_drew ?_ | refine blk_alloc ?_ _)); exact BK159.out) hb); have n1_ := Aside0.mk (below_step (by repeat (first | (with_reducible first | exact HB.out | apply below_alloc | apply pw_below_drewN | apply below_drew1 | refine below_set ?_ GE159.out) | exact HB.out)) hb); clear BK159; clear HB; have BK159 := n0_; have HB := n1_; clear n0_ n1_; (try clear hb); (try clear hb2); (try clear hk); (try clear hi)))
     go_meet
     case rel => exact ⟨_, (decide (a1 < (-1099511627776))), (by first | rfl | (simp; done) | (simp [*]; done)), H', ⟨by first | omega | exact Nat.le_refl _⟩, ⟨by (with_reducible repeat (first | refine blk_drewN ?_ _ | refine blk_drew ?_ | refine blk_alloc ?_ _)); exact BK159.out⟩, ⟨by repeat (first | (with_reducible first | exact HB.out | apply below_alloc | apply pw_below_drewN | apply below_drew1 | refine below_set ?_ GE159.out) | exact HB.out)⟩⟩
   ·replace c11 := Bool.eq_false_iff.mpr c11
    subst c11
    have H1 : (laws_FnUndirectMerged.j0 k a1 a2 true a0_0 l0_1 l0_2) = some r := by rw [if_neg (show ¬ (false = true) by decide)] at H; exact H
    clear H
    have H := H1
    clear H1
    have H' := Aside0.mk H
    clear H
    have hcz17_0 : w9.cell? ⟨gb159, 0, none⟩ = some (.bool a0_0) := (blk_cell BK159.out 0).trans rfl
    have hcz17_1 : w9.cell? ⟨gb159, 1, none⟩ = some (.slice A0_1 l0_1.length c0_1) := (blk_cell BK159.out 1).trans rfl
    have hcz17_2 : w9.cell? ⟨gb159, 2, none⟩ = some (.slice A0_2 l0_2.length c0_2) := (blk_cell BK159.out 2).trans rfl
    have hfz17_0 := blk_frozen BK159.out 0
    have hfz17_1 := blk_frozen BK159.out 1
    have hfz17_2 := blk_frozen BK159.out 2
    go_wp2_with (first | ((with_reducible refine gate_callee (f := 11) rfl ?_); refine goesL_ (some 20) rfl rfl Tryz.func11 (by kernel_rfl) rfl #[.agg #[.bool a0_0, .slice A0_1 l0_1.length c0_1, .slice A0_2 l0_2.length c0_2], .bool true, .int .i64 25] rfl (by (try simp only [List.map_toArray, List.map_cons, List.map_nil]); first | done | rfl | (simp only [List.length_drop, List.length_take]; rfl)) ?_; (with_reducible refine (laws_fewOf.calls k a0_0 _ _ l0_1 _ _ l0_2 true 25 false _ ?side1 ?side2 ?side3 ?side4 A10.out).mono ?_); (case side1 => repeat (first | exact (Kd.C_below HR0_1.out HB.out) | (with_reducible refine Kd.C_alloc ?_ _) | (with_reducible refine Kd.C_drewN ?_ _) | (with_reducible refine Kd.C_drew ?_))); (case side2 => exact HC0_1.out); (case side3 => repeat (first | exact (Kd.C_below HR0_2.out HB.out) | (with_reducible refine Kd.C_alloc ?_ _) | (with_reducible refine Kd.C_drewN ?_ _) | (with_reducible refine Kd.C_drew ?_))); (case side4 => exact HC0_2.out); rintro e w18 ⟨rfl, hb⟩; refine ⟨_, rfl, ?_⟩; have n0_ := Aside0.mk (blk_below (g := gb159) (o := .cells #[.bool a0_0, .slice A0_1 l0_1.length c0_1, .slice A0_2 l0_2.length c0_2] 25 (0, 0)) (by (with_reducible repeat (first | refine blk_drewN ?_ _ | refine blk_drew ?_ | refine blk_alloc ?_ _)); exact BK159.out) hb); have n1_ := Aside0.mk (below_step (by repeat (first | (with_reducible first | exact HB.out | apply below_alloc | apply pw_below_drewN | apply below_drew1 | refine below_set ?_ GE159.out) | exact HB.out)) hb); clear BK159; clear HB; have BK159 := n0_; have HB := n1_; clear n0_ n1_; (try clear hb); (try clear hb2); (try clear hk); (try clear hi)))
    go_meet
    case rel => exact ⟨_, (true), (by first | rfl | (simp; done) | (simp [*]; done)), H', ⟨by first | omega | exact Nat.le_refl _⟩, ⟨by (with_reducible repeat (first | refine blk_drewN ?_ _ | refine blk_drew ?_ | refine blk_alloc ?_ _)); exact BK159.out⟩, ⟨by repeat (first | (with_reducible first | exact HB.out | apply below_alloc | apply pw_below_drewN | apply below_drew1 | refine below_set ?_ GE159.out) | exact HB.out)⟩⟩
  case rest =>
   clear HC6
   try clear c1
   try clear p2
   try clear c3
   try clear c5
   try clear c10
   try clear c11
   try clear c12
   try clear c12b0
   try clear hcz13_0
   try clear hcz13_1
   try clear hcz13_2
   try clear hcz15_0
   try clear hcz15_1
   try clear hcz15_2
   try clear hcz17_0
   try clear hcz17_1
   try clear hcz17_2
   try clear hcz8_0
   try clear hcz8_1
   try clear hcz8_2
   try clear hfz13_0
   try clear hfz13_1
   try clear hfz13_2
   try clear hfz15_0
   try clear hfz15_1
   try clear hfz15_2
   try clear hfz17_0
   try clear hfz17_1
   try clear hfz17_2
   try clear hfz8_0
   try clear hfz8_1
   try clear hfz8_2
   obtain ⟨kq, x29_5, rfl, HA, HJ5, BK159, HB⟩ := hcut
   cases kq with
   | zero => exact absurd HA.out (by simp [laws_FnUndirectMerged.j0])
   | succ kj5 =>
    have H := HA.out
    clear HA
    simp only [laws_FnUndirectMerged.j0] at H
    by_cases c19 : x29_5 = true
    ·subst c19
     have H1 : (some true) = some r := by rw [if_pos rfl] at H; exact H
     clear H
     have H := H1
     clear H1
     obtain rfl := Option.some.inj H
     go_wp2
     go_ret
     exact ⟨by first | rfl | (simp [errW_none, errW_some] <;> rfl) | (simp [*, errW_none, errW_some] <;> rfl), by repeat (first | (with_reducible first | exact HB.out | apply below_alloc | apply pw_below_drewN | apply below_drew1 | refine below_set ?_ GE159.out) | exact HB.out)⟩
    ·replace c19 := Bool.eq_false_iff.mpr c19
     subst c19
     have H1 : ((impl_UndirectWeighted.f a0_0 l0_1 l0_2 a1 (wrap64 (Int.tmod a2 3))).bind fun bt162 => ((laws_tableOf.f a0_0 l0_1 l0_2).bind fun bt171 => (laws_FnUndirectMerged.l0 kj5 a1 (wrap64 (Int.tmod a2 3)) bt162.2.2.2 0 bt162.1 bt162.2.1 bt162.2.2.1 bt171.1 bt171.2.1 bt171.2.2 false bt171.1 ([] : List (S38))))) = some r := by rw [if_neg (show ¬ (false = true) by decide)] at H; exact H
     clear H
     have H := H1
     clear H1
     replace H := Option.bind_eq_some_iff.mp H
     obtain ⟨⟨t162, t163, t166, t169⟩, A200, H⟩ := H
     replace H : ((laws_tableOf.f a0_0 l0_1 l0_2).bind fun bt171 => (laws_FnUndirectMerged.l0 kj5 a1 (wrap64 (Int.tmod a2 3)) t169 0 t162 t163 t166 bt171.1 bt171.2.1 bt171.2.2 false bt171.1 ([] : List (S38)))) = some r := H
     have A20 := Aside0.mk A200
     clear A200
     replace H := Option.bind_eq_some_iff.mp H
     obtain ⟨⟨t171, t174, t177⟩, A210, H⟩ := H
     replace H : (laws_FnUndirectMerged.l0 kj5 a1 (wrap64 (Int.tmod a2 3)) t169 0 t162 t163 t166 t171 t174 t177 false t171 ([] : List (S38))) = some r := H
     have A21 := Aside0.mk A210
     clear A210
     have H' := Aside0.mk H
     clear H
     have hcz22_0 : wc.cell? ⟨gb159, 0, none⟩ = some (.bool a0_0) := (blk_cell BK159.out 0).trans rfl
     have hcz22_1 : wc.cell? ⟨gb159, 1, none⟩ = some (.slice A0_1 l0_1.length c0_1) := (blk_cell BK159.out 1).trans rfl
     have hcz22_2 : wc.cell? ⟨gb159, 2, none⟩ = some (.slice A0_2 l0_2.length c0_2) := (blk_cell BK159.out 2).trans rfl
     have hfz22_0 := blk_frozen BK159.out 0
     have hfz22_1 := blk_frozen BK159.out 1
     have hfz22_2 := blk_frozen BK159.out 2
     go_wp2_with (first | ((with_reducible refine gate_callee (f := 12) rfl ?_); refine goesL_ (some 37) rfl rfl Tryz.func12 (by kernel_rfl) rfl #[.agg #[.bool a0_0, .slice A0_1 l0_1.length c0_1, .slice A0_2 l0_2.length c0_2], .int .i64 a1, .int .i64 (wrap64 (Int.tmod a2 3))] rfl (by (try simp only [List.map_toArray, List.map_cons, List.map_nil]); first | done | rfl | (simp only [List.length_drop, List.length_take]; rfl)) ?_; (with_reducible refine (impl_UndirectWeighted.calls a0_0 _ _ l0_1 _ _ l0_2 a1 (wrap64 (Int.tmod a2 3)) t162 t163 t166 t169 _ ?side1 ?side2 ?side3 ?side4 A20.out).mono ?_); (case side1 => repeat (first | exact (Kd.C_below HR0_1.out HB.out) | (with_reducible refine Kd.C_alloc ?_ _) | (with_reducible refine Kd.C_drewN ?_ _) | (with_reducible refine Kd.C_drew ?_))); (case side2 => exact HC0_1.out); (case side3 => repeat (first | exact (Kd.C_below HR0_2.out HB.out) | (with_reducible refine Kd.C_alloc ?_ _) | (with_reducible refine Kd.C_drewN ?_ _) | (with_reducible refine Kd.C_drew ?_))); (case side4 => exact HC0_2.out); rintro e w23 ⟨v164, v167, rfl, ho0, ho1, hb⟩; refine ⟨_, rfl, ?_⟩; have n0_ := Aside0.mk (Kd.R_lower ho0 (below_size (by repeat (first | (with_reducible first | exact HB.out | apply below_alloc | apply pw_below_drewN | apply below_drew1 | refine below_set ?_ GE159.out) | exact HB.out)))); have n1_ := Aside0.mk (Kd.R_lower ho1 (below_size (by repeat (first | (with_reducible first | exact HB.out | apply below_alloc | apply pw_below_drewN | apply below_drew1 | refine below_set ?_ GE159.out) | exact HB.out)))); have n2_ := Aside0.mk (blk_below (g := gb159) (o := .cells #[.bool a0_0, .slice A0_1 l0_1.length c0_1, .slice A0_2 l0_2.length c0_2] 25 (0, 0)) (by (with_reducible repeat (first | refine blk_drewN ?_ _ | refine blk_drew ?_ | refine blk_alloc ?_ _)); exact BK159.out) hb); have n3_ := Aside0.mk (below_step (by repeat (first | (with_reducible first | exact HB.out | apply below_alloc | apply pw_below_drewN | apply below_drew1 | refine below_set ?_ GE159.out) | exact HB.out)) hb); clear BK159; clear HB; have HO165 := n0_; have HO168 := n1_; have BK159 := n2_; have HB := n3_; clear n0_ n1_ n2_ n3_; (try clear hb); (try clear hb2); (try clear hk); (try clear hi); (try clear ho0); (try clear ho1)) | ((with_reducible refine gate_dst (N := 8) rfl ?_); refine box_event ?hg (N := 8) ?hd (cs := #[.bool false, .slice none 0 0, .slice none 0 0]) (t := 25) ?hr ?_; (case hd => rfl); (case hg => rfl); (case hr => first | (go_simp; done) | (go_simp; rfl)); intro gb170 hg w24 hbox hb; have n0_ := Aside0.mk (Kd.R_below (by (with_reducible repeat (first | apply Kd.R_alloc | apply Kd.R_drewN | apply Kd.R_drew)); exact HO165.out) hb); have n1_ := Aside0.mk (Kd.R_below (by (with_reducible repeat (first | apply Kd.R_alloc | apply Kd.R_drewN | apply Kd.R_drew)); exact HO168.out) hb); have n2_ := Aside0.mk (blk_below (g := gb159) (o := .cells #[.bool a0_0, .slice A0_1 l0_1.length c0_1, .slice A0_2 l0_2.length c0_2] 25 (0, 0)) (by (with_reducible repeat (first | refine blk_drewN ?_ _ | refine blk_drew ?_ | refine blk_alloc ?_ _)); exact BK159.out) hb); have n3_ := Aside0.mk (below_step (by repeat (first | (with_reducible first | exact HB.out | apply below_alloc | apply pw_below_drewN | apply below_drew1 | refine below_set ?_ GE159.out) | exact HB.out)) hb); have n4_ := Aside0.mk (hbox); have n5_ := Aside0.mk ((by rw [hg]; exact (below_size (by repeat (first | (with_reducible first | exact HB.out | apply below_alloc | apply pw_below_drewN | apply below_drew1 | refine below_set ?_ GE159.out) | exact HB.out))) : w.heap.size ≤ gb170)); have n6_ := Aside0.mk ((by rw [hg]; exact (below_size (by repeat (first | (with_reducible first | exact HB.out | apply below_alloc | apply pw_below_drewN | apply below_drew1 | refine below_set ?_ GE159.out) | exact HB.out))) : w.heap.size ≤ gb170)); have n7_ := Aside0.mk ((by rw [hg]; exact Nat.ne_of_lt (blk_lt (g := gb159) (o := .cells #[.bool a0_0, .slice A0_1 l0_1.length c0_1, .slice A0_2 l0_2.length c0_2] 25 (0, 0)) (by (with_reducible repeat (first | refine blk_drewN ?_ _ | refine blk_drew ?_ | refine blk_alloc ?_ _)); exact BK159.out)) : gb159 ≠ gb170)); have n8_ := Aside0.mk ((by rw [hg]; exact Nat.ne_of_gt (blk_lt (g := gb159) (o := .cells #[.bool a0_0, .slice A0_1 l0_1.length c0_1, .slice A0_2 l0_2.length c0_2] 25 (0, 0)) (by (with_reducible repeat (first | refine blk_drewN ?_ _ | refine blk_drew ?_ | refine blk_alloc ?_ _)); exact BK159.out)) : gb170 ≠ gb159)); clear HO165; clear HO168; clear BK159; clear HB; have HO165 := n0_; have HO168 := n1_; have BK159 := n2_; have HB := n3_; have BK170 := n4_; have GW170 := n5_; have GE170 := n6_; have NB159_170 := n7_; have NB170_159 := n8_; clear n0_ n1_ n2_ n3_ n4_ n5_ n6_ n7_ n8_; clear hb hbox hg; have hnb25 := NB170_159.out; have hnc25 := NB159_170.out; have hcz26_0 : w24.cell? ⟨gb170, 0, none⟩ = some (.bool false) := (blk_cell BK170.out 0).trans rfl; have hcz26_1 : w24.cell? ⟨gb170, 1, none⟩ = some (.slice none 0 0) := (blk_cell BK170.out 1).trans rfl; have hcz26_2 : w24.cell? ⟨gb170, 2, none⟩ = some (.slice none 0 0) := (blk_cell BK170.out 2).trans rfl; have hfz26_0 := blk_frozen BK170.out 0; have hfz26_1 := blk_frozen BK170.out 1; have hfz26_2 := blk_frozen BK170.out 2; obtain ⟨Ao27, co27, eo27⟩ := Kd.R_slice HO165.out; subst eo27; obtain ⟨Ao28, co28, eo28⟩ := Kd.R_slice HO168.out; subst eo28; have hcz29_0 : w24.cell? ⟨gb159, 0, none⟩ = some (.bool a0_0) := (blk_cell BK159.out 0).trans rfl; have hcz29_1 : w24.cell? ⟨gb159, 1, none⟩ = some (.slice A0_1 l0_1.length c0_1) := (blk_cell BK159.out 1).trans rfl; have hcz29_2 : w24.cell? ⟨gb159, 2, none⟩ = some (.slice A0_2 l0_2.length c0_2) := (blk_cell BK159.out 2).trans rfl; have hfz29_0 := blk_frozen BK159.out 0; have hfz29_1 := blk_frozen BK159.out 1; have hfz29_2 := blk_frozen BK159.out 2) | ((with_reducible refine gate_callee (f := 13) rfl ?_); refine goesL_ (some 41) rfl rfl Tryz.func13 (by kernel_rfl) rfl #[.agg #[.bool a0_0, .slice A0_1 l0_1.length c0_1, .slice A0_2 l0_2.length c0_2]] rfl (by (try simp only [List.map_toArray, List.map_cons, List.map_nil]); first | done | rfl | (simp only [List.length_drop, List.length_take]; rfl)) ?_; (with_reducible refine (laws_tableOf.calls a0_0 _ _ l0_1 _ _ l0_2 t171 t174 t177 _ ?side1 ?side2 ?side3 ?side4 A21.out).mono ?_); (case side1 => exact Kd.C_below HR0_1.out (by repeat (first | (with_reducible first | exact HB.out | apply below_alloc | apply pw_below_drewN | apply below_drew1 | refine below_set ?_ GE159.out | refine below_set ?_ GE170.out) | exact HB.out))); (case side2 => exact HC0_1.out); (case side3 => exact Kd.C_below HR0_2.out (by repeat (first | (with_reducible first | exact HB.out | apply below_alloc | apply pw_below_drewN | apply below_drew1 | refine below_set ?_ GE159.out | refine below_set ?_ GE170.out) | exact HB.out))); (case side4 => exact HC0_2.out); rintro e w30 ⟨v172, v175, v178, rfl, ho0, ho1, ho2, hb⟩; refine ⟨_, rfl, ?_⟩; have n0_ := Aside0.mk (Kd.R_elder' (by (with_reducible repeat (first | apply Kd.R_alloc | apply Kd.R_drewN | apply Kd.R_drew)); exact (Kd.R_mono (Kd.R_far (p := ⟨gb170, 2, none⟩) (Kd.R_far (p := ⟨gb170, 1, none⟩) (Kd.R_far (p := ⟨gb170, 0, none⟩) (Kd.R_types HO165.out BK170.out (by decide)) (fun _ hk => hk.2) (.bool t162)) (fun _ hk => hk.2) (.slice Ao27 t163.length co27)) (fun _ hk => hk.2) (.slice Ao28 t166.length co28)) (fun _ h_ => h_.1))) (Kd.R_base ho0) hb); have n1_ := Aside0.mk (Kd.R_below (by (with_reducible repeat (first | apply Kd.R_alloc | apply Kd.R_drewN | apply Kd.R_drew)); exact (Kd.R_mono (Kd.R_far (p := ⟨gb170, 2, none⟩) (Kd.R_far (p := ⟨gb170, 1, none⟩) (Kd.R_far (p := ⟨gb170, 0, none⟩) (Kd.R_types HO168.out BK170.out (by decide)) (fun _ hk => hk.2) (.bool t162)) (fun _ hk => hk.2) (.slice Ao27 t163.length co27)) (fun _ hk => hk.2) (.slice Ao28 t166.length co28)) (fun _ h_ => h_.1))) hb); have n2_ := Aside0.mk (Kd.R_lower (Kd.R_new' ho0 (Kd.R_lt (by (with_reducible repeat (first | apply Kd.R_alloc | apply Kd.R_drewN | apply Kd.R_drew)); exact (Kd.R_mono (Kd.R_far (p := ⟨gb170, 2, none⟩) (Kd.R_far (p := ⟨gb170, 1, none⟩) (Kd.R_far (p := ⟨gb170, 0, none⟩) (Kd.R_types HO165.out BK170.out (by decide)) (fun _ hk => hk.2) (.bool t162)) (fun _ hk => hk.2) (.slice Ao27 t163.length co27)) (fun _ hk => hk.2) (.slice Ao28 t166.length co28)) (fun _ h_ => h_.1))))) (below_size (by repeat (first | (with_reducible first | exact HB.out | apply below_alloc | apply pw_below_drewN | apply below_drew1 | refine below_set ?_ GE159.out | refine below_set ?_ GE170.out) | exact HB.out)))); have n3_ := Aside0.mk (Kd.S_lower ho1 (below_size (by repeat (first | (with_reducible first | exact HB.out | apply below_alloc | apply pw_below_drewN | apply below_drew1 | refine below_set ?_ GE159.out | refine below_set ?_ GE170.out) | exact HB.out)))); have n4_ := Aside0.mk (Kd.S_lower (Kd.S_new' ho2 (Kd.R_lt (by (with_reducible repeat (first | apply Kd.R_alloc | apply Kd.R_drewN | apply Kd.R_drew)); exact (Kd.R_mono (Kd.R_far (p := ⟨gb170, 2, none⟩) (Kd.R_far (p := ⟨gb170, 1, none⟩) (Kd.R_far (p := ⟨gb170, 0, none⟩) (Kd.R_types HO165.out BK170.out (by decide)) (fun _ hk => hk.2) (.bool t162)) (fun _ hk => hk.2) (.slice Ao27 t163.length co27)) (fun _ hk => hk.2) (.slice Ao28 t166.length co28)) (fun _ h_ => h_.1))))) (below_size (by repeat (first | (with_reducible first | exact HB.out | apply below_alloc | apply pw_below_drewN | apply below_drew1 | refine below_set ?_ GE159.out | refine below_set ?_ GE170.out) | exact HB.out)))); have n5_ := Aside0.mk (blk_below (g := gb159) (o := .cells #[.bool a0_0, .slice A0_1 l0_1.length c0_1, .slice A0_2 l0_2.length c0_2] 25 (0, 0)) (by (with_reducible repeat (first | refine blk_drewN ?_ _ | refine blk_drew ?_ | refine blk_alloc ?_ _)); refine blk_far ?_ NB159_170.out _; (with_reducible repeat (first | refine blk_drewN ?_ _ | refine blk_drew ?_ | refine blk_alloc ?_ _)); refine blk_far ?_ NB159_170.out _; (with_reducible repeat (first | refine blk_drewN ?_ _ | refine blk_drew ?_ | refine blk_alloc ?_ _)); refine blk_far ?_ NB159_170.out _; (with_reducible repeat (first | refine blk_drewN ?_ _ | refine blk_drew ?_ | refine blk_alloc ?_ _)); exact BK159.out) hb); have n6_ := Aside0.mk (blk_below (g := gb170) (o := .cells #[.bool t162, .slice Ao27 t163.length co27, .slice Ao28 t166.length co28] 25 (0, 0)) (by (with_reducible repeat (first | refine blk_drewN ?_ _ | refine blk_drew ?_ | refine blk_alloc ?_ _)); refine blk_put (cs := #[.bool t162, .slice Ao27 t163.length co27, .slice none 0 0]) ?_ 2 _ rfl; (with_reducible repeat (first | refine blk_drewN ?_ _ | refine blk_drew ?_ | refine blk_alloc ?_ _)); refine blk_put (cs := #[.bool t162, .slice none 0 0, .slice none 0 0]) ?_ 1 _ rfl; (with_reducible repeat (first | refine blk_drewN ?_ _ | refine blk_drew ?_ | refine blk_alloc ?_ _)); refine blk_put (cs := #[.bool false, .slice none 0 0, .slice none 0 0]) ?_ 0 _ rfl; (with_reducible repeat (first | refine blk_drewN ?_ _ | refine blk_drew ?_ | refine blk_alloc ?_ _)); exact BK170.out) hb); have n7_ := Aside0.mk (below_step (by repeat (first | (with_reducible first | exact HB.out | apply below_alloc | apply pw_below_drewN | apply below_drew1 | refine below_set ?_ GE159.out | refine below_set ?_ GE170.out) | exact HB.out)) hb); clear HO165; clear HO168; clear BK159; clear BK170; clear HB; have HO165 := n0_; have HO168 := n1_; have HO173 := n2_; have HO176 := n3_; have HO179 := n4_; have BK159 := n5_; have BK170 := n6_; have HB := n7_; clear n0_ n1_ n2_ n3_ n4_ n5_ n6_ n7_; (try clear hb); (try clear hb2); (try clear hk); (try clear hi); (try clear ho0); (try clear ho1); (try clear ho2)) | ((with_reducible refine gate_dst (N := 10) rfl ?_); refine box_event ?hg (N := 10) ?hd (cs := #[.slice none 0 0, .slice none 0 0, .slice none 0 0]) (t := 33) ?hr ?_; (case hd => rfl); (case hg => rfl); (case hr => first | (go_simp; done) | (go_simp; rfl)); intro gb180 hg w31 hbox hb; have n0_ := Aside0.mk (Kd.R_below (by (with_reducible repeat (first | apply Kd.R_alloc | apply Kd.R_drewN | apply Kd.R_drew)); exact HO165.out) hb); have n1_ := Aside0.mk (Kd.R_below (by (with_reducible repeat (first | apply Kd.R_alloc | apply Kd.R_drewN | apply Kd.R_drew)); exact HO168.out) hb); have n2_ := Aside0.mk (Kd.R_below (by (with_reducible repeat (first | apply Kd.R_alloc | apply Kd.R_drewN | apply Kd.R_drew)); exact HO173.out) hb); have n3_ := Aside0.mk (Kd.S_below (by (with_reducible repeat (first | apply Kd.S_alloc | apply Kd.S_drewN | apply Kd.S_drew)); exact HO176.out) hb); have n4_ := Aside0.mk (Kd.S_below (by (with_reducible repeat (first | apply Kd.S_alloc | apply Kd.S_drewN | apply Kd.S_drew)); exact HO179.out) hb); have n5_ := Aside0.mk (blk_below (g := gb159) (o := .cells #[.bool a0_0, .slice A0_1 l0_1.length c0_1, .slice A0_2 l0_2.length c0_2] 25 (0, 0)) (by (with_reducible repeat (first | refine blk_drewN ?_ _ | refine blk_drew ?_ | refine blk_alloc ?_ _)); exact BK159.out) hb); have n6_ := Aside0.mk (blk_below (g := gb170) (o := .cells #[.bool t162, .slice Ao27 t163.length co27, .slice Ao28 t166.length co28] 25 (0, 0)) (by (with_reducible repeat (first | refine blk_drewN ?_ _ | refine blk_drew ?_ | refine blk_alloc ?_ _)); exact BK170.out) hb); have n7_ := Aside0.mk (below_step (by repeat (first | (with_reducible first | exact HB.out | apply below_alloc | apply pw_below_drewN | apply below_drew1 | refine below_set ?_ GE159.out | refine below_set ?_ GE170.out) | exact HB.out)) hb); have n8_ := Aside0.mk (hbox); have n9_ := Aside0.mk ((by rw [hg]; exact (below_size (by repeat (first | (with_reducible first | exact HB.out | apply below_alloc | apply pw_below_drewN | apply below_drew1 | refine below_set ?_ GE159.out | refine below_set ?_ GE170.out) | exact HB.out))) : w.heap.size ≤ gb180)); have n10_ := Aside0.mk ((by rw [hg]; exact (below_size (by repeat (first | (with_reducible first | exact HB.out | apply below_alloc | apply pw_below_drewN | apply below_drew1 | refine below_set ?_ GE159.out | refine below_set ?_ GE170.out) | exact HB.out))) : w.heap.size ≤ gb180)); have n11_ := Aside0.mk ((by rw [hg]; exact Nat.ne_of_lt (blk_lt (g := gb159) (o := .cells #[.bool a0_0, .slice A0_1 l0_1.length c0_1, .slice A0_2 l0_2.length c0_2] 25 (0, 0)) (by (with_reducible repeat (first | refine blk_drewN ?_ _ | refine blk_drew ?_ | refine blk_alloc ?_ _)); exact BK159.out)) : gb159 ≠ gb180)); have n12_ := Aside0.mk ((by rw [hg]; exact Nat.ne_of_gt (blk_lt (g := gb159) (o := .cells #[.bool a0_0, .slice A0_1 l0_1.length c0_1, .slice A0_2 l0_2.length c0_2] 25 (0, 0)) (by (with_reducible repeat (first | refine blk_drewN ?_ _ | refine blk_drew ?_ | refine blk_alloc ?_ _)); exact BK159.out)) : gb180 ≠ gb159)); have n13_ := Aside0.mk ((by rw [hg]; exact Nat.ne_of_lt (blk_lt (g := gb170) (o := .cells #[.bool t162, .slice Ao27 t163.length co27, .slice Ao28 t166.length co28] 25 (0, 0)) (by (with_reducible repeat (first | refine blk_drewN ?_ _ | refine blk_drew ?_ | refine blk_alloc ?_ _)); exact BK170.out)) : gb170 ≠ gb180)); have n14_ := Aside0.mk ((by rw [hg]; exact Nat.ne_of_gt (blk_lt (g := gb170) (o := .cells #[.bool t162, .slice Ao27 t163.length co27, .slice Ao28 t166.length co28] 25 (0, 0)) (by (with_reducible repeat (first | refine blk_drewN ?_ _ | refine blk_drew ?_ | refine blk_alloc ?_ _)); exact BK170.out)) : gb180 ≠ gb170)); clear HO165; clear HO168; clear HO173; clear HO176; clear HO179; clear BK159; clear BK170; clear HB; have HO165 := n0_; have HO168 := n1_; have HO173 := n2_; have HO176 := n3_; have HO179 := n4_; have BK159 := n5_; have BK170 := n6_; have HB := n7_; have BK180 := n8_; have GW180 := n9_; have GE180 := n10_; have NB159_180 := n11_; have NB180_159 := n12_; have NB170_180 := n13_; have NB180_170 := n14_; clear n0_ n1_ n2_ n3_ n4_ n5_ n6_ n7_ n8_ n9_ n10_ n11_ n12_ n13_ n14_; clear hb hbox hg; obtain ⟨Ao32, co32, eo32⟩ := Kd.R_slice HO173.out; subst eo32; have hnb33 := NB180_159.out; have hnc33 := NB159_180.out; have hnb34 := NB180_170.out; have hnc34 := NB170_180.out; have hcz35_0 : w31.cell? ⟨gb180, 0, none⟩ = some (.slice none 0 0) := (blk_cell BK180.out 0).trans rfl; have hcz35_1 : w31.cell? ⟨gb180, 1, none⟩ = some (.slice none 0 0) := (blk_cell BK180.out 1).trans rfl; have hcz35_2 : w31.cell? ⟨gb180, 2, none⟩ = some (.slice none 0 0) := (blk_cell BK180.out 2).trans rfl; have hfz35_0 := blk_frozen BK180.out 0; have hfz35_1 := blk_frozen BK180.out 1; have hfz35_2 := blk_frozen BK180.out 2; obtain ⟨Ao36, co36, eo36⟩ := Kd.S_slice HO176.out; subst eo36; obtain ⟨Ao37, co37, eo37⟩ := Kd.S_slice HO179.out; subst eo37) | ((with_reducible refine gate_dst (N := 11) rfl ?_); refine box_event ?hg (N := 11) ?hd (cs := #[.bool false, .slice none 0 0, .slice none 0 0]) (t := 25) ?hr ?_; (case hd => rfl); (case hg => rfl); (case hr => first | (go_simp; done) | (go_simp; rfl)); intro gb181 hg w38 hbox hb; have n0_ := Aside0.mk (Kd.R_below (by (with_reducible repeat (first | apply Kd.R_alloc | apply Kd.R_drewN | apply Kd.R_drew)); exact (Kd.R_mono (Kd.R_far (p := ⟨gb180, 2, none⟩) (Kd.R_far (p := ⟨gb180, 1, none⟩) (Kd.R_far (p := ⟨gb180, 0, none⟩) (Kd.R_types HO165.out BK180.out (by decide)) (fun _ hk => hk.2) (.slice Ao32 t171.length co32)) (fun _ hk => hk.2) (.slice Ao36 t174.length co36)) (fun _ hk => hk.2) (.slice Ao37 t177.length co37)) (fun _ h_ => h_.1))) hb); have n1_ := Aside0.mk (Kd.R_below (by (with_reducible repeat (first | apply Kd.R_alloc | apply Kd.R_drewN | apply Kd.R_drew)); exact (Kd.R_mono (Kd.R_far (p := ⟨gb180, 2, none⟩) (Kd.R_far (p := ⟨gb180, 1, none⟩) (Kd.R_far (p := ⟨gb180, 0, none⟩) (Kd.R_types HO168.out BK180.out (by decide)) (fun _ hk => hk.2) (.slice Ao32 t171.length co32)) (fun _ hk => hk.2) (.slice Ao36 t174.length co36)) (fun _ hk => hk.2) (.slice Ao37 t177.length co37)) (fun _ h_ => h_.1))) hb); have n2_ := Aside0.mk (Kd.R_below (by (with_reducible repeat (first | apply Kd.R_alloc | apply Kd.R_drewN | apply Kd.R_drew)); exact (Kd.R_mono (Kd.R_far (p := ⟨gb180, 2, none⟩) (Kd.R_far (p := ⟨gb180, 1, none⟩) (Kd.R_far (p := ⟨gb180, 0, none⟩) (Kd.R_types HO173.out BK180.out (by decide)) (fun _ hk => hk.2) (.slice Ao32 t171.length co32)) (fun _ hk => hk.2) (.slice Ao36 t174.length co36)) (fun _ hk => hk.2) (.slice Ao37 t177.length co37)) (fun _ h_ => h_.1))) hb); have n3_ := Aside0.mk (Kd.S_below (by (with_reducible repeat (first | apply Kd.S_alloc | apply Kd.S_drewN | apply Kd.S_drew)); exact (Kd.S_mono (Kd.S_far (p := ⟨gb180, 2, none⟩) (Kd.S_far (p := ⟨gb180, 1, none⟩) (Kd.S_far (p := ⟨gb180, 0, none⟩) (Kd.S_types HO176.out BK180.out (by decide)) (fun _ hk => hk.2) (.slice Ao32 t171.length co32)) (fun _ hk => hk.2) (.slice Ao36 t174.length co36)) (fun _ hk => hk.2) (.slice Ao37 t177.length co37)) (fun _ h_ => h_.1))) hb); have n4_ := Aside0.mk (Kd.S_below (by (with_reducible repeat (first | apply Kd.S_alloc | apply Kd.S_drewN | apply Kd.S_drew)); exact (Kd.S_mono (Kd.S_far (p := ⟨gb180, 2, none⟩) (Kd.S_far (p := ⟨gb180, 1, none⟩) (Kd.S_far (p := ⟨gb180, 0, none⟩) (Kd.S_types HO179.out BK180.out (by decide)) (fun _ hk => hk.2) (.slice Ao32 t171.length co32)) (fun _ hk => hk.2) (.slice Ao36 t174.length co36)) (fun _ hk => hk.2) (.slice Ao37 t177.length co37)) (fun _ h_ => h_.1))) hb); have n5_ := Aside0.mk (blk_below (g := gb159) (o := .cells #[.bool a0_0, .slice A0_1 l0_1.length c0_1, .slice A0_2 l0_2.length c0_2] 25 (0, 0)) (by (with_reducible repeat (first | refine blk_drewN ?_ _ | refine blk_drew ?_ | refine blk_alloc ?_ _)); refine blk_far ?_ NB159_180.out _; (with_reducible repeat (first | refine blk_drewN ?_ _ | refine blk_drew ?_ | refine blk_alloc ?_ _)); refine blk_far ?_ NB159_180.out _; (with_reducible repeat (first | refine blk_drewN ?_ _ | refine blk_drew ?_ | refine blk_alloc ?_ _)); refine blk_far ?_ NB159_180.out _; (with_reducible repeat (first | refine blk_drewN ?_ _ | refine blk_drew ?_ | refine blk_alloc ?_ _)); exact BK159.out) hb); have n6_ := Aside0.mk (blk_below (g := gb170) (o := .cells #[.bool t162, .slice Ao27 t163.length co27, .slice Ao28 t166.length co28] 25 (0, 0)) (by (with_reducible repeat (first | refine blk_drewN ?_ _ | refine blk_drew ?_ | refine blk_alloc ?_ _)); refine blk_far ?_ NB170_180.out _; (with_reducible repeat (first | refine blk_drewN ?_ _ | refine blk_drew ?_ | refine blk_alloc ?_ _)); refine blk_far ?_ NB170_180.out _; (with_reducible repeat (first | refine blk_drewN ?_ _ | refine blk_drew ?_ | refine blk_alloc ?_ _)); refine blk_far ?_ NB170_180.out _; (with_reducible repeat (first | refine blk_drewN ?_ _ | refine blk_drew ?_ | refine blk_alloc ?_ _)); exact BK170.out) hb); have n7_ := Aside0.mk (blk_below (g := gb180) (o := .cells #[.slice Ao32 t171.length co32, .slice Ao36 t174.length co36, .slice Ao37 t177.length co37] 33 (0, 0)) (by (with_reducible repeat (first | refine blk_drewN ?_ _ | refine blk_drew ?_ | refine blk_alloc ?_ _)); refine blk_put (cs := #[.slice Ao32 t171.length co32, .slice Ao36 t174.length co36, .slice none 0 0]) ?_ 2 _ rfl; (with_reducible repeat (first | refine blk_drewN ?_ _ | refine blk_drew ?_ | refine blk_alloc ?_ _)); refine blk_put (cs := #[.slice Ao32 t171.length co32, .slice none 0 0, .slice none 0 0]) ?_ 1 _ rfl; (with_reducible repeat (first | refine blk_drewN ?_ _ | refine blk_drew ?_ | refine blk_alloc ?_ _)); refine blk_put (cs := #[.slice none 0 0, .slice none 0 0, .slice none 0 0]) ?_ 0 _ rfl; (with_reducible repeat (first | refine blk_drewN ?_ _ | refine blk_drew ?_ | refine blk_alloc ?_ _)); exact BK180.out) hb); have n8_ := Aside0.mk (below_step (by repeat (first | (with_reducible first | exact HB.out | apply below_alloc | apply pw_below_drewN | apply below_drew1 | refine below_set ?_ GE159.out | refine below_set ?_ GE170.out | refine below_set ?_ GE180.out) | exact HB.out)) hb); have n9_ := Aside0.mk (hbox); have n10_ := Aside0.mk ((by rw [hg]; exact (below_size (by repeat (first | (with_reducible first | exact HB.out | apply below_alloc | apply pw_below_drewN | apply below_drew1 | refine below_set ?_ GE159.out | refine below_set ?_ GE170.out | refine below_set ?_ GE180.out) | exact HB.out))) : w.heap.size ≤ gb181)); have n11_ := Aside0.mk ((by rw [hg]; exact (below_size (by repeat (first | (with_reducible first | exact HB.out | apply below_alloc | apply pw_below_drewN | apply below_drew1 | refine below_set ?_ GE159.out | refine below_set ?_ GE170.out | refine below_set ?_ GE180.out) | exact HB.out))) : w.heap.size ≤ gb181)); have n12_ := Aside0.mk ((by rw [hg]; exact Nat.ne_of_lt (blk_lt (g := gb159) (o := .cells #[.bool a0_0, .slice A0_1 l0_1.length c0_1, .slice A0_2 l0_2.length c0_2] 25 (0, 0)) (by (with_reducible repeat (first | refine blk_drewN ?_ _ | refine blk_drew ?_ | refine blk_alloc ?_ _)); refine blk_far ?_ NB159_180.out _; (with_reducible repeat (first | refine blk_drewN ?_ _ | refine blk_drew ?_ | refine blk_alloc ?_ _)); refine blk_far ?_ NB159_180.out _; (with_reducible repeat (first | refine blk_drewN ?_ _ | refine blk_drew ?_ | refine blk_alloc ?_ _)); refine blk_far ?_ NB159_180.out _; (with_reducible repeat (first | refine blk_drewN ?_ _ | refine blk_drew ?_ | refine blk_alloc ?_ _)); exact BK159.out)) : gb159 ≠ gb181)); have n13_ := Aside0.mk ((by rw [hg]; exact Nat.ne_of_gt (blk_lt (g := gb159) (o := .cells #[.bool a0_0, .slice A0_1 l0_1.length c0_1, .slice A0_2 l0_2.length c0_2] 25 (0, 0)) (by (with_reducible repeat (first | refine blk_drewN ?_ _ | refine blk_drew ?_ | refine blk_alloc ?_ _)); refine blk_far ?_ NB159_180.out _; (with_reducible repeat (first | refine blk_drewN ?_ _ | refine blk_drew ?_ | refine blk_alloc ?_ _)); refine blk_far ?_ NB159_180.out _; (with_reducible repeat (first | refine blk_drewN ?_ _ | refine blk_drew ?_ | refine blk_alloc ?_ _)); refine blk_far ?_ NB159_180.out _; (with_reducible repeat (first | refine blk_drewN ?_ _ | refine blk_drew ?_ | refine blk_alloc ?_ _)); exact BK159.out)) : gb181 ≠ gb159)); have n14_ := Aside0.mk ((by rw [hg]; exact Nat.ne_of_lt (blk_lt (g := gb170) (o := .cells #[.bool t162, .slice Ao27 t163.length co27, .slice Ao28 t166.length co28] 25 (0, 0)) (by (with_reducible repeat (first | refine blk_drewN ?_ _ | refine blk_drew ?_ | refine blk_alloc ?_ _)); refine blk_far ?_ NB170_180.out _; (with_reducible repeat (first | refine blk_drewN ?_ _ | refine blk_drew ?_ | refine blk_alloc ?_ _)); refine blk_far ?_ NB170_180.out _; (with_reducible repeat (first | refine blk_drewN ?_ _ | refine blk_drew ?_ | refine blk_alloc ?_ _)); refine blk_far ?_ NB170_180.out _; (with_reducible repeat (first | refine blk_drewN ?_ _ | refine blk_drew ?_ | refine blk_alloc ?_ _)); exact BK170.out)) : gb170 ≠ gb181)); have n15_ := Aside0.mk ((by rw [hg]; exact Nat.ne_of_gt (blk_lt (g := gb170) (o := .cells #[.bool t162, .slice Ao27 t163.length co27, .slice Ao28 t166.length co28] 25 (0, 0)) (by (with_reducible repeat (first | refine blk_drewN ?_ _ | refine blk_drew ?_ | refine blk_alloc ?_ _)); refine blk_far ?_ NB170_180.out _; (with_reducible repeat (first | refine blk_drewN ?_ _ | refine blk_drew ?_ | refine blk_alloc ?_ _)); refine blk_far ?_ NB170_180.out _; (with_reducible repeat (first | refine blk_drewN ?_ _ | refine blk_drew ?_ | refine blk_alloc ?_ _)); refine blk_far ?_ NB170_180.out _; (with_reducible repeat (first | refine blk_drewN ?_ _ | refine blk_drew ?_ | refine blk_alloc ?_ _)); exact BK170.out)) : gb181 ≠ gb170)); have n16_ := Aside0.mk ((by rw [hg]; exact Nat.ne_of_lt (blk_lt (g := gb180) (o := .cells #[.slice Ao32 t171.length co32, .slice Ao36 t174.length co36, .slice Ao37 t177.length co37] 33 (0, 0)) (by (with_reducible repeat (first | refine blk_drewN ?_ _ | refine blk_drew ?_ | refine blk_alloc ?_ _)); refine blk_put (cs := #[.slice Ao32 t171.length co32, .slice Ao36 t174.length co36, .slice none 0 0]) ?_ 2 _ rfl; (with_reducible repeat (first | refine blk_drewN ?_ _ | refine blk_drew ?_ | refine blk_alloc ?_ _)); refine blk_put (cs := #[.slice Ao32 t171.length co32, .slice none 0 0, .slice none 0 0]) ?_ 1 _ rfl; (with_reducible repeat (first | refine blk_drewN ?_ _ | refine blk_drew ?_ | refine blk_alloc ?_ _)); refine blk_put (cs := #[.slice none 0 0, .slice none 0 0, .slice none 0 0]) ?_ 0 _ rfl; (with_reducible repeat (first | refine blk_drewN ?_ _ | refine blk_drew ?_ | refine blk_alloc ?_ _)); exact BK180.out)) : gb180 ≠ gb181)); have n17_ := Aside0.mk ((by rw [hg]; exact Nat.ne_of_gt (blk_lt (g := gb180) (o := .cells #[.slice Ao32 t171.length co32, .slice Ao36 t174.length co36, .slice Ao37 t177.length co37] 33 (0, 0)) (by (with_reducible repeat (first | refine blk_drewN ?_ _ | refine blk_drew ?_ | refine blk_alloc ?_ _)); refine blk_put (cs := #[.slice Ao32 t171.length co32, .slice Ao36 t174.length co36, .slice none 0 0]) ?_ 2 _ rfl; (with_reducible repeat (first | refine blk_drewN ?_ _ | refine blk_drew ?_ | refine blk_alloc ?_ _)); refine blk_put (cs := #[.slice Ao32 t171.length co32, .slice none 0 0, .slice none 0 0]) ?_ 1 _ rfl; (with_reducible repeat (first | refine blk_drewN ?_ _ | refine blk_drew ?_ | refine blk_alloc ?_ _)); refine blk_put (cs := #[.slice none 0 0, .slice none 0 0, .slice none 0 0]) ?_ 0 _ rfl; (with_reducible repeat (first | refine blk_drewN ?_ _ | refine blk_drew ?_ | refine blk_alloc ?_ _)); exact BK180.out)) : gb181 ≠ gb180)); clear HO165; clear HO168; clear HO173; clear HO176; clear HO179; clear BK159; clear BK170; clear BK180; clear HB; have HO165 := n0_; have HO168 := n1_; have HO173 := n2_; have HO176 := n3_; have HO179 := n4_; have BK159 := n5_; have BK170 := n6_; have BK180 := n7_; have HB := n8_; have BK181 := n9_; have GW181 := n10_; have GE181 := n11_; have NB159_181 := n12_; have NB181_159 := n13_; have NB170_181 := n14_; have NB181_170 := n15_; have NB180_181 := n16_; have NB181_180 := n17_; clear n0_ n1_ n2_ n3_ n4_ n5_ n6_ n7_ n8_ n9_ n10_ n11_ n12_ n13_ n14_ n15_ n16_ n17_; clear hb hbox hg; have hnb39 := NB181_159.out; have hnc39 := NB159_181.out; have hnb40 := NB181_170.out; have hnc40 := NB170_181.out; have hnb41 := NB181_180.out; have hnc41 := NB180_181.out; have hcz42_0 : w38.cell? ⟨gb181, 0, none⟩ = some (.bool false) := (blk_cell BK181.out 0).trans rfl; have hcz42_1 : w38.cell? ⟨gb181, 1, none⟩ = some (.slice none 0 0) := (blk_cell BK181.out 1).trans rfl; have hcz42_2 : w38.cell? ⟨gb181, 2, none⟩ = some (.slice none 0 0) := (blk_cell BK181.out 2).trans rfl; have hfz42_0 := blk_frozen BK181.out 0; have hfz42_1 := blk_frozen BK181.out 1; have hfz42_2 := blk_frozen BK181.out 2))
     go_loopg [12] kj5 (fun kq v12 w' => ∃ (x12_2 : Int) (x182002_2 : List (S38)) (u182002 : Value), v12 = .int .i64 x12_2 ∧ Aside0 (laws_FnUndirectMerged.l0 kq a1 (wrap64 (Int.tmod a2 3)) t169 x12_2 t162 t163 t166 t171 t174 t177 false t171 x182002_2 = some r) ∧ Aside0 (kq ≤ kj5) ∧ Aside0 (Kd.R (Kd.int .i64) 3 w' w.heap.size (fun k_ => some k_ ≠ ((.slice Ao32 t171.length co32) : Value).ownBlock ∧ some k_ ≠ ((.slice Ao32 t171.length co32) : Value).ownBlock) (.slice Ao27 t163.length co27) t163) ∧ Aside0 (Kd.R k38 38 w' w.heap.size (fun k_ => some k_ ≠ (u182002 : Value).ownBlock) (.slice Ao28 t166.length co28) t166) ∧ Aside0 (Kd.R (Kd.int .i64) 3 w' w.heap.size (fun k_ => some k_ ≠ ((.slice Ao27 t163.length co27) : Value).ownBlock) (.slice Ao32 t171.length co32) t171) ∧ Aside0 (Kd.S (Kd.slice 4 Kd.bool) 35 w' w.heap.size (fun _ => True) (.slice Ao36 t174.length co36) t174) ∧ Aside0 (Kd.S (Kd.slice 3 (Kd.int .i64)) 22 w' w.heap.size (fun k_ => some k_ ≠ ((.slice Ao27 t163.length co27) : Value).ownBlock ∧ some k_ ≠ ((.slice Ao32 t171.length co32) : Value).ownBlock ∧ some k_ ≠ ((.slice Ao32 t171.length co32) : Value).ownBlock) (.slice Ao37 t177.length co37) t177) ∧ Aside0 (Kd.R (Kd.int .i64) 3 w' w.heap.size (fun k_ => some k_ ≠ ((.slice Ao27 t163.length co27) : Value).ownBlock) (.slice Ao32 t171.length co32) t171) ∧ Aside0 (Kd.R k38 38 w' w.heap.size (fun k_ => some k_ ≠ ((.slice Ao28 t166.length co28) : Value).ownBlock) u182002 x182002_2) ∧ Aside0 (w'.heap[gb159]? = some (.cells #[.bool a0_0, (.slice A0_1 l0_1.length c0_1), (.slice A0_2 l0_2.length c0_2)] 25 (0, 0))) ∧ Aside0 (w'.heap[gb170]? = some (.cells #[.bool t162, (.slice Ao27 t163.length co27), (.slice Ao28 t166.length co28)] 25 (0, 0))) ∧ Aside0 (w'.heap[gb180]? = some (.cells #[(.slice Ao32 t171.length co32), (.slice Ao36 t174.length co36), (.slice Ao37 t177.length co37)] 33 (0, 0))) ∧ Aside0 (w'.heap[gb181]? = some (.cells #[.bool false, (.slice Ao32 t171.length co32), u182002] 25 (0, 0))) ∧ Aside0 (Below w.heap.size w w'))
     case atStart => exact ⟨(0), (([] : List (S38))), (.slice none 0 0), (by first | rfl | (simp; done) | (simp [*]; done)), H', ⟨Nat.le_refl _⟩, ⟨by (with_reducible repeat (first | apply Kd.R_alloc | apply Kd.R_drewN | apply Kd.R_drew)); exact Kd.R_mono (Kd.R_far (p := ⟨gb181, 2, none⟩) (Kd.R_far (p := ⟨gb181, 1, none⟩) (Kd.R_far (p := ⟨gb181, 0, none⟩) (Kd.R_types HO165.out BK181.out (by decide)) (fun _ hk => hk.2) (.bool false)) (fun _ hk => hk.2) (.slice Ao32 t171.length co32)) (fun _ hk => hk.2) (.slice none 0 0)) (fun _ hk => ⟨hk.1.2, hk.1.2⟩)⟩, ⟨by (with_reducible repeat (first | apply Kd.R_alloc | apply Kd.R_drewN | apply Kd.R_drew)); exact Kd.R_mono (Kd.R_far (p := ⟨gb181, 2, none⟩) (Kd.R_far (p := ⟨gb181, 1, none⟩) (Kd.R_far (p := ⟨gb181, 0, none⟩) (Kd.R_types HO168.out BK181.out (by decide)) (fun _ hk => hk.2) (.bool false)) (fun _ hk => hk.2) (.slice Ao32 t171.length co32)) (fun _ hk => hk.2) (.slice none 0 0)) (fun _ hk => (by simp [Value.ownBlock]))⟩, ⟨by (with_reducible repeat (first | apply Kd.R_alloc | apply Kd.R_drewN | apply Kd.R_drew)); exact Kd.R_mono (Kd.R_far (p := ⟨gb181, 2, none⟩) (Kd.R_far (p := ⟨gb181, 1, none⟩) (Kd.R_far (p := ⟨gb181, 0, none⟩) (Kd.R_types HO173.out BK181.out (by decide)) (fun _ hk => hk.2) (.bool false)) (fun _ hk => hk.2) (.slice Ao32 t171.length co32)) (fun _ hk => hk.2) (.slice none 0 0)) (fun _ hk => hk.1.2)⟩, ⟨by (with_reducible repeat (first | apply Kd.S_alloc | apply Kd.S_drewN | apply Kd.S_drew)); exact Kd.S_mono (Kd.S_far (p := ⟨gb181, 2, none⟩) (Kd.S_far (p := ⟨gb181, 1, none⟩) (Kd.S_far (p := ⟨gb181, 0, none⟩) (Kd.S_types HO176.out BK181.out (by decide)) (fun _ hk => hk.2) (.bool false)) (fun _ hk => hk.2) (.slice Ao32 t171.length co32)) (fun _ hk => hk.2) (.slice none 0 0)) (fun _ hk => trivial)⟩, ⟨by (with_reducible repeat (first | apply Kd.S_alloc | apply Kd.S_drewN | apply Kd.S_drew)); exact Kd.S_mono (Kd.S_far (p := ⟨gb181, 2, none⟩) (Kd.S_far (p := ⟨gb181, 1, none⟩) (Kd.S_far (p := ⟨gb181, 0, none⟩) (Kd.S_types HO179.out BK181.out (by decide)) (fun _ hk => hk.2) (.bool false)) (fun _ hk => hk.2) (.slice Ao32 t171.length co32)) (fun _ hk => hk.2) (.slice none 0 0)) (fun _ hk => ⟨hk.1.2, ⟨hk.1.1, hk.1.1⟩⟩)⟩, ⟨by (with_reducible repeat (first | apply Kd.R_alloc | apply Kd.R_drewN | apply Kd.R_drew)); exact Kd.R_mono (Kd.R_far (p := ⟨gb181, 2, none⟩) (Kd.R_far (p := ⟨gb181, 1, none⟩) (Kd.R_far (p := ⟨gb181, 0, none⟩) (Kd.R_types HO173.out BK181.out (by decide)) (fun _ hk => hk.2) (.bool false)) (fun _ hk => hk.2) (.slice Ao32 t171.length co32)) (fun _ hk => hk.2) (.slice none 0 0)) (fun _ hk => hk.1.2)⟩, ⟨by first | exact Kd.R_nil _ _ _ _ _ | exact Kd.N_nil _ _ _ _ _ | exact Kd.V_nil _ _ _ _ _ | exact Kd.Q_nil _ _ _ _ _ | exact Kd.S_nil _ _ _ _ _⟩, ⟨by (with_reducible repeat (first | refine blk_drewN ?_ _ | refine blk_drew ?_ | refine blk_alloc ?_ _)); refine blk_far ?_ NB159_181.out _; (with_reducible repeat (first | refine blk_drewN ?_ _ | refine blk_drew ?_ | refine blk_alloc ?_ _)); refine blk_far ?_ NB159_181.out _; (with_reducible repeat (first | refine blk_drewN ?_ _ | refine blk_drew ?_ | refine blk_alloc ?_ _)); refine blk_far ?_ NB159_181.out _; (with_reducible repeat (first | refine blk_drewN ?_ _ | refine blk_drew ?_ | refine blk_alloc ?_ _)); exact BK159.out⟩, ⟨by (with_reducible repeat (first | refine blk_drewN ?_ _ | refine blk_drew ?_ | refine blk_alloc ?_ _)); refine blk_far ?_ NB170_181.out _; (with_reducible repeat (first | refine blk_drewN ?_ _ | refine blk_drew ?_ | refine blk_alloc ?_ _)); refine blk_far ?_ NB170_181.out _; (with_reducible repeat (first | refine blk_drewN ?_ _ | refine blk_drew ?_ | refine blk_alloc ?_ _)); refine blk_far ?_ NB170_181.out _; (with_reducible repeat (first | refine blk_drewN ?_ _ | refine blk_drew ?_ | refine blk_alloc ?_ _)); exact BK170.out⟩, ⟨by (with_reducible repeat (first | refine blk_drewN ?_ _ | refine blk_drew ?_ | refine blk_alloc ?_ _)); refine blk_far ?_ NB180_181.out _; (with_reducible repeat (first | refine blk_drewN ?_ _ | refine blk_drew ?_ | refine blk_alloc ?_ _)); refine blk_far ?_ NB180_181.out _; (with_reducible repeat (first | refine blk_drewN ?_ _ | refine blk_drew ?_ | refine blk_alloc ?_ _)); refine blk_far ?_ NB180_181.out _; (with_reducible repeat (first | refine blk_drewN ?_ _ | refine blk_drew ?_ | refine blk_alloc ?_ _)); exact BK180.out⟩, ⟨by (with_reducible repeat (first | refine blk_drewN ?_ _ | refine blk_drew ?_ | refine blk_alloc ?_ _)); refine blk_put (cs := #[.bool false, .slice Ao32 t171.length co32, .slice none 0 0]) ?_ 2 _ rfl; (with_reducible repeat (first | refine blk_drewN ?_ _ | refine blk_drew ?_ | refine blk_alloc ?_ _)); refine blk_put (cs := #[.bool false, .slice none 0 0, .slice none 0 0]) ?_ 1 _ rfl; (with_reducible repeat (first | refine blk_drewN ?_ _ | refine blk_drew ?_ | refine blk_alloc ?_ _)); refine blk_put (cs := #[.bool false, .slice none 0 0, .slice none 0 0]) ?_ 0 _ rfl; (with_reducible repeat (first | refine blk_drewN ?_ _ | refine blk_drew ?_ | refine blk_alloc ?_ _)); exact BK181.out⟩, ⟨by repeat (first | (with_reducible first | exact HB.out | apply below_alloc | apply pw_below_drewN | apply below_drew1 | refine below_set ?_ GE159.out | refine below_set ?_ GE170.out | refine below_set ?_ GE180.out | refine below_set ?_ GE181.out) | exact HB.out)⟩⟩
     case round =>
      clear H'
      try clear c1
      try clear c2
      try clear p2
      try clear c3
      try clear c4
      try clear c5
      try clear p6
      try clear c10
      try clear c11
      try clear c12
      try clear c12b0
      try clear c13
      try clear c19
      try clear c25
      try clear c33
      try clear c34
      try clear c39
      try clear c40
      try clear c41
      try clear hcz13_0
      try clear hcz13_1
      try clear hcz13_2
      try clear hcz15_0
      try clear hcz15_1
      try clear hcz15_2
      try clear hcz17_0
      try clear hcz17_1
      try clear hcz17_2
      try clear hcz22_0
      try clear hcz22_1
      try clear hcz22_2
      try clear hcz26_0
      try clear hcz26_1
      try clear hcz26_2
      try clear hcz29_0
      try clear hcz29_1
      try clear hcz29_2
      try clear hcz35_0
      try clear hcz35_1
      try clear hcz35_2
      try clear hcz42_0
      try clear hcz42_1
      try clear hcz42_2
      try clear hcz8_0
      try clear hcz8_1
      try clear hcz8_2
      try clear hfz13_0
      try clear hfz13_1
      try clear hfz13_2
      try clear hfz15_0
      try clear hfz15_1
      try clear hfz15_2
      try clear hfz17_0
      try clear hfz17_1
      try clear hfz17_2
      try clear hfz22_0
      try clear hfz22_1
      try clear hfz22_2
      try clear hfz26_0
      try clear hfz26_1
      try clear hfz26_2
      try clear hfz29_0
      try clear hfz29_1
      try clear hfz29_2
      try clear hfz35_0
      try clear hfz35_1
      try clear hfz35_2
      try clear hfz42_0
      try clear hfz42_1
      try clear hfz42_2
      try clear hfz8_0
      try clear hfz8_1
      try clear hfz8_2
      try clear p2
      obtain ⟨x12_2, x182002_2, u182002, rfl, HA, HK2, HO_171001, HO_171002, HO_181000, HO_181001, HO_181002, HO_182001, HO_182002, BK159, BK170, BK180, BK181, HB⟩ := hrel
      cases gk with
      | zero => exact absurd HA.out (by simp [laws_FnUndirectMerged.l0])
      | succ k2 =>
       have H := HA.out
       clear HA
       simp only [laws_FnUndirectMerged.l0] at H
       by_cases c43 : x12_2 < (t171.length : Int)
       ·rw [if_pos c43] at H
        have c43b0 : decide (x12_2 < (t171.length : Int)) = true := decide_eq_true c43
        clear c43
        have H' := Aside0.mk H
        clear H
        have hnb44 := NB180_159.out
        have hnc44 := NB159_180.out
        have hnb45 := NB180_170.out
        have hnc45 := NB170_180.out
        have hnb46 := NB180_181.out
        have hnc46 := NB181_180.out
        have hcz47_0 : wr.cell? ⟨gb180, 0, none⟩ = some (.slice Ao32 t171.length co32) := (blk_cell BK180.out 0).trans rfl
        have hcz47_1 : wr.cell? ⟨gb180, 1, none⟩ = some (.slice Ao36 t174.length co36) := (blk_cell BK180.out 1).trans rfl
        have hcz47_2 : wr.cell? ⟨gb180, 2, none⟩ = some (.slice Ao37 t177.length co37) := (blk_cell BK180.out 2).trans rfl
        have hfz47_0 := blk_frozen BK180.out 0
        have hfz47_1 := blk_frozen BK180.out 1
        have hfz47_2 := blk_frozen BK180.out 2
        go_wp2
        go_loopg [13] k2 (fun kq v13 w' => ∃ (x13_3 : Int) (x182002_3 : List (S38)) (u182002 : Value), v13 = .int .i64 x13_3 ∧ Aside0 (laws_FnUndirectMerged.l1 kq a1 (wrap64 (Int.tmod a2 3)) t169 x12_2 x13_3 t162 t163 t166 t171 t174 t177 false t171 x182002_3 = some r) ∧ Aside0 (kq ≤ k2) ∧ Aside0 (Kd.R (Kd.int .i64) 3 w' w.heap.size (fun k_ => some k_ ≠ ((.slice Ao32 t171.length co32) : Value).ownBlock ∧ some k_ ≠ ((.slice Ao32 t171.length co32) : Value).ownBlock) (.slice Ao27 t163.length co27) t163) ∧ Aside0 (Kd.R k38 38 w' w.heap.size (fun k_ => some k_ ≠ (u182002 : Value).ownBlock) (.slice Ao28 t166.length co28) t166) ∧ Aside0 (Kd.R (Kd.int .i64) 3 w' w.heap.size (fun k_ => some k_ ≠ ((.slice Ao27 t163.length co27) : Value).ownBlock) (.slice Ao32 t171.length co32) t171) ∧ Aside0 (Kd.S (Kd.slice 4 Kd.bool) 35 w' w.heap.size (fun _ => True) (.slice Ao36 t174.length co36) t174) ∧ Aside0 (Kd.S (Kd.slice 3 (Kd.int .i64)) 22 w' w.heap.size (fun k_ => some k_ ≠ ((.slice Ao27 t163.length co27) : Value).ownBlock ∧ some k_ ≠ ((.slice Ao32 t171.length co32) : Value).ownBlock ∧ some k_ ≠ ((.slice Ao32 t171.length co32) : Value).ownBlock) (.slice Ao37 t177.length co37) t177) ∧ Aside0 (Kd.R (Kd.int .i64) 3 w' w.heap.size (fun k_ => some k_ ≠ ((.slice Ao27 t163.length co27) : Value).ownBlock) (.slice Ao32 t171.length co32) t171) ∧ Aside0 (Kd.R k38 38 w' w.heap.size (fun k_ => some k_ ≠ ((.slice Ao28 t166.length co28) : Value).ownBlock) u182002 x182002_3) ∧ Aside0 (w'.heap[gb159]? = some (.cells #[.bool a0_0, (.slice A0_1 l0_1.length c0_1), (.slice A0_2 l0_2.length c0_2)] 25 (0, 0))) ∧ Aside0 (w'.heap[gb170]? = some (.cells #[.bool t162, (.slice Ao27 t163.length co27), (.slice Ao28 t166.length co28)] 25 (0, 0))) ∧ Aside0 (w'.heap[gb180]? = some (.cells #[(.slice Ao32 t171.length co32), (.slice Ao36 t174.length co36), (.slice Ao37 t177.length co37)] 33 (0, 0))) ∧ Aside0 (w'.heap[gb181]? = some (.cells #[.bool false, (.slice Ao32 t171.length co32), u182002] 25 (0, 0))) ∧ Aside0 (Below w.heap.size w w'))
        case atStart => exact ⟨(wrap64 (x12_2 + 1)), (x182002_2), (u182002), (by first | rfl | (simp; done) | (simp [*]; done)), H', ⟨Nat.le_refl _⟩, ⟨by (with_reducible repeat (first | apply Kd.R_alloc | apply Kd.R_drewN | apply Kd.R_drew)); exact HO_171001.out⟩, ⟨by (with_reducible repeat (first | apply Kd.R_alloc | apply Kd.R_drewN | apply Kd.R_drew)); exact HO_171002.out⟩, ⟨by (with_reducible repeat (first | apply Kd.R_alloc | apply Kd.R_drewN | apply Kd.R_drew)); exact HO_181000.out⟩, ⟨by (with_reducible repeat (first | apply Kd.S_alloc | apply Kd.S_drewN | apply Kd.S_drew)); exact HO_181001.out⟩, ⟨by (with_reducible repeat (first | apply Kd.S_alloc | apply Kd.S_drewN | apply Kd.S_drew)); exact HO_181002.out⟩, ⟨by (with_reducible repeat (first | apply Kd.R_alloc | apply Kd.R_drewN | apply Kd.R_drew)); exact HO_182001.out⟩, ⟨by (with_reducible repeat (first | apply Kd.R_alloc | apply Kd.R_drewN | apply Kd.R_drew)); exact HO_182002.out⟩, ⟨by (with_reducible repeat (first | refine blk_drewN ?_ _ | refine blk_drew ?_ | refine blk_alloc ?_ _)); exact BK159.out⟩, ⟨by (with_reducible repeat (first | refine blk_drewN ?_ _ | refine blk_drew ?_ | refine blk_alloc ?_ _)); exact BK170.out⟩, ⟨by (with_reducible repeat (first | refine blk_drewN ?_ _ | refine blk_drew ?_ | refine blk_alloc ?_ _)); exact BK180.out⟩, ⟨by (with_reducible repeat (first | refine blk_drewN ?_ _ | refine blk_drew ?_ | refine blk_alloc ?_ _)); exact BK181.out⟩, ⟨by repeat (first | (with_reducible first | exact HB.out | apply below_alloc | apply pw_below_drewN | apply below_drew1 | refine below_set ?_ GE159.out | refine below_set ?_ GE170.out | refine below_set ?_ GE180.out | refine below_set ?_ GE181.out) | exact HB.out)⟩⟩
        case round =>
         clear H'
         try clear c1
         try clear c2
         try clear p2
         try clear c3
         try clear c4
         try clear c5
         try clear p6
         try clear c10
         try clear c11
         try clear c12
         try clear c12b0
         try clear c13
         try clear c19
         try clear c25
         try clear c33
         try clear c34
         try clear c39
         try clear c40
         try clear c41
         try clear c43
         try clear c43b0
         try clear c44
         try clear c45
         try clear c46
         try clear hcz13_0
         try clear hcz13_1
         try clear hcz13_2
         try clear hcz15_0
         try clear hcz15_1
         try clear hcz15_2
         try clear hcz17_0
         try clear hcz17_1
         try clear hcz17_2
         try clear hcz22_0
         try clear hcz22_1
         try clear hcz22_2
         try clear hcz26_0
         try clear hcz26_1
         try clear hcz26_2
         try clear hcz29_0
         try clear hcz29_1
         try clear hcz29_2
         try clear hcz35_0
         try clear hcz35_1
         try clear hcz35_2
         try clear hcz42_0
         try clear hcz42_1
         try clear hcz42_2
         try clear hcz47_0
         try clear hcz47_1
         try clear hcz47_2
         try clear hcz8_0
         try clear hcz8_1
         try clear hcz8_2
         try clear hfz13_0
         try clear hfz13_1
         try clear hfz13_2
         try clear hfz15_0
         try clear hfz15_1
         try clear hfz15_2
         try clear hfz17_0
         try clear hfz17_1
         try clear hfz17_2
         try clear hfz22_0
         try clear hfz22_1
         try clear hfz22_2
         try clear hfz26_0
         try clear hfz26_1
         try clear hfz26_2
         try clear hfz29_0
         try clear hfz29_1
         try clear hfz29_2
         try clear hfz35_0
         try clear hfz35_1
         try clear hfz35_2
         try clear hfz42_0
         try clear hfz42_1
         try clear hfz42_2
         try clear hfz47_0
         try clear hfz47_1
         try clear hfz47_2
         try clear hfz8_0
         try clear hfz8_1
         try clear hfz8_2
         try clear p2
         try clear p6
         obtain ⟨x13_3, x182002_3, u182002, rfl, HA, HK3, HO_171001, HO_171002, HO_181000, HO_181001, HO_181002, HO_182001, HO_182002, BK159, BK170, BK180, BK181, HB⟩ := hrel
         cases gk with
         | zero => exact absurd HA.out (by simp [laws_FnUndirectMerged.l1])
         | succ k3 =>
          have H := HA.out
          clear HA
          simp only [laws_FnUndirectMerged.l1] at H
          by_cases c48 : x13_3 < (t171.length : Int)
          ·rw [if_pos c48] at H
           have c48b0 : decide (x13_3 < (t171.length : Int)) = true := decide_eq_true c48
           clear c48
           by_cases c49 : 0 ≤ x12_2
           ·rw [if_pos c49] at H
            have c49b0 : decide (0 ≤ x12_2) = true := decide_eq_true c49
            clear c49
            by_cases c50 : x12_2 < (t174.length : Int)
            ·rw [if_pos c50] at H
             have c50b0 : decide (x12_2 < (t174.length : Int)) = true := decide_eq_true c50
             clear c50
             by_cases c51 : 0 ≤ x13_3
             ·rw [if_pos c51] at H
              have c51b0 : decide (0 ≤ x13_3) = true := decide_eq_true c51
              clear c51
              by_cases c52 : x13_3 < ((rd_L3 t174 x12_2).length : Int)
              ·rw [if_pos c52] at H
               have c52b0 : decide (x13_3 < ((rd_L3 t174 x12_2).length : Int)) = true := decide_eq_true c52
               clear c52
               have HC53 := Aside0.mk H
               clear H
               have hnb54 := NB180_159.out
               have hnc54 := NB159_180.out
               have hnb55 := NB180_170.out
               have hnc55 := NB170_180.out
               have hnb56 := NB180_181.out
               have hnc56 := NB181_180.out
               have hcz57_0 : wr.cell? ⟨gb180, 0, none⟩ = some (.slice Ao32 t171.length co32) := (blk_cell BK180.out 0).trans rfl
               have hcz57_1 : wr.cell? ⟨gb180, 1, none⟩ = some (.slice Ao36 t174.length co36) := (blk_cell BK180.out 1).trans rfl
               have hcz57_2 : wr.cell? ⟨gb180, 2, none⟩ = some (.slice Ao37 t177.length co37) := (blk_cell BK180.out 2).trans rfl
               have hfz57_0 := blk_frozen BK180.out 0
               have hfz57_1 := blk_frozen BK180.out 1
               have hfz57_2 := blk_frozen BK180.out 2
               have p184 : 0 ≤ (x12_2 : Int) := of_decide_eq_true (by first | (with_reducible assumption) | assumption)
               have q184 : x12_2 < (t174.length : Int) := of_decide_eq_true (by first | (with_reducible assumption) | assumption)
               obtain ⟨ad184, A184_0, c184_0, e184, hx184_0, hl184_0, hi184_0⟩ := at_L3 (Kd.S_reads' HO_181001.out).2.2 x12_2 p184 q184
               cases e184
               obtain ⟨ce184, hce184, hMe184, hcc184⟩ := Kd.S_get HO_181001.out [] x12_2 p184 (by first | exact q184 | exact of_decide_eq_true (by first | (with_reducible assumption) | assumption) | (have e_ := (Kd.S_reads' HO_181001.out).1; omega))
               obtain ⟨ve184_0, rfl, ge184_0⟩ := hMe184
               have hv184_0 := hcc184 0 _ rfl
               rw [Nat.add_zero, show ((Kd.slice 4 Kd.bool)).sz = 1 from rfl, Nat.mul_one] at hv184_0
               replace hv184_0 := Option.some.inj (hv184_0.symm.trans hx184_0)
               rw [hv184_0] at ge184_0
               have HL184_0 := Aside0.mk (show Kd.R Kd.bool 4 _ _ _ _ (rd_L3 t174 x12_2) from ge184_0)
               clear hv184_0 ge184_0
               clear hcc184 hce184
               have HR184_0 := Aside0.mk hi184_0
               have HC184_0 := Aside0.mk hl184_0
               clear hi184_0 hl184_0
               replace p184 := eq_true p184
               replace q184 := eq_true q184
               have p185 : 0 ≤ (x13_3 : Int) := of_decide_eq_true (by first | (with_reducible assumption) | assumption)
               have q185 : x13_3 < ((rd_L3 t174 x12_2).length : Int) := of_decide_eq_true (by first | (with_reducible assumption) | assumption)
               obtain ⟨ad185, e185, hx185_0⟩ := Kd.at_bool (by repeat (first | (with_reducible exact HR184_0.out) | (with_reducible refine Kd.C_alloc ?_ _) | (with_reducible refine Kd.C_drewN ?_ _) | (with_reducible refine Kd.C_drew ?_) | exact HR184_0.out)) x13_3 p185 q185
               cases e185
               replace p185 := eq_true p185
               replace q185 := eq_true q185
               go_upto_if 70 with (fail)
               go_cut [14] (fun v14 wc => ∃ (kq : Nat) (x14_52 : Int), v14 = .int .i64 x14_52 ∧ Aside0 (laws_FnUndirectMerged.j3 kq a1 (wrap64 (Int.tmod a2 3)) t169 x12_2 x13_3 x14_52 a1 t162 t163 t166 t171 t174 t177 false t171 x182002_3 = some r) ∧ Aside0 (kq ≤ k3) ∧ Aside0 (Kd.R (Kd.int .i64) 3 wc w.heap.size (fun k_ => some k_ ≠ ((.slice Ao32 t171.length co32) : Value).ownBlock ∧ some k_ ≠ ((.slice Ao32 t171.length co32) : Value).ownBlock) (.slice Ao27 t163.length co27) t163) ∧ Aside0 (Kd.R k38 38 wc w.heap.size (fun k_ => some k_ ≠ (u182002 : Value).ownBlock) (.slice Ao28 t166.length co28) t166) ∧ Aside0 (Kd.R (Kd.int .i64) 3 wc w.heap.size (fun k_ => some k_ ≠ ((.slice Ao27 t163.length co27) : Value).ownBlock) (.slice Ao32 t171.length co32) t171) ∧ Aside0 (Kd.S (Kd.slice 4 Kd.bool) 35 wc w.heap.size (fun _ => True) (.slice (some ad184) t174.length co36) t174) ∧ Aside0 (Kd.S (Kd.slice 3 (Kd.int .i64)) 22 wc w.heap.size (fun k_ => some k_ ≠ ((.slice Ao27 t163.length co27) : Value).ownBlock ∧ some k_ ≠ ((.slice Ao32 t171.length co32) : Value).ownBlock ∧ some k_ ≠ ((.slice Ao32 t171.length co32) : Value).ownBlock) (.slice Ao37 t177.length co37) t177) ∧ Aside0 (Kd.R (Kd.int .i64) 3 wc w.heap.size (fun k_ => some k_ ≠ ((.slice Ao27 t163.length co27) : Value).ownBlock) (.slice Ao32 t171.length co32) t171) ∧ Aside0 (Kd.R k38 38 wc w.heap.size (fun k_ => some k_ ≠ ((.slice Ao28 t166.length co28) : Value).ownBlock) u182002 x182002_3) ∧ Aside0 (wc.heap[gb159]? = some (.cells #[.bool a0_0, (.slice A0_1 l0_1.length c0_1), (.slice A0_2 l0_2.length c0_2)] 25 (0, 0))) ∧ Aside0 (wc.heap[gb170]? = some (.cells #[.bool t162, (.slice Ao27 t163.length co27), (.slice Ao28 t166.length co28)] 25 (0, 0))) ∧ Aside0 (wc.heap[gb180]? = some (.cells #[(.slice Ao32 t171.length co32), (.slice (some ad184) t174.length co36), (.slice Ao37 t177.length co37)] 33 (0, 0))) ∧ Aside0 (wc.heap[gb181]? = some (.cells #[.bool false, (.slice Ao32 t171.length co32), u182002] 25 (0, 0))) ∧ Aside0 (Kd.C Kd.bool wc (some ad185) (rd_L3 t174 x12_2).length (rd_L3 t174 x12_2)) ∧ Aside0 (Below w.heap.size w wc))
               case first =>
                have H := HC53.out
                clear HC53
                obtain ⟨bq58, hbq58⟩ : ∃ b_ : Bool, b_ = (rdOf false (rd_L3 t174 x12_2) x13_3) := ⟨_, rfl⟩
                replace H : (if bq58 = true then (if x12_2 < (t177.length : Int) then (if x13_3 < ((rd_L4 t177 x12_2).length : Int) then (laws_FnUndirectMerged.j3 k3 a1 (wrap64 (Int.tmod a2 3)) t169 x12_2 x13_3 (rd (rd_L4 t177 x12_2) x13_3) a1 t162 t163 t166 t171 t174 t177 false t171 x182002_3) else (none)) else (none)) else (laws_FnUndirectMerged.j3 k3 a1 (wrap64 (Int.tmod a2 3)) t169 x12_2 x13_3 a1 a1 t162 t163 t166 t171 t174 t177 false t171 x182002_3)) = some r := by rw [← hbq58] at H; exact H
                have Nbq58 := Aside0.mk hbq58
                clear hbq58
                (try rw [← Nbq58.out])
                by_cases c59 : bq58 = true
                ·subst c59
                 have H1 : (if x12_2 < (t177.length : Int) then (if x13_3 < ((rd_L4 t177 x12_2).length : Int) then (laws_FnUndirectMerged.j3 k3 a1 (wrap64 (Int.tmod a2 3)) t169 x12_2 x13_3 (rd (rd_L4 t177 x12_2) x13_3) a1 t162 t163 t166 t171 t174 t177 false t171 x182002_3) else (none)) else (none)) = some r := by rw [if_pos rfl] at H; exact H
                 clear H
                 have H := H1
                 clear H1
                 by_cases c60 : x12_2 < (t177.length : Int)
                 ·rw [if_pos c60] at H
                  have c60b0 : decide (x12_2 < (t177.length : Int)) = true := decide_eq_true c60
                  clear c60
                  by_cases c61 : x13_3 < ((rd_L4 t177 x12_2).length : Int)
                  ·rw [if_pos c61] at H
                   have c61b0 : decide (x13_3 < ((rd_L4 t177 x12_2).length : Int)) = true := decide_eq_true c61
                   clear c61
                   have H' := Aside0.mk H
                   clear H
                   have hnb62 := NB180_159.out
                   have hnc62 := NB159_180.out
                   have hnb63 := NB180_170.out
                   have hnc63 := NB170_180.out
                   have hnb64 := NB180_181.out
                   have hnc64 := NB181_180.out
                   have hcz65_0 : wr.cell? ⟨gb180, 0, none⟩ = some (.slice Ao32 t171.length co32) := (blk_cell BK180.out 0).trans rfl
                   have hcz65_1 : wr.cell? ⟨gb180, 1, none⟩ = some (.slice (some ad184) t174.length co36) := (blk_cell BK180.out 1).trans rfl
                   have hcz65_2 : wr.cell? ⟨gb180, 2, none⟩ = some (.slice Ao37 t177.length co37) := (blk_cell BK180.out 2).trans rfl
                   have hfz65_0 := blk_frozen BK180.out 0
                   have hfz65_1 := blk_frozen BK180.out 1
                   have hfz65_2 := blk_frozen BK180.out 2
                   have p186 : 0 ≤ (x12_2 : Int) := of_decide_eq_true (by first | (with_reducible assumption) | assumption)
                   have q186 : x12_2 < (t177.length : Int) := of_decide_eq_true (by first | (with_reducible assumption) | assumption)
                   obtain ⟨ad186, A186_0, c186_0, e186, hx186_0, hl186_0, hi186_0⟩ := at_L4 (Kd.S_reads' HO_181002.out).2.2 x12_2 p186 q186
                   cases e186
                   obtain ⟨ce186, hce186, hMe186, hcc186⟩ := Kd.S_get HO_181002.out [] x12_2 p186 (by first | exact q186 | exact of_decide_eq_true (by first | (with_reducible assumption) | assumption) | (have e_ := (Kd.S_reads' HO_181002.out).1; omega))
                   obtain ⟨ve186_0, rfl, ge186_0⟩ := hMe186
                   have hv186_0 := hcc186 0 _ rfl
                   rw [Nat.add_zero, show ((Kd.slice 3 (Kd.int .i64))).sz = 1 from rfl, Nat.mul_one] at hv186_0
                   replace hv186_0 := Option.some.inj (hv186_0.symm.trans hx186_0)
                   rw [hv186_0] at ge186_0
                   have HL186_0 := Aside0.mk (show Kd.R (Kd.int .i64) 3 _ _ _ _ (rd_L4 t177 x12_2) from ge186_0)
                   clear hv186_0 ge186_0
                   clear hcc186 hce186
                   have HR186_0 := Aside0.mk hi186_0
                   have HC186_0 := Aside0.mk hl186_0
                   clear hi186_0 hl186_0
                   replace p186 := eq_true p186
                   replace q186 := eq_true q186
                   have p187 : 0 ≤ (x13_3 : Int) := of_decide_eq_true (by first | (with_reducible assumption) | assumption)
                   have q187 : x13_3 < ((rd_L4 t177 x12_2).length : Int) := of_decide_eq_true (by first | (with_reducible assumption) | assumption)
                   obtain ⟨ad187, e187, hx187_0⟩ := Kd.at_int (by repeat (first | (with_reducible exact HR186_0.out) | (with_reducible refine Kd.C_alloc ?_ _) | (with_reducible refine Kd.C_drewN ?_ _) | (with_reducible refine Kd.C_drew ?_) | exact HR186_0.out)) x13_3 p187 q187
                   cases e187
                   replace p187 := eq_true p187
                   replace q187 := eq_true q187
                   go_wp2
                   go_meet
                   case rel => exact ⟨_, (rd (rd_L4 t177 x12_2) x13_3), (by first | rfl | (simp; done) | (simp [*]; done)), H', ⟨by have := HJ5.out; have := HK2.out; have := HK3.out; first | omega | exact Nat.le_refl _⟩, ⟨by (with_reducible repeat (first | apply Kd.R_alloc | apply Kd.R_drewN | apply Kd.R_drew)); exact HO_171001.out⟩, ⟨by (with_reducible repeat (first | apply Kd.R_alloc | apply Kd.R_drewN | apply Kd.R_drew)); exact HO_171002.out⟩, ⟨by (with_reducible repeat (first | apply Kd.R_alloc | apply Kd.R_drewN | apply Kd.R_drew)); exact HO_181000.out⟩, ⟨by (with_reducible repeat (first | apply Kd.S_alloc | apply Kd.S_drewN | apply Kd.S_drew)); exact HO_181001.out⟩, ⟨by (with_reducible repeat (first | apply Kd.S_alloc | apply Kd.S_drewN | apply Kd.S_drew)); exact HO_181002.out⟩, ⟨by (with_reducible repeat (first | apply Kd.R_alloc | apply Kd.R_drewN | apply Kd.R_drew)); exact HO_182001.out⟩, ⟨by (with_reducible repeat (first | apply Kd.R_alloc | apply Kd.R_drewN | apply Kd.R_drew)); exact HO_182002.out⟩, ⟨by (with_reducible repeat (first | refine blk_drewN ?_ _ | refine blk_drew ?_ | refine blk_alloc ?_ _)); exact BK159.out⟩, ⟨by (with_reducible repeat (first | refine blk_drewN ?_ _ | refine blk_drew ?_ | refine blk_alloc ?_ _)); exact BK170.out⟩, ⟨by (with_reducible repeat (first | refine blk_drewN ?_ _ | refine blk_drew ?_ | refine blk_alloc ?_ _)); exact BK180.out⟩, ⟨by (with_reducible repeat (first | refine blk_drewN ?_ _ | refine blk_drew ?_ | refine blk_alloc ?_ _)); exact BK181.out⟩, ⟨by repeat (first | (with_reducible exact HR184_0.out) | (with_reducible refine Kd.C_alloc ?_ _) | (with_reducible refine Kd.C_drewN ?_ _) | (with_reducible refine Kd.C_drew ?_) | exact HR184_0.out)⟩, ⟨by repeat (first | (with_reducible first | exact HB.out | apply below_alloc | apply pw_below_drewN | apply below_drew1 | refine below_set ?_ GE159.out | refine below_set ?_ GE170.out | refine below_set ?_ GE180.out | refine below_set ?_ GE181.out) | exact HB.out)⟩⟩
                  ·rw [if_neg c61] at H
                   exact absurd H (by simp)
                 ·rw [if_neg c60] at H
                  exact absurd H (by simp)
                ·replace c59 := Bool.eq_false_iff.mpr c59
                 subst c59
                 have H1 : (laws_FnUndirectMerged.j3 k3 a1 (wrap64 (Int.tmod a2 3)) t169 x12_2 x13_3 a1 a1 t162 t163 t166 t171 t174 t177 false t171 x182002_3) = some r := by rw [if_neg (show ¬ (false = true) by decide)] at H; exact H
                 clear H
                 have H := H1
                 clear H1
                 have H' := Aside0.mk H
                 clear H
                 go_wp2
                 go_meet
                 case rel => exact ⟨_, (a1), (by first | rfl | (simp; done) | (simp [*]; done)), H', ⟨by have := HJ5.out; have := HK2.out; have := HK3.out; first | omega | exact Nat.le_refl _⟩, ⟨by (with_reducible repeat (first | apply Kd.R_alloc | apply Kd.R_drewN | apply Kd.R_drew)); exact HO_171001.out⟩, ⟨by (with_reducible repeat (first | apply Kd.R_alloc | apply Kd.R_drewN | apply Kd.R_drew)); exact HO_171002.out⟩, ⟨by (with_reducible repeat (first | apply Kd.R_alloc | apply Kd.R_drewN | apply Kd.R_drew)); exact HO_181000.out⟩, ⟨by (with_reducible repeat (first | apply Kd.S_alloc | apply Kd.S_drewN | apply Kd.S_drew)); exact HO_181001.out⟩, ⟨by (with_reducible repeat (first | apply Kd.S_alloc | apply Kd.S_drewN | apply Kd.S_drew)); exact HO_181002.out⟩, ⟨by (with_reducible repeat (first | apply Kd.R_alloc | apply Kd.R_drewN | apply Kd.R_drew)); exact HO_182001.out⟩, ⟨by (with_reducible repeat (first | apply Kd.R_alloc | apply Kd.R_drewN | apply Kd.R_drew)); exact HO_182002.out⟩, ⟨by (with_reducible repeat (first | refine blk_drewN ?_ _ | refine blk_drew ?_ | refine blk_alloc ?_ _)); exact BK159.out⟩, ⟨by (with_reducible repeat (first | refine blk_drewN ?_ _ | refine blk_drew ?_ | refine blk_alloc ?_ _)); exact BK170.out⟩, ⟨by (with_reducible repeat (first | refine blk_drewN ?_ _ | refine blk_drew ?_ | refine blk_alloc ?_ _)); exact BK180.out⟩, ⟨by (with_reducible repeat (first | refine blk_drewN ?_ _ | refine blk_drew ?_ | refine blk_alloc ?_ _)); exact BK181.out⟩, ⟨by repeat (first | (with_reducible exact HR184_0.out) | (with_reducible refine Kd.C_alloc ?_ _) | (with_reducible refine Kd.C_drewN ?_ _) | (with_reducible refine Kd.C_drew ?_) | exact HR184_0.out)⟩, ⟨by repeat (first | (with_reducible first | exact HB.out | apply below_alloc | apply pw_below_drewN | apply below_drew1 | refine below_set ?_ GE159.out | refine below_set ?_ GE170.out | refine below_set ?_ GE180.out | refine below_set ?_ GE181.out) | exact HB.out)⟩⟩
               case rest =>
                clear HC53
                try clear c1
                try clear p1
                try clear q1
                try clear hx1
                try clear c2
                try clear p2
                try clear c3
                try clear c4
                try clear c5
                try clear q5
                try clear c6
                try clear p6
                try clear c10
                try clear c11
                try clear c12
                try clear c12b0
                try clear c13
                try clear c18
                try clear p18
                try clear q18
                try clear hx18
                try clear c19
                try clear c25
                try clear c33
                try clear c34
                try clear c39
                try clear c40
                try clear c41
                try clear c43
                try clear c43b0
                try clear c44
                try clear c45
                try clear c46
                try clear c48
                try clear c48b0
                try clear c49
                try clear c49b0
                try clear c50
                try clear c50b0
                try clear c51
                try clear c51b0
                try clear c52
                try clear c52b0
                try clear c54
                try clear c55
                try clear c56
                try clear q58
                try clear c59
                try clear c60
                try clear c60b0
                try clear c61
                try clear c61b0
                try clear c62
                try clear c63
                try clear c64
                try clear p64
                try clear hcz13_0
                try clear hcz13_1
                try clear hcz13_2
                try clear hcz15_0
                try clear hcz15_1
                try clear hcz15_2
                try clear hcz17_0
                try clear hcz17_1
                try clear hcz17_2
                try clear hcz22_0
                try clear hcz22_1
                try clear hcz22_2
                try clear hcz26_0
                try clear hcz26_1
                try clear hcz26_2
                try clear hcz29_0
                try clear hcz29_1
                try clear hcz29_2
                try clear hcz35_0
                try clear hcz35_1
                try clear hcz35_2
                try clear hcz42_0
                try clear hcz42_1
                try clear hcz42_2
                try clear hcz47_0
                try clear hcz47_1
                try clear hcz47_2
                try clear hcz57_0
                try clear hcz57_1
                try clear hcz57_2
                try clear hcz65_0
                try clear hcz65_1
                try clear hcz65_2
                try clear hcz8_0
                try clear hcz8_1
                try clear hcz8_2
                try clear hfz13_0
                try clear hfz13_1
                try clear hfz13_2
                try clear hfz15_0
                try clear hfz15_1
                try clear hfz15_2
                try clear hfz17_0
                try clear hfz17_1
                try clear hfz17_2
                try clear hfz22_0
                try clear hfz22_1
                try clear hfz22_2
                try clear hfz26_0
                try clear hfz26_1
                try clear hfz26_2
                try clear hfz29_0
                try clear hfz29_1
                try clear hfz29_2
                try clear hfz35_0
                try clear hfz35_1
                try clear hfz35_2
                try clear hfz42_0
                try clear hfz42_1
                try clear hfz42_2
                try clear hfz47_0
                try clear hfz47_1
                try clear hfz47_2
                try clear hfz57_0
                try clear hfz57_1
                try clear hfz57_2
                try clear hfz65_0
                try clear hfz65_1
                try clear hfz65_2
                try clear hfz8_0
                try clear hfz8_1
                try clear hfz8_2
                try clear hx184_0
                try clear hx185_0
                try clear hx186_0
                try clear hx187_0
                try clear p184
                try clear p185
                try clear p186
                try clear p187
                try clear p2
                try clear p6
                try clear q184
                try clear q185
                try clear q186
                try clear q187
                obtain ⟨kq, x14_52, rfl, HA, HJ52, HO_171001, HO_171002, HO_181000, HO_181001, HO_181002, HO_182001, HO_182002, BK159, BK170, BK180, BK181, HR184_0, HB⟩ := hcut
                cases kq with
                | zero => exact absurd HA.out (by simp [laws_FnUndirectMerged.j3])
                | succ kj52 =>
                 have H := HA.out
                 clear HA
                 simp only [laws_FnUndirectMerged.j3] at H
                 by_cases c66 : 0 ≤ x13_3
                 ·rw [if_pos c66] at H
                  have c66b0 : decide (0 ≤ x13_3) = true := decide_eq_true c66
                  clear c66
                  by_cases c67 : x13_3 < (t174.length : Int)
                  ·rw [if_pos c67] at H
                   have c67b0 : decide (x13_3 < (t174.length : Int)) = true := decide_eq_true c67
                   clear c67
                   by_cases c68 : 0 ≤ x12_2
                   ·rw [if_pos c68] at H
                    have c68b0 : decide (0 ≤ x12_2) = true := decide_eq_true c68
                    clear c68
                    by_cases c69 : x12_2 < ((rd_L3 t174 x13_3).length : Int)
                    ·rw [if_pos c69] at H
                     have c69b0 : decide (x12_2 < ((rd_L3 t174 x13_3).length : Int)) = true := decide_eq_true c69
                     clear c69
                     obtain ⟨bq70, hbq70⟩ : ∃ b_ : Bool, b_ = (rdOf false (rd_L3 t174 x13_3) x12_2) := ⟨_, rfl⟩
                     replace H : (if bq70 = true then (if x13_3 < (t177.length : Int) then (if x12_2 < ((rd_L4 t177 x13_3).length : Int) then (if x12_2 < (t174.length : Int) then (if x13_3 < ((rd_L3 t174 x12_2).length : Int) then (if rdOf false (rd_L3 t174 x12_2) x13_3 = true then (if x12_2 < (t171.length : Int) then (if x13_3 < (t171.length : Int) then ((laws_merged.f x14_52 (rd (rd_L4 t177 x13_3) x12_2) (wrap64 (Int.tmod a2 3))).bind fun t196 => (if x182002_3.length < 5864062014805 then (laws_FnUndirectMerged.l1 kj52 a1 (wrap64 (Int.tmod a2 3)) t169 x12_2 (wrap64 (x13_3 + 1)) t162 t163 t166 t171 t174 t177 false t171 (x182002_3 ++ [(⟨rd t171 x12_2, rd t171 x13_3, t196⟩ : S38)])) else (none))) else (none)) else (none)) else (if x12_2 < (t171.length : Int) then (if x13_3 < (t171.length : Int) then ((laws_merged.f x14_52 (rd (rd_L4 t177 x13_3) x12_2) (wrap64 (Int.tmod a2 3))).bind fun t204 => (if x182002_3.length < 5864062014805 then (laws_FnUndirectMerged.l1 kj52 a1 (wrap64 (Int.tmod a2 3)) t169 x12_2 (wrap64 (x13_3 + 1)) t162 t163 t166 t171 t174 t177 false t171 (x182002_3 ++ [(⟨rd t171 x12_2, rd t171 x13_3, t204⟩ : S38)])) else (none))) else (none)) else (none))) else (none)) else (none)) else (none)) else (none)) else (if x12_2 < (t174.length : Int) then (if x13_3 < ((rd_L3 t174 x12_2).length : Int) then (if rdOf false (rd_L3 t174 x12_2) x13_3 = true then (if x12_2 < (t171.length : Int) then (if x13_3 < (t171.length : Int) then ((laws_merged.f x14_52 a1 (wrap64 (Int.tmod a2 3))).bind fun t212 => (if x182002_3.length < 5864062014805 then (laws_FnUndirectMerged.l1 kj52 a1 (wrap64 (Int.tmod a2 3)) t169 x12_2 (wrap64 (x13_3 + 1)) t162 t163 t166 t171 t174 t177 false t171 (x182002_3 ++ [(⟨rd t171 x12_2, rd t171 x13_3, t212⟩ : S38)])) else (none))) else (none)) else (none)) else (laws_FnUndirectMerged.l1 kj52 a1 (wrap64 (Int.tmod a2 3)) t169 x12_2 (wrap64 (x13_3 + 1)) t162 t163 t166 t171 t174 t177 false t171 x182002_3)) else (none)) else (none))) = some r := by rw [← hbq70] at H; exact H
                     have Nbq70 := Aside0.mk hbq70
                     clear hbq70
                     by_cases c71 : bq70 = true
                     ·subst c71
                      have H1 : (if x13_3 < (t177.length : Int) then (if x12_2 < ((rd_L4 t177 x13_3).length : Int) then (if x12_2 < (t174.length : Int) then (if x13_3 < ((rd_L3 t174 x12_2).length : Int) then (if rdOf false (rd_L3 t174 x12_2) x13_3 = true then (if x12_2 < (t171.length : Int) then (if x13_3 < (t171.length : Int) then ((laws_merged.f x14_52 (rd (rd_L4 t177 x13_3) x12_2) (wrap64 (Int.tmod a2 3))).bind fun t196 => (if x182002_3.length < 5864062014805 then (laws_FnUndirectMerged.l1 kj52 a1 (wrap64 (Int.tmod a2 3)) t169 x12_2 (wrap64 (x13_3 + 1)) t162 t163 t166 t171 t174 t177 false t171 (x182002_3 ++ [(⟨rd t171 x12_2, rd t171 x13_3, t196⟩ : S38)])) else (none))) else (none)) else (none)) else (if x12_2 < (t171.length : Int) then (if x13_3 < (t171.length : Int) then ((laws_merged.f x14_52 (rd (rd_L4 t177 x13_3) x12_2) (wrap64 (Int.tmod a2 3))).bind fun t204 => (if x182002_3.length < 5864062014805 then (laws_FnUndirectMerged.l1 kj52 a1 (wrap64 (Int.tmod a2 3)) t169 x12_2 (wrap64 (x13_3 + 1)) t162 t163 t166 t171 t174 t177 false t171 (x182002_3 ++ [(⟨rd t171 x12_2, rd t171 x13_3, t204⟩ : S38)])) else (none))) else (none)) else (none))) else (none)) else (none)) else (none)) else (none)) = some r := by rw [if_pos rfl] at H; exact H
                      clear H
                      have H := H1
                      clear H1
                      by_cases c72 : x13_3 < (t177.length : Int)
                      ·rw [if_pos c72] at H
                       have c72b0 : decide (x13_3 < (t177.length : Int)) = true := decide_eq_true c72
                       clear c72
                       by_cases c73 : x12_2 < ((rd_L4 t177 x13_3).length : Int)
                       ·rw [if_pos c73] at H
                        have c73b0 : decide (x12_2 < ((rd_L4 t177 x13_3).length : Int)) = true := decide_eq_true c73
                        clear c73
                        by_cases c74 : x12_2 < (t174.length : Int)
                        ·rw [if_pos c74] at H
                         have c74b0 : decide (x12_2 < (t174.length : Int)) = true := decide_eq_true c74
                         clear c74
                         by_cases c75 : x13_3 < ((rd_L3 t174 x12_2).length : Int)
                         ·rw [if_pos c75] at H
                          have c75b0 : decide (x13_3 < ((rd_L3 t174 x12_2).length : Int)) = true := decide_eq_true c75
                          clear c75
                          obtain ⟨bq76, hbq76⟩ : ∃ b_ : Bool, b_ = (rdOf false (rd_L3 t174 x12_2) x13_3) := ⟨_, rfl⟩
                          replace H : (if bq76 = true then (if x12_2 < (t171.length : Int) then (if x13_3 < (t171.length : Int) then ((laws_merged.f x14_52 (rd (rd_L4 t177 x13_3) x12_2) (wrap64 (Int.tmod a2 3))).bind fun t196 => (if x182002_3.length < 5864062014805 then (laws_FnUndirectMerged.l1 kj52 a1 (wrap64 (Int.tmod a2 3)) t169 x12_2 (wrap64 (x13_3 + 1)) t162 t163 t166 t171 t174 t177 false t171 (x182002_3 ++ [(⟨rd t171 x12_2, rd t171 x13_3, t196⟩ : S38)])) else (none))) else (none)) else (none)) else (if x12_2 < (t171.length : Int) then (if x13_3 < (t171.length : Int) then ((laws_merged.f x14_52 (rd (rd_L4 t177 x13_3) x12_2) (wrap64 (Int.tmod a2 3))).bind fun t204 => (if x182002_3.length < 5864062014805 then (laws_FnUndirectMerged.l1 kj52 a1 (wrap64 (Int.tmod a2 3)) t169 x12_2 (wrap64 (x13_3 + 1)) t162 t163 t166 t171 t174 t177 false t171 (x182002_3 ++ [(⟨rd t171 x12_2, rd t171 x13_3, t204⟩ : S38)])) else (none))) else (none)) else (none))) = some r := by rw [← hbq76] at H; exact H
                          have Nbq76 := Aside0.mk hbq76
                          clear hbq76
                          by_cases c77 : bq76 = true
                          ·subst c77
                           have H1 : (if x12_2 < (t171.length : Int) then (if x13_3 < (t171.length : Int) then ((laws_merged.f x14_52 (rd (rd_L4 t177 x13_3) x12_2) (wrap64 (Int.tmod a2 3))).bind fun t196 => (if x182002_3.length < 5864062014805 then (laws_FnUndirectMerged.l1 kj52 a1 (wrap64 (Int.tmod a2 3)) t169 x12_2 (wrap64 (x13_3 + 1)) t162 t163 t166 t171 t174 t177 false t171 (x182002_3 ++ [(⟨rd t171 x12_2, rd t171 x13_3, t196⟩ : S38)])) else (none))) else (none)) else (none)) = some r := by rw [if_pos rfl] at H; exact H
                           clear H
                           have H := H1
                           clear H1
                           by_cases c78 : x12_2 < (t171.length : Int)
                           ·rw [if_pos c78] at H
                            have c78b0 : decide (x12_2 < (t171.length : Int)) = true := decide_eq_true c78
                            clear c78
                            by_cases c79 : x13_3 < (t171.length : Int)
                            ·rw [if_pos c79] at H
                             have c79b0 : decide (x13_3 < (t171.length : Int)) = true := decide_eq_true c79
                             clear c79
                             replace H := Option.bind_eq_some_iff.mp H
                             obtain ⟨t196, A800, H⟩ := H
                             replace H : (if x182002_3.length < 5864062014805 then (laws_FnUndirectMerged.l1 kj52 a1 (wrap64 (Int.tmod a2 3)) t169 x12_2 (wrap64 (x13_3 + 1)) t162 t163 t166 t171 t174 t177 false t171 (x182002_3 ++ [(⟨rd t171 x12_2, rd t171 x13_3, t196⟩ : S38)])) else (none)) = some r := H
                             have A80 := Aside0.mk A800
                             clear A800
                             by_cases c81 : x182002_3.length < 5864062014805
                             ·rw [if_pos c81] at H
                              have LMc81 := Aside0.mk c81
                              clear c81
                              obtain ⟨y197, hy197⟩ : ∃ y_ : List (S38), y_ = (x182002_3 ++ [(⟨rd t171 x12_2, rd t171 x13_3, t196⟩ : S38)]) := ⟨_, rfl⟩
                              replace H : (laws_FnUndirectMerged.l1 kj52 a1 (wrap64 (Int.tmod a2 3)) t169 x12_2 (wrap64 (x13_3 + 1)) t162 t163 t166 t171 t174 t177 false t171 y197) = some r := by first | (rw [hy197]; with_reducible exact H) | (have H2_ := (Option.bind_some _ _).symm.trans H; rw [hy197]; with_reducible exact H2_) | (have H2_ := (Option.bind_some _ _).symm.trans H; with_reducible exact H2_) | with_reducible exact H | (rw [hy197]; exact H) | exact H
                              have Ny197 := Aside0.mk hy197
                              clear hy197
                              have H' := Aside0.mk H
                              clear H
                              have hnb82 := NB180_159.out
                              have hnc82 := NB159_180.out
                              have hnb83 := NB180_170.out
                              have hnc83 := NB170_180.out
                              have hnb84 := NB180_181.out
                              have hnc84 := NB181_180.out
                              have hcz85_0 : wc.cell? ⟨gb180, 0, none⟩ = some (.slice Ao32 t171.length co32) := (blk_cell BK180.out 0).trans rfl
                              have hcz85_1 : wc.cell? ⟨gb180, 1, none⟩ = some (.slice (some ad184) t174.length co36) := (blk_cell BK180.out 1).trans rfl
                              have hcz85_2 : wc.cell? ⟨gb180, 2, none⟩ = some (.slice Ao37 t177.length co37) := (blk_cell BK180.out 2).trans rfl
                              have hfz85_0 := blk_frozen BK180.out 0
                              have hfz85_1 := blk_frozen BK180.out 1
                              have hfz85_2 := blk_frozen BK180.out 2
                              have p188 : 0 ≤ (x13_3 : Int) := of_decide_eq_true (by first | (with_reducible assumption) | assumption)
                              have q188 : x13_3 < (t174.length : Int) := of_decide_eq_true (by first | (with_reducible assumption) | assumption)
                              obtain ⟨ad188, A188_0, c188_0, e188, hx188_0, hl188_0, hi188_0⟩ := at_L3 (Kd.S_reads' HO_181001.out).2.2 x13_3 p188 q188
                              obtain rfl : ad184 = ad188 := (by injection e188)
                              obtain ⟨ce188, hce188, hMe188, hcc188⟩ := Kd.S_get HO_181001.out [] x13_3 p188 (by first | exact q188 | exact of_decide_eq_true (by first | (with_reducible assumption) | assumption) | (have e_ := (Kd.S_reads' HO_181001.out).1; omega))
                              obtain ⟨ve188_0, rfl, ge188_0⟩ := hMe188
                              have hv188_0 := hcc188 0 _ rfl
                              rw [Nat.add_zero, show ((Kd.slice 4 Kd.bool)).sz = 1 from rfl, Nat.mul_one] at hv188_0
                              replace hv188_0 := Option.some.inj (hv188_0.symm.trans hx188_0)
                              rw [hv188_0] at ge188_0
                              have HL188_0 := Aside0.mk (show Kd.R Kd.bool 4 _ _ _ _ (rd_L3 t174 x13_3) from ge188_0)
                              clear hv188_0 ge188_0
                              clear hcc188 hce188
                              have HR188_0 := Aside0.mk hi188_0
                              have HC188_0 := Aside0.mk hl188_0
                              clear hi188_0 hl188_0
                              replace p188 := eq_true p188
                              replace q188 := eq_true q188
                              have p189 : 0 ≤ (x12_2 : Int) := of_decide_eq_true (by first | (with_reducible assumption) | assumption)
                              have q189 : x12_2 < ((rd_L3 t174 x13_3).length : Int) := of_decide_eq_true (by first | (with_reducible assumption) | assumption)
                              obtain ⟨ad189, e189, hx189_0⟩ := Kd.at_bool (by repeat (first | (with_reducible exact HR188_0.out) | (with_reducible refine Kd.C_alloc ?_ _) | (with_reducible refine Kd.C_drewN ?_ _) | (with_reducible refine Kd.C_drew ?_) | exact HR188_0.out)) x12_2 p189 q189
                              (try rw [← Nbq70.out] at hx189_0)
                              (try rw [← Nbq76.out] at hx189_0)
                              cases e189
                              replace p189 := eq_true p189
                              replace q189 := eq_true q189
                              have p190 : 0 ≤ (x13_3 : Int) := of_decide_eq_true (by first | (with_reducible assumption) | assumption)
                              have q190 : x13_3 < (t177.length : Int) := of_decide_eq_true (by first | (with_reducible assumption) | assumption)
                              obtain ⟨ad190, A190_0, c190_0, e190, hx190_0, hl190_0, hi190_0⟩ := at_L4 (Kd.S_reads' HO_181002.out).2.2 x13_3 p190 q190
                              cases e190
                              obtain ⟨ce190, hce190, hMe190, hcc190⟩ := Kd.S_get HO_181002.out [] x13_3 p190 (by first | exact q190 | exact of_decide_eq_true (by first | (with_reducible assumption) | assumption) | (have e_ := (Kd.S_reads' HO_181002.out).1; omega))
                              obtain ⟨ve190_0, rfl, ge190_0⟩ := hMe190
                              have hv190_0 := hcc190 0 _ rfl
                              rw [Nat.add_zero, show ((Kd.slice 3 (Kd.int .i64))).sz = 1 from rfl, Nat.mul_one] at hv190_0
                              replace hv190_0 := Option.some.inj (hv190_0.symm.trans hx190_0)
                              rw [hv190_0] at ge190_0
                              have HL190_0 := Aside0.mk (show Kd.R (Kd.int .i64) 3 _ _ _ _ (rd_L4 t177 x13_3) from ge190_0)
                              clear hv190_0 ge190_0
                              clear hcc190 hce190
                              have HR190_0 := Aside0.mk hi190_0
                              have HC190_0 := Aside0.mk hl190_0
                              clear hi190_0 hl190_0
                              replace p190 := eq_true p190
                              replace q190 := eq_true q190
                              have p191 : 0 ≤ (x12_2 : Int) := of_decide_eq_true (by first | (with_reducible assumption) | assumption)
                              have q191 : x12_2 < ((rd_L4 t177 x13_3).length : Int) := of_decide_eq_true (by first | (with_reducible assumption) | assumption)
                              obtain ⟨ad191, e191, hx191_0⟩ := Kd.at_int (by repeat (first | (with_reducible exact HR190_0.out) | (with_reducible refine Kd.C_alloc ?_ _) | (with_reducible refine Kd.C_drewN ?_ _) | (with_reducible refine Kd.C_drew ?_) | exact HR190_0.out)) x12_2 p191 q191
                              cases e191
                              replace p191 := eq_true p191
                              replace q191 := eq_true q191
                              have p192 : 0 ≤ (x12_2 : Int) := of_decide_eq_true (by first | (with_reducible assumption) | assumption)
                              have q192 : x12_2 < (t174.length : Int) := of_decide_eq_true (by first | (with_reducible assumption) | assumption)
                              obtain ⟨ad192, A192_0, c192_0, e192, hx192_0, hl192_0, hi192_0⟩ := at_L3 (Kd.S_reads' HO_181001.out).2.2 x12_2 p192 q192
                              obtain rfl : ad184 = ad192 := (by injection e192)
                              obtain ⟨ce192, hce192, hMe192, hcc192⟩ := Kd.S_get HO_181001.out [] x12_2 p192 (by first | exact q192 | exact of_decide_eq_true (by first | (with_reducible assumption) | assumption) | (have e_ := (Kd.S_reads' HO_181001.out).1; omega))
                              obtain ⟨ve192_0, rfl, ge192_0⟩ := hMe192
                              have hv192_0 := hcc192 0 _ rfl
                              rw [Nat.add_zero, show ((Kd.slice 4 Kd.bool)).sz = 1 from rfl, Nat.mul_one] at hv192_0
                              replace hv192_0 := Option.some.inj (hv192_0.symm.trans hx192_0)
                              rw [hv192_0] at ge192_0
                              have HL192_0 := Aside0.mk (show Kd.R Kd.bool 4 _ _ _ _ (rd_L3 t174 x12_2) from ge192_0)
                              clear hv192_0 ge192_0
                              clear hcc192 hce192
                              have HR192_0 := Aside0.mk hi192_0
                              have HC192_0 := Aside0.mk hl192_0
                              clear hi192_0 hl192_0
                              replace p192 := eq_true p192
                              replace q192 := eq_true q192
                              have p193 : 0 ≤ (x13_3 : Int) := of_decide_eq_true (by first | (with_reducible assumption) | assumption)
                              have q193 : x13_3 < ((rd_L3 t174 x12_2).length : Int) := of_decide_eq_true (by first | (with_reducible assumption) | assumption)
                              obtain ⟨ad193, e193, hx193_0⟩ := Kd.at_bool (by repeat (first | (with_reducible exact HR192_0.out) | (with_reducible refine Kd.C_alloc ?_ _) | (with_reducible refine Kd.C_drewN ?_ _) | (with_reducible refine Kd.C_drew ?_) | exact HR192_0.out)) x13_3 p193 q193
                              (try rw [← Nbq70.out] at hx193_0)
                              (try rw [← Nbq76.out] at hx193_0)
                              cases e193
                              replace p193 := eq_true p193
                              replace q193 := eq_true q193
                              try go_wp2
                              have n0_ := Aside0.mk (Kd.R_drew HO_171001.out)
                              have n1_ := Aside0.mk (Kd.R_drew HO_171002.out)
                              have n2_ := Aside0.mk (Kd.R_drew HO_181000.out)
                              have n3_ := Aside0.mk (Kd.S_drew HO_181001.out)
                              have n4_ := Aside0.mk (Kd.S_drew HO_181002.out)
                              have n5_ := Aside0.mk (Kd.R_drew HO_182001.out)
                              have n6_ := Aside0.mk (Kd.R_drew HO_182002.out)
                              have n7_ := Aside0.mk (Kd.R_drew HL188_0.out)
                              have n8_ := Aside0.mk (Kd.R_drew HL190_0.out)
                              have n9_ := Aside0.mk (Kd.R_drew HL192_0.out)
                              have n10_ := Aside0.mk (blk_drew BK159.out)
                              have n11_ := Aside0.mk (blk_drew BK170.out)
                              have n12_ := Aside0.mk (blk_drew BK180.out)
                              have n13_ := Aside0.mk (blk_drew BK181.out)
                              have n14_ := Aside0.mk (Kd.C_drew HR184_0.out)
                              have n15_ := Aside0.mk (Kd.C_drew HR188_0.out)
                              have n16_ := Aside0.mk (Kd.C_drew HR190_0.out)
                              have n17_ := Aside0.mk (Kd.C_drew HR192_0.out)
                              have n18_ := Aside0.mk (below_drew1 HB.out)
                              clear HO_171001
                              clear HO_171002
                              clear HO_181000
                              clear HO_181001
                              clear HO_181002
                              clear HO_182001
                              clear HO_182002
                              clear HL188_0
                              clear HL190_0
                              clear HL192_0
                              clear BK159
                              clear BK170
                              clear BK180
                              clear BK181
                              clear HR184_0
                              clear HR188_0
                              clear HR190_0
                              clear HR192_0
                              clear HB
                              have HO_171001 := n0_
                              have HO_171002 := n1_
                              have HO_181000 := n2_
                              have HO_181001 := n3_
                              have HO_181002 := n4_
                              have HO_182001 := n5_
                              have HO_182002 := n6_
                              have HL188_0 := n7_
                              have HL190_0 := n8_
                              have HL192_0 := n9_
                              have BK159 := n10_
                              have BK170 := n11_
                              have BK180 := n12_
                              have BK181 := n13_
                              have HR184_0 := n14_
                              have HR188_0 := n15_
                              have HR190_0 := n16_
                              have HR192_0 := n17_
                              have HB := n18_
                              clear n0_ n1_ n2_ n3_ n4_ n5_ n6_ n7_ n8_ n9_ n10_ n11_ n12_ n13_ n14_ n15_ n16_ n17_ n18_
                              have p194 : 0 ≤ (x12_2 : Int) := of_decide_eq_true (by first | (with_reducible assumption) | assumption)
                              have q194 : x12_2 < (t171.length : Int) := of_decide_eq_true (by first | (with_reducible assumption) | assumption)
                              obtain ⟨ad194, e194, hx194_0⟩ := Kd.at_int (Kd.R_reads' HO_181000.out).2.2 x12_2 p194 q194
                              cases e194
                              replace p194 := eq_true p194
                              replace q194 := eq_true q194
                              have p195 : 0 ≤ (x13_3 : Int) := of_decide_eq_true (by first | (with_reducible assumption) | assumption)
                              have q195 : x13_3 < (t171.length : Int) := of_decide_eq_true (by first | (with_reducible assumption) | assumption)
                              obtain ⟨ad195, e195, hx195_0⟩ := Kd.at_int (Kd.R_reads' HO_181000.out).2.2 x13_3 p195 q195
                              obtain rfl : ad194 = ad195 := (by injection e195)
                              replace p195 := eq_true p195
                              replace q195 := eq_true q195
                              refine start_ (n := 21) (S := fun w' => w'.cell? ⟨gb181, 0, none⟩ = some (.bool false) ∧ w'.cell? ⟨gb181, 1, none⟩ = some (.slice (some ad194) t171.length co32) ∧ w'.cell? ⟨gb181, 2, none⟩ = some (u182002) ∧ w'.cell? ⟨gb180, 0, none⟩ = some (.slice (some ad194) t171.length co32) ∧ w'.cell? ⟨gb180, 1, none⟩ = some (.slice (some ad184) t174.length co36) ∧ w'.cell? ⟨gb180, 2, none⟩ = some (.slice (some ad190) t177.length co37) ∧ w'.cell? (ad194.add (x12_2).toNat) = some (.int .i64 (rd t171 x12_2)) ∧ w'.cell? (ad194.add (x13_3).toNat) = some (.int .i64 (rd t171 x13_3))) (ds := [18, 20]) #[false, false, false, false, false, false, false, false, false, false, false, false, false, false, false, false, false, false, false, false, false] (by kernel_rfl) rfl rfl ⟨(blk_cell BK181.out 0).trans rfl, (blk_cell BK181.out 1).trans rfl, (blk_cell BK181.out 2).trans rfl, (blk_cell BK180.out 0).trans rfl, (blk_cell BK180.out 1).trans rfl, (blk_cell BK180.out 2).trans rfl, hx194_0, hx195_0⟩ (fun hHeld => ?_); refine with_tabW laws_FnUndirectMerged.tab21 laws_FnUndirectMerged.bits21 (fun HT_ HW_ => ?_)
                              generalize wc.drew = w86 at HO_171001 HO_171002 HO_181000 HO_181001 HO_181002 HO_182001 HO_182002 HL188_0 HL190_0 HL192_0 BK159 BK170 BK180 BK181 HR184_0 HR188_0 HR190_0 HR192_0 HB hx194_0 hx195_0 hHeld ⊢
                              refine pure_ (i := 0) (N := some 113) (v := ?_) (a' := ?_) #[true, false, false, false, false, false, false, false, false, false, false, false, false, false, false, false, false, false, false, false, false] rfl rfl (any_of HT_.out (by kernel_rfl)) (fun _ _ _ h => h) (Or.inl ⟨by rfl, ?_⟩) ?_ ?_
                              rotate_left
                              ·intro w'
                               go_simp
                               with_reducible rfl
                              rotate_left
                              ·simp only [Act.put, List.setIfInBounds_toArray, List.set_cons_zero, List.set_cons_succ, i64_w, i32_w]
                               rfl
                              refine pure_ (i := 2) (N := some 115) (v := ?_) (a' := ?_) #[true, false, true, false, false, false, false, false, false, false, false, false, false, false, false, false, false, false, false, false, false] rfl rfl (any_of HT_.out (by kernel_rfl)) (fun _ _ _ h => h) (Or.inl ⟨by rfl, ?_⟩) ?_ ?_
                              rotate_left
                              ·intro w'
                               go_simp
                               with_reducible rfl
                              rotate_left
                              ·simp only [Act.put, List.setIfInBounds_toArray, List.set_cons_zero, List.set_cons_succ, i64_w, i32_w]
                               rfl
                              refine pure_ (i := 4) (N := some 117) (v := ?_) (a' := ?_) #[true, false, true, false, true, false, false, false, false, false, false, false, false, false, false, false, false, false, false, false, false] rfl rfl (any_of HT_.out (by kernel_rfl)) (fun _ _ _ h => h) (Or.inl ⟨by rfl, ?_⟩) ?_ ?_
                              rotate_left
                              ·intro w'
                               go_simp
                               with_reducible rfl
                              rotate_left
                              ·simp only [Act.put, List.setIfInBounds_toArray, List.set_cons_zero, List.set_cons_succ, i64_w, i32_w]
                               rfl
                              refine pure_ (i := 7) (N := some 120) (v := ?_) (a' := ?_) #[true, false, true, false, true, false, false, true, false, false, false, false, false, false, false, false, false, false, false, false, false] rfl rfl (any_of HT_.out (by kernel_rfl)) (fun _ _ _ h => h) (Or.inl ⟨by rfl, ?_⟩) ?_ ?_
                              rotate_left
                              ·intro w'
                               go_simp
                               with_reducible rfl
                              rotate_left
                              ·simp only [Act.put, List.setIfInBounds_toArray, List.set_cons_zero, List.set_cons_succ, i64_w, i32_w]
                               rfl
                              refine pure_ (i := 9) (N := some 122) (v := ?_) (a' := ?_) #[true, false, true, false, true, false, false, true, false, true, false, false, false, false, false, false, false, false, false, false, false] rfl rfl (any_of HT_.out (by kernel_rfl)) (fun _ _ _ h => h) (Or.inl ⟨by rfl, ?_⟩) ?_ ?_
                              rotate_left
                              ·intro w'
                               go_simp
                               with_reducible rfl
                              rotate_left
                              ·simp only [Act.put, List.setIfInBounds_toArray, List.set_cons_zero, List.set_cons_succ, i64_w, i32_w]
                               rfl
                              refine pure_ (i := 12) (N := some 125) (v := ?_) (a' := ?_) #[true, false, true, false, true, false, false, true, false, true, false, false, true, false, false, false, false, false, false, false, false] rfl rfl (any_of HT_.out (by kernel_rfl)) (fun _ _ _ h => h) (Or.inl ⟨by rfl, ?_⟩) ?_ ?_
                              rotate_left
                              ·intro w'
                               go_simp
                               with_reducible rfl
                              rotate_left
                              ·simp only [Act.put, List.setIfInBounds_toArray, List.set_cons_zero, List.set_cons_succ, i64_w, i32_w]
                               rfl
                              refine pure_ (i := 13) (N := some 126) (v := ?_) (a' := ?_) #[true, false, true, false, true, false, false, true, false, true, false, false, true, true, false, false, false, false, false, false, false] rfl rfl (any_of HT_.out (by kernel_rfl)) (fun _ _ _ h => h) (Or.inl ⟨by rfl, ?_⟩) ?_ ?_
                              rotate_left
                              ·intro w'
                               go_simp
                               with_reducible rfl
                              rotate_left
                              ·simp only [Act.put, List.setIfInBounds_toArray, List.set_cons_zero, List.set_cons_succ, i64_w, i32_w]
                               rfl
                              refine pure_ (i := 14) (N := some 127) (v := ?_) (a' := ?_) #[true, false, true, false, true, false, false, true, false, true, false, false, true, true, true, false, false, false, false, false, false] rfl rfl (any_of HT_.out (by kernel_rfl)) (fun _ _ _ h => h) (Or.inl ⟨by rfl, ?_⟩) ?_ ?_
                              rotate_left
                              ·intro w'
                               go_simp
                               with_reducible rfl
                              rotate_left
                              ·simp only [Act.put, List.setIfInBounds_toArray, List.set_cons_zero, List.set_cons_succ, i64_w, i32_w]
                               rfl
                              refine take_ (i := 1) (N := some 114) (v := ?_) (a' := ?_) #[true, true, true, false, true, false, false, true, false, true, false, false, true, true, true, false, false, false, false, false, false] rfl rfl (take_ofW HT_.out HW_.out (by kernel_rfl)) (fun _ _ _ h => h) (Or.inl ⟨by rfl, ?_⟩) hHeld ?_ ?_
                              rotate_left
                              ·rintro w' ⟨s0, s1, s2, s3, s4, s5, s6, s7⟩
                               go_simp
                               with_reducible rfl
                              rotate_left
                              ·simp only [Act.put, List.setIfInBounds_toArray, List.set_cons_zero, List.set_cons_succ, i64_w, i32_w]
                               rfl
                              refine take_ (i := 3) (N := some 116) (v := ?_) (a' := ?_) #[true, true, true, true, true, false, false, true, false, true, false, false, true, true, true, false, false, false, false, false, false] rfl rfl (take_ofW HT_.out HW_.out (by kernel_rfl)) (fun _ _ _ h => h) (Or.inl ⟨by rfl, ?_⟩) hHeld ?_ ?_
                              rotate_left
                              ·rintro w' ⟨s0, s1, s2, s3, s4, s5, s6, s7⟩
                               go_simp
                               with_reducible rfl
                              rotate_left
                              ·simp only [Act.put, List.setIfInBounds_toArray, List.set_cons_zero, List.set_cons_succ, i64_w, i32_w]
                               rfl
                              refine pure_ (i := 5) (N := some 118) (v := ?_) (a' := ?_) #[true, true, true, true, true, true, false, true, false, true, false, false, true, true, true, false, false, false, false, false, false] rfl rfl (any_of HT_.out (by kernel_rfl)) (fun _ _ _ h => h) (Or.inl ⟨by rfl, ?_⟩) ?_ ?_
                              rotate_left
                              ·intro w'
                               go_simp
                               with_reducible rfl
                              rotate_left
                              ·simp only [Act.put, List.setIfInBounds_toArray, List.set_cons_zero, List.set_cons_succ, i64_w, i32_w]
                               rfl
                              refine take_ (i := 6) (N := some 119) (v := ?_) (a' := ?_) #[true, true, true, true, true, true, true, true, false, true, false, false, true, true, true, false, false, false, false, false, false] rfl rfl (take_ofW HT_.out HW_.out (by kernel_rfl)) (fun _ _ _ h => h) (Or.inl ⟨by rfl, ?_⟩) hHeld ?_ ?_
                              rotate_left
                              ·rintro w' ⟨s0, s1, s2, s3, s4, s5, s6, s7⟩
                               go_simp
                               with_reducible rfl
                              rotate_left
                              ·simp only [Act.put, List.setIfInBounds_toArray, List.set_cons_zero, List.set_cons_succ, i64_w, i32_w]
                               rfl
                              refine take_ (i := 8) (N := some 121) (v := ?_) (a' := ?_) #[true, true, true, true, true, true, true, true, true, true, false, false, true, true, true, false, false, false, false, false, false] rfl rfl (take_ofW HT_.out HW_.out (by kernel_rfl)) (fun _ _ _ h => h) (Or.inl ⟨by rfl, ?_⟩) hHeld ?_ ?_
                              rotate_left
                              ·rintro w' ⟨s0, s1, s2, s3, s4, s5, s6, s7⟩
                               go_simp
                               with_reducible rfl
                              rotate_left
                              ·simp only [Act.put, List.setIfInBounds_toArray, List.set_cons_zero, List.set_cons_succ, i64_w, i32_w]
                               rfl
                              refine pure_ (i := 10) (N := some 123) (v := ?_) (a' := ?_) #[true, true, true, true, true, true, true, true, true, true, true, false, true, true, true, false, false, false, false, false, false] rfl rfl (any_of HT_.out (by kernel_rfl)) (fun _ _ _ h => h) (Or.inl ⟨by rfl, ?_⟩) ?_ ?_
                              rotate_left
                              ·intro w'
                               go_simp
                               with_reducible rfl
                              rotate_left
                              ·simp only [Act.put, List.setIfInBounds_toArray, List.set_cons_zero, List.set_cons_succ, i64_w, i32_w]
                               rfl
                              refine take_ (i := 11) (N := some 124) (v := ?_) (a' := ?_) #[true, true, true, true, true, true, true, true, true, true, true, true, true, true, true, false, false, false, false, false, false] rfl rfl (take_ofW HT_.out HW_.out (by kernel_rfl)) (fun _ _ _ h => h) (Or.inl ⟨by rfl, ?_⟩) hHeld ?_ ?_
                              rotate_left
                              ·rintro w' ⟨s0, s1, s2, s3, s4, s5, s6, s7⟩
                               go_simp
                               with_reducible rfl
                              rotate_left
                              ·simp only [Act.put, List.setIfInBounds_toArray, List.set_cons_zero, List.set_cons_succ, i64_w, i32_w]
                               rfl
                              refine one_ (i := 15) (N := some 128) #[true, true, true, true, true, true, true, true, true, true, true, true, true, true, true, true, false, false, false, false, false] rfl rfl (one_of HT_.out (by kernel_rfl)) (by decide) (fun K hK => ?_)
                              refine goes_ Tryz.func14 (by kernel_rfl) rfl #[.int .i64 x14_52, .int .i64 (rd (rd_L4 t177 x13_3) x12_2), .int .i64 (wrap64 (Int.tmod a2 3))] (by rfl) rfl rfl (by (try simp only [List.map_toArray, List.map_cons, List.map_nil]); first | done | rfl | (simp only [List.length_drop, List.length_take]; rfl)) ?_
                              with_reducible refine (laws_merged.calls x14_52 (rd (rd_L4 t177 x13_3) x12_2) (wrap64 (Int.tmod a2 3)) t196 _ A80.out).mono ?_
                              rintro e w87 ⟨rfl, hb⟩
                              have HS6_ := (hb.cell (World.block_lt_of_cell? _ _ (hHeld.2.2.2.2.2.2.1))).trans (hHeld.2.2.2.2.2.2.1)
                              have HS7_ := (hb.cell (World.block_lt_of_cell? _ _ (hHeld.2.2.2.2.2.2.2))).trans (hHeld.2.2.2.2.2.2.2)
                              refine ⟨_, rfl, ?_⟩
                              have n0_ := Aside0.mk (Kd.R_below (by (with_reducible repeat (first | apply Kd.R_alloc | apply Kd.R_drewN | apply Kd.R_drew)); exact HO_171001.out) hb)
                              have n1_ := Aside0.mk (Kd.R_below (by (with_reducible repeat (first | apply Kd.R_alloc | apply Kd.R_drewN | apply Kd.R_drew)); exact HO_171002.out) hb)
                              have n2_ := Aside0.mk (Kd.R_below (by (with_reducible repeat (first | apply Kd.R_alloc | apply Kd.R_drewN | apply Kd.R_drew)); exact HO_181000.out) hb)
                              have n3_ := Aside0.mk (Kd.S_below (by (with_reducible repeat (first | apply Kd.S_alloc | apply Kd.S_drewN | apply Kd.S_drew)); exact HO_181001.out) hb)
                              have n4_ := Aside0.mk (Kd.S_below (by (with_reducible repeat (first | apply Kd.S_alloc | apply Kd.S_drewN | apply Kd.S_drew)); exact HO_181002.out) hb)
                              have n5_ := Aside0.mk (Kd.R_below (by (with_reducible repeat (first | apply Kd.R_alloc | apply Kd.R_drewN | apply Kd.R_drew)); exact HO_182001.out) hb)
                              have n6_ := Aside0.mk (Kd.R_below (by (with_reducible repeat (first | apply Kd.R_alloc | apply Kd.R_drewN | apply Kd.R_drew)); exact HO_182002.out) hb)
                              have n7_ := Aside0.mk (Kd.R_below (by (with_reducible repeat (first | apply Kd.R_alloc | apply Kd.R_drewN | apply Kd.R_drew)); exact HL188_0.out) hb)
                              have n8_ := Aside0.mk (Kd.R_below (by (with_reducible repeat (first | apply Kd.R_alloc | apply Kd.R_drewN | apply Kd.R_drew)); exact HL190_0.out) hb)
                              have n9_ := Aside0.mk (Kd.R_below (by (with_reducible repeat (first | apply Kd.R_alloc | apply Kd.R_drewN | apply Kd.R_drew)); exact HL192_0.out) hb)
                              have n10_ := Aside0.mk (blk_below (g := gb159) (o := .cells #[.bool a0_0, .slice A0_1 l0_1.length c0_1, .slice A0_2 l0_2.length c0_2] 25 (0, 0)) (by (with_reducible repeat (first | refine blk_drewN ?_ _ | refine blk_drew ?_ | refine blk_alloc ?_ _)); exact BK159.out) hb)
                              have n11_ := Aside0.mk (blk_below (g := gb170) (o := .cells #[.bool t162, .slice Ao27 t163.length co27, .slice Ao28 t166.length co28] 25 (0, 0)) (by (with_reducible repeat (first | refine blk_drewN ?_ _ | refine blk_drew ?_ | refine blk_alloc ?_ _)); exact BK170.out) hb)
                              have n12_ := Aside0.mk (blk_below (g := gb180) (o := .cells #[.slice (some ad194) t171.length co32, .slice (some ad184) t174.length co36, .slice (some ad190) t177.length co37] 33 (0, 0)) (by (with_reducible repeat (first | refine blk_drewN ?_ _ | refine blk_drew ?_ | refine blk_alloc ?_ _)); exact BK180.out) hb)
                              have n13_ := Aside0.mk (blk_below (g := gb181) (o := .cells #[.bool false, .slice (some ad194) t171.length co32, u182002] 25 (0, 0)) (by (with_reducible repeat (first | refine blk_drewN ?_ _ | refine blk_drew ?_ | refine blk_alloc ?_ _)); exact BK181.out) hb)
                              have n14_ := Aside0.mk (Kd.C_below (by repeat (first | (with_reducible exact HR184_0.out) | (with_reducible refine Kd.C_alloc ?_ _) | (with_reducible refine Kd.C_drewN ?_ _) | (with_reducible refine Kd.C_drew ?_) | exact HR184_0.out)) hb)
                              have n15_ := Aside0.mk (Kd.C_below (by repeat (first | (with_reducible exact HR188_0.out) | (with_reducible refine Kd.C_alloc ?_ _) | (with_reducible refine Kd.C_drewN ?_ _) | (with_reducible refine Kd.C_drew ?_) | exact HR188_0.out)) hb)
                              have n16_ := Aside0.mk (Kd.C_below (by repeat (first | (with_reducible exact HR190_0.out) | (with_reducible refine Kd.C_alloc ?_ _) | (with_reducible refine Kd.C_drewN ?_ _) | (with_reducible refine Kd.C_drew ?_) | exact HR190_0.out)) hb)
                              have n17_ := Aside0.mk (Kd.C_below (by repeat (first | (with_reducible exact HR192_0.out) | (with_reducible refine Kd.C_alloc ?_ _) | (with_reducible refine Kd.C_drewN ?_ _) | (with_reducible refine Kd.C_drew ?_) | exact HR192_0.out)) hb)
                              have n18_ := Aside0.mk (below_step (by repeat (first | (with_reducible first | exact HB.out | apply below_alloc | apply pw_below_drewN | apply below_drew1 | refine below_set ?_ GE159.out | refine below_set ?_ GE170.out | refine below_set ?_ GE180.out | refine below_set ?_ GE181.out) | exact HB.out)) hb)
                              clear HO_171001
                              clear HO_171002
                              clear HO_181000
                              clear HO_181001
                              clear HO_181002
                              clear HO_182001
                              clear HO_182002
                              clear HL188_0
                              clear HL190_0
                              clear HL192_0
                              clear BK159
                              clear BK170
                              clear BK180
                              clear BK181
                              clear HR184_0
                              clear HR188_0
                              clear HR190_0
                              clear HR192_0
                              clear HB
                              have HO_171001 := n0_
                              have HO_171002 := n1_
                              have HO_181000 := n2_
                              have HO_181001 := n3_
                              have HO_181002 := n4_
                              have HO_182001 := n5_
                              have HO_182002 := n6_
                              have HL188_0 := n7_
                              have HL190_0 := n8_
                              have HL192_0 := n9_
                              have BK159 := n10_
                              have BK170 := n11_
                              have BK180 := n12_
                              have BK181 := n13_
                              have HR184_0 := n14_
                              have HR188_0 := n15_
                              have HR190_0 := n16_
                              have HR192_0 := n17_
                              have HB := n18_
                              clear n0_ n1_ n2_ n3_ n4_ n5_ n6_ n7_ n8_ n9_ n10_ n11_ n12_ n13_ n14_ n15_ n16_ n17_ n18_
                              (try clear hb)
                              (try clear hb2)
                              (try clear hk)
                              (try clear hi)
                              refine hK.out _ _ ⟨(blk_cell BK181.out 0).trans rfl, (blk_cell BK181.out 1).trans rfl, (blk_cell BK181.out 2).trans rfl, (blk_cell BK180.out 0).trans rfl, (blk_cell BK180.out 1).trans rfl, (blk_cell BK180.out 2).trans rfl, HS6_, HS7_⟩ (fun hHeld => ?_)
                              clear hK K
                              refine norm_ (a' := ?_) ?_ ?_
                              rotate_left
                              ·show Act.put _ (some 128) _ = _
                               simp only [Act.put, List.setIfInBounds_toArray, List.set_cons_zero, List.set_cons_succ, i64_w, i32_w]
                               rfl
                              refine pure_ (i := 16) (N := some 129) (v := ?_) (a' := ?_) #[true, true, true, true, true, true, true, true, true, true, true, true, true, true, true, true, true, false, false, false, false] rfl rfl (any_of HT_.out (by kernel_rfl)) (fun _ _ _ h => h) (Or.inl ⟨by rfl, ?_⟩) ?_ ?_
                              rotate_left
                              ·intro w'
                               go_simp
                               with_reducible rfl
                              rotate_left
                              ·simp only [Act.put, List.setIfInBounds_toArray, List.set_cons_zero, List.set_cons_succ, i64_w, i32_w]
                               rfl
                              refine one_ (i := 17) (N := some 130) #[true, true, true, true, true, true, true, true, true, true, true, true, true, true, true, true, true, true, false, false, false] rfl rfl (one_of HT_.out (by kernel_rfl)) (by decide) (fun K hK => ?_)
                              refine value_ (w1 := ?_) (v := ?_) (by rfl) rfl ?_ ?_
                              rotate_left 2
                              ·go_simp
                               constructor
                               ·rfl
                               ·rfl
                              refine hK.out _ _ ⟨(blk_cell (blk_alloc BK181.out _) 0).trans rfl, (blk_cell (blk_alloc BK181.out _) 1).trans rfl, (blk_cell (blk_alloc BK181.out _) 2).trans rfl, (blk_cell (blk_alloc BK180.out _) 0).trans rfl, (blk_cell (blk_alloc BK180.out _) 1).trans rfl, (blk_cell (blk_alloc BK180.out _) 2).trans rfl, (World.cell?_alloc_lt _ _ _ (World.block_lt_of_cell? _ _ (hHeld.2.2.2.2.2.2.1))).trans (hHeld.2.2.2.2.2.2.1), (World.cell?_alloc_lt _ _ _ (World.block_lt_of_cell? _ _ (hHeld.2.2.2.2.2.2.2))).trans (hHeld.2.2.2.2.2.2.2)⟩ (fun hHeld => ?_)
                              clear hK K
                              refine norm_ (a' := ?_) ?_ ?_
                              rotate_left
                              ·show Act.put _ (some 130) _ = _
                               simp only [Act.put, List.setIfInBounds_toArray, List.set_cons_zero, List.set_cons_succ, i64_w, i32_w]
                               rfl
                              refine last_ (i := 18) (N := some 131) #[true, true, true, true, true, true, true, true, true, true, true, true, true, true, true, true, true, true, true, false, false] rfl rfl (one_of HT_.out (by kernel_rfl)) (by decide) (fun K hK => ?_)
                              refine Kd.R_append_step k38 (w0 := w) w.heap.size (by rfl) (.tmp 114) (.tmp 130) 23 38 (.agg #[(.int .i64 0), (.int .i64 0), (.int .i64 0)]) 24 rfl Tryz.underlying23 info38 rfl (by decide) (by omega) u182002 x182002_3 (⟨rd t171 x12_2, rd t171 x13_3, t196⟩ : S38) [.int .i64 (rd t171 x12_2), .int .i64 (rd t171 x13_3), .int .i64 t196] (fun k_ => some k_ ≠ (.slice Ao28 t166.length co28 : Value).ownBlock) (fun _ => False) rfl rfl ?aP (fun _ hk => hk.elim) ?aF ?aO ?aB ?aS ?aL ?_
                              (case aP => exact k38_mkM _ _ _ (⟨rd t171 x12_2, rd t171 x13_3, t196⟩ : S38))
                              (case aB => exact (by repeat (first | (with_reducible first | exact HB.out | apply below_alloc | apply pw_below_drewN | apply below_drew1 | refine below_set ?_ GE159.out | refine below_set ?_ GE170.out | refine below_set ?_ GE180.out | refine below_set ?_ GE181.out) | exact HB.out)))
                              (case aF => exact (fun k_ hk => Kd.fresh' (Kd.R_lt (by (with_reducible repeat (first | apply Kd.R_alloc | apply Kd.R_drewN | apply Kd.R_drew)); exact HO_171002.out)) k_ hk))
                              (case aO => exact (by (with_reducible repeat (first | apply Kd.R_alloc | apply Kd.R_drewN | apply Kd.R_drew)); exact HO_182002.out))
                              (case aS => exact (below_size (by repeat (first | (with_reducible first | exact HB.out | apply below_alloc | apply pw_below_drewN | apply below_drew1 | refine below_set ?_ GE159.out | refine below_set ?_ GE170.out | refine below_set ?_ GE180.out | refine below_set ?_ GE181.out) | exact HB.out))))
                              (case aL => have := LMc81.out; omega)
                              intro v198 w88 ho hb hg hat
                              rw [← Ny197.out] at ho
                              have n0_ := Aside0.mk (Kd.R_over' (by (with_reducible repeat (first | apply Kd.R_alloc | apply Kd.R_drewN | apply Kd.R_drew)); exact HO_171001.out) (Kd.R_typed (by (with_reducible repeat (first | apply Kd.R_alloc | apply Kd.R_drewN | apply Kd.R_drew)); exact HO_182002.out)) (by decide) hg)
                              have n1_ := Aside0.mk (Kd.R_after (ok := (fun _ => True)) (by (with_reducible repeat (first | apply Kd.R_alloc | apply Kd.R_drewN | apply Kd.R_drew)); exact Kd.R_mono HO_171002.out (fun _ hk => ⟨trivial, hk⟩)) hg hat)
                              have n2_ := Aside0.mk (Kd.R_over' (by (with_reducible repeat (first | apply Kd.R_alloc | apply Kd.R_drewN | apply Kd.R_drew)); exact HO_181000.out) (Kd.R_typed (by (with_reducible repeat (first | apply Kd.R_alloc | apply Kd.R_drewN | apply Kd.R_drew)); exact HO_182002.out)) (by decide) hg)
                              have n3_ := Aside0.mk (Kd.S_over' (by (with_reducible repeat (first | apply Kd.S_alloc | apply Kd.S_drewN | apply Kd.S_drew)); exact HO_181001.out) (Kd.R_typed (by (with_reducible repeat (first | apply Kd.R_alloc | apply Kd.R_drewN | apply Kd.R_drew)); exact HO_182002.out)) (by decide) hg)
                              have n4_ := Aside0.mk (Kd.S_over' (by (with_reducible repeat (first | apply Kd.S_alloc | apply Kd.S_drewN | apply Kd.S_drew)); exact HO_181002.out) (Kd.R_typed (by (with_reducible repeat (first | apply Kd.R_alloc | apply Kd.R_drewN | apply Kd.R_drew)); exact HO_182002.out)) (by decide) hg)
                              have n5_ := Aside0.mk (Kd.R_over' (by (with_reducible repeat (first | apply Kd.R_alloc | apply Kd.R_drewN | apply Kd.R_drew)); exact HO_182001.out) (Kd.R_typed (by (with_reducible repeat (first | apply Kd.R_alloc | apply Kd.R_drewN | apply Kd.R_drew)); exact HO_182002.out)) (by decide) hg)
                              have n6_ := Aside0.mk (blk_grown (g := gb159) (o := .cells #[.bool a0_0, .slice A0_1 l0_1.length c0_1, .slice A0_2 l0_2.length c0_2] 25 (0, 0)) (by (with_reducible repeat (first | refine blk_drewN ?_ _ | refine blk_drew ?_ | refine blk_alloc ?_ _)); exact BK159.out) hg (Kd.R_ne HO_182002.out BK159.out (by decide)))
                              have n7_ := Aside0.mk (blk_grown (g := gb170) (o := .cells #[.bool t162, .slice Ao27 t163.length co27, .slice Ao28 t166.length co28] 25 (0, 0)) (by (with_reducible repeat (first | refine blk_drewN ?_ _ | refine blk_drew ?_ | refine blk_alloc ?_ _)); exact BK170.out) hg (Kd.R_ne HO_182002.out BK170.out (by decide)))
                              have n8_ := Aside0.mk (blk_grown (g := gb180) (o := .cells #[.slice (some ad194) t171.length co32, .slice (some ad184) t174.length co36, .slice (some ad190) t177.length co37] 33 (0, 0)) (by (with_reducible repeat (first | refine blk_drewN ?_ _ | refine blk_drew ?_ | refine blk_alloc ?_ _)); exact BK180.out) hg (Kd.R_ne HO_182002.out BK180.out (by decide)))
                              have n9_ := Aside0.mk (blk_grown (g := gb181) (o := .cells #[.bool false, .slice (some ad194) t171.length co32, u182002] 25 (0, 0)) (by (with_reducible repeat (first | refine blk_drewN ?_ _ | refine blk_drew ?_ | refine blk_alloc ?_ _)); exact BK181.out) hg (Kd.R_ne HO_182002.out BK181.out (by decide)))
                              have n10_ := Aside0.mk (Kd.R_over' (by (with_reducible repeat (first | apply Kd.R_alloc | apply Kd.R_drewN | apply Kd.R_drew)); exact HL188_0.out) (Kd.R_typed (by (with_reducible repeat (first | apply Kd.R_alloc | apply Kd.R_drewN | apply Kd.R_drew)); exact HO_182002.out)) (by decide) hg)
                              have n11_ := Aside0.mk (Kd.R_over' (by (with_reducible repeat (first | apply Kd.R_alloc | apply Kd.R_drewN | apply Kd.R_drew)); exact HL190_0.out) (Kd.R_typed (by (with_reducible repeat (first | apply Kd.R_alloc | apply Kd.R_drewN | apply Kd.R_drew)); exact HO_182002.out)) (by decide) hg)
                              have n12_ := Aside0.mk (Kd.R_over' (by (with_reducible repeat (first | apply Kd.R_alloc | apply Kd.R_drewN | apply Kd.R_drew)); exact HL192_0.out) (Kd.R_typed (by (with_reducible repeat (first | apply Kd.R_alloc | apply Kd.R_drewN | apply Kd.R_drew)); exact HO_182002.out)) (by decide) hg)
                              have n13_ := Aside0.mk (hb)
                              have n14_ := Aside0.mk (ho)
                              clear HO_171001
                              clear HO_171002
                              clear HO_181000
                              clear HO_181001
                              clear HO_181002
                              clear HO_182001
                              clear BK159
                              clear BK170
                              clear BK180
                              clear BK181
                              clear HL188_0
                              clear HL190_0
                              clear HL192_0
                              clear HB
                              clear HO_182002
                              have HO_171001 := n0_
                              have HO_171002 := n1_
                              have HO_181000 := n2_
                              have HO_181001 := n3_
                              have HO_181002 := n4_
                              have HO_182001 := n5_
                              have BK159 := n6_
                              have BK170 := n7_
                              have BK180 := n8_
                              have BK181 := n9_
                              have HL188_0 := n10_
                              have HL190_0 := n11_
                              have HL192_0 := n12_
                              have HB := n13_
                              have HO199 := n14_
                              clear n0_ n1_ n2_ n3_ n4_ n5_ n6_ n7_ n8_ n9_ n10_ n11_ n12_ n13_ n14_
                              clear ho hb hg hat
                              obtain ⟨Ao89, co89, eo89⟩ := Kd.R_slice HO199.out
                              (first | subst eo89 | (injection eo89 with f1_ f2_ f3_; have f4_ := f1_.symm; have f5_ := f3_.symm; clear f1_ f2_ f3_; subst f4_; subst f5_))
                              refine hK.out _ _ ?_
                              clear hK K
                              refine norm_ (a' := ?_) ?_ ?_
                              rotate_left
                              ·show Act.put _ (some 131) _ = _
                               simp only [Act.put, List.setIfInBounds_toArray, List.set_cons_zero, List.set_cons_succ, i64_w, i32_w]
                               rfl
                              refine pure_ (i := 19) (N := some 132) (v := ?_) (a' := ?_) #[true, true, true, true, true, true, true, true, true, true, true, true, true, true, true, true, true, true, true, true, false] rfl rfl (any_of HT_.out (by kernel_rfl)) (fun _ _ _ h => h) (Or.inl ⟨by rfl, ?_⟩) ?_ ?_
                              rotate_left
                              ·intro w'
                               go_simp
                               with_reducible rfl
                              rotate_left
                              ·simp only [Act.put, List.setIfInBounds_toArray, List.set_cons_zero, List.set_cons_succ, i64_w, i32_w]
                               rfl
                              refine last_ (i := 20) (N := none) #[true, true, true, true, true, true, true, true, true, true, true, true, true, true, true, true, true, true, true, true, true] rfl rfl (one_of HT_.out (by kernel_rfl)) (by decide) (fun K hK => ?_)
                              have hs90 : w88.cell? ⟨gb181, 2, none⟩ = some (u182002) := (blk_cell BK181.out 2).trans rfl
                              have hfs90 := blk_frozen BK181.out 2
                              have hns90_0 := NB159_181.out
                              have hns90_1 := NB170_181.out
                              have hns90_2 := NB180_181.out
                              have hms90_0 := NB181_159.out
                              have hms90_1 := NB181_170.out
                              have hms90_2 := NB181_180.out
                              refine skip_ (w1 := ?_) (by rfl) rfl ?_ ?_
                              rotate_left
                              ·go_simp
                               rfl
                              refine hK.out _ _ ?_
                              clear hK K
                              refine done_ (done_of HT_.out (by kernel_rfl)) ?_
                              try go_wp2
                              go_roundg kj52
                              case measure => have := HJ5.out; have := HK2.out; have := HK3.out; have := HJ52.out; omega
                              case rel => exact ⟨(wrap64 (x13_3 + 1)), (y197), (.slice Ao89 y197.length co89), (by first | rfl | (simp; done) | (simp [*]; done)), H', ⟨by have := HJ5.out; have := HK2.out; have := HK3.out; have := HJ52.out; omega⟩, ⟨by (with_reducible repeat (first | apply Kd.R_alloc | apply Kd.R_drewN | apply Kd.R_drew)); exact Kd.R_mono (Kd.R_far (p := ⟨gb181, 2, none⟩) (Kd.R_types HO_171001.out BK181.out (by decide)) (fun _ hk => hk.2) (.slice Ao89 y197.length co89)) (fun _ hk => ⟨hk.1.1, hk.1.2⟩)⟩, ⟨by (with_reducible repeat (first | apply Kd.R_alloc | apply Kd.R_drewN | apply Kd.R_drew)); exact Kd.R_mono (Kd.R_far (p := ⟨gb181, 2, none⟩) (Kd.R_types HO_171002.out BK181.out (by decide)) (fun _ hk => hk.2) (.slice Ao89 y197.length co89)) (fun _ hk => hk.1.2)⟩, ⟨by (with_reducible repeat (first | apply Kd.R_alloc | apply Kd.R_drewN | apply Kd.R_drew)); exact Kd.R_mono (Kd.R_far (p := ⟨gb181, 2, none⟩) (Kd.R_types HO_181000.out BK181.out (by decide)) (fun _ hk => hk.2) (.slice Ao89 y197.length co89)) (fun _ hk => hk.1)⟩, ⟨by (with_reducible repeat (first | apply Kd.S_alloc | apply Kd.S_drewN | apply Kd.S_drew)); exact Kd.S_mono (Kd.S_far (p := ⟨gb181, 2, none⟩) (Kd.S_types HO_181001.out BK181.out (by decide)) (fun _ hk => hk.2) (.slice Ao89 y197.length co89)) (fun _ hk => trivial)⟩, ⟨by (with_reducible repeat (first | apply Kd.S_alloc | apply Kd.S_drewN | apply Kd.S_drew)); exact Kd.S_mono (Kd.S_far (p := ⟨gb181, 2, none⟩) (Kd.S_types HO_181002.out BK181.out (by decide)) (fun _ hk => hk.2) (.slice Ao89 y197.length co89)) (fun _ hk => ⟨hk.1.1, ⟨hk.1.2.1, hk.1.2.2⟩⟩)⟩, ⟨by (with_reducible repeat (first | apply Kd.R_alloc | apply Kd.R_drewN | apply Kd.R_drew)); exact Kd.R_mono (Kd.R_far (p := ⟨gb181, 2, none⟩) (Kd.R_types HO_182001.out BK181.out (by decide)) (fun _ hk => hk.2) (.slice Ao89 y197.length co89)) (fun _ hk => hk.1)⟩, ⟨by (with_reducible repeat (first | apply Kd.R_alloc | apply Kd.R_drewN | apply Kd.R_drew)); exact Kd.R_mono (Kd.R_far (p := ⟨gb181, 2, none⟩) (Kd.R_types HO199.out BK181.out (by decide)) (fun _ hk => hk.2) (.slice Ao89 y197.length co89)) (fun _ hk => hk.1)⟩, ⟨by (with_reducible repeat (first | refine blk_drewN ?_ _ | refine blk_drew ?_ | refine blk_alloc ?_ _)); refine blk_far ?_ NB159_181.out _; (with_reducible repeat (first | refine blk_drewN ?_ _ | refine blk_drew ?_ | refine blk_alloc ?_ _)); exact BK159.out⟩, ⟨by (with_reducible repeat (first | refine blk_drewN ?_ _ | refine blk_drew ?_ | refine blk_alloc ?_ _)); refine blk_far ?_ NB170_181.out _; (with_reducible repeat (first | refine blk_drewN ?_ _ | refine blk_drew ?_ | refine blk_alloc ?_ _)); exact BK170.out⟩, ⟨by (with_reducible repeat (first | refine blk_drewN ?_ _ | refine blk_drew ?_ | refine blk_alloc ?_ _)); refine blk_far ?_ NB180_181.out _; (with_reducible repeat (first | refine blk_drewN ?_ _ | refine blk_drew ?_ | refine blk_alloc ?_ _)); exact BK180.out⟩, ⟨by (with_reducible repeat (first | refine blk_drewN ?_ _ | refine blk_drew ?_ | refine blk_alloc ?_ _)); refine blk_put (cs := #[.bool false, .slice (some ad194) t171.length co32, u182002]) ?_ 2 _ rfl; (with_reducible repeat (first | refine blk_drewN ?_ _ | refine blk_drew ?_ | refine blk_alloc ?_ _)); exact BK181.out⟩, ⟨by repeat (first | (with_reducible first | exact HB.out | apply below_alloc | apply pw_below_drewN | apply below_drew1 | refine below_set ?_ GE159.out | refine below_set ?_ GE170.out | refine below_set ?_ GE180.out | refine below_set ?_ GE181.out) | exact HB.out)⟩⟩
                             ·rw [if_neg c81] at H
                              exact absurd H (by simp)
                            ·rw [if_neg c79] at H
                             exact absurd H (by simp)
                           ·rw [if_neg c78] at H
                            exact absurd H (by simp)
                          ·replace c77 := Bool.eq_false_iff.mpr c77
                           subst c77
                           have H1 : (if x12_2 < (t171.length : Int) then (if x13_3 < (t171.length : Int) then ((laws_merged.f x14_52 (rd (rd_L4 t177 x13_3) x12_2) (wrap64 (Int.tmod a2 3))).bind fun t204 => (if x182002_3.length < 5864062014805 then (laws_FnUndirectMerged.l1 kj52 a1 (wrap64 (Int.tmod a2 3)) t169 x12_2 (wrap64 (x13_3 + 1)) t162 t163 t166 t171 t174 t177 false t171 (x182002_3 ++ [(⟨rd t171 x12_2, rd t171 x13_3, t204⟩ : S38)])) else (none))) else (none)) else (none)) = some r := by rw [if_neg (show ¬ (false = true) by decide)] at H; exact H
                           clear H
                           have H := H1
                           clear H1
                           by_cases c91 : x12_2 < (t171.length : Int)
                           ·rw [if_pos c91] at H
                            have c91b0 : decide (x12_2 < (t171.length : Int)) = true := decide_eq_true c91
                            clear c91
                            by_cases c92 : x13_3 < (t171.length : Int)
                            ·rw [if_pos c92] at H
                             have c92b0 : decide (x13_3 < (t171.length : Int)) = true := decide_eq_true c92
                             clear c92
                             replace H := Option.bind_eq_some_iff.mp H
                             obtain ⟨t204, A930, H⟩ := H
                             replace H : (if x182002_3.length < 5864062014805 then (laws_FnUndirectMerged.l1 kj52 a1 (wrap64 (Int.tmod a2 3)) t169 x12_2 (wrap64 (x13_3 + 1)) t162 t163 t166 t171 t174 t177 false t171 (x182002_3 ++ [(⟨rd t171 x12_2, rd t171 x13_3, t204⟩ : S38)])) else (none)) = some r := H
                             have A93 := Aside0.mk A930
                             clear A930
                             by_cases c94 : x182002_3.length < 5864062014805
                             ·rw [if_pos c94] at H
                              have LMc94 := Aside0.mk c94
                              clear c94
                              obtain ⟨y205, hy205⟩ : ∃ y_ : List (S38), y_ = (x182002_3 ++ [(⟨rd t171 x12_2, rd t171 x13_3, t204⟩ : S38)]) := ⟨_, rfl⟩
                              replace H : (laws_FnUndirectMerged.l1 kj52 a1 (wrap64 (Int.tmod a2 3)) t169 x12_2 (wrap64 (x13_3 + 1)) t162 t163 t166 t171 t174 t177 false t171 y205) = some r := by first | (rw [hy205]; with_reducible exact H) | (have H2_ := (Option.bind_some _ _).symm.trans H; rw [hy205]; with_reducible exact H2_) | (have H2_ := (Option.bind_some _ _).symm.trans H; with_reducible exact H2_) | with_reducible exact H | (rw [hy205]; exact H) | exact H
                              have Ny205 := Aside0.mk hy205
                              clear hy205
                              have H' := Aside0.mk H
                              clear H
                              have hnb95 := NB180_159.out
                              have hnc95 := NB159_180.out
                              have hnb96 := NB180_170.out
                              have hnc96 := NB170_180.out
                              have hnb97 := NB180_181.out
                              have hnc97 := NB181_180.out
                              have hcz98_0 : wc.cell? ⟨gb180, 0, none⟩ = some (.slice Ao32 t171.length co32) := (blk_cell BK180.out 0).trans rfl
                              have hcz98_1 : wc.cell? ⟨gb180, 1, none⟩ = some (.slice (some ad184) t174.length co36) := (blk_cell BK180.out 1).trans rfl
                              have hcz98_2 : wc.cell? ⟨gb180, 2, none⟩ = some (.slice Ao37 t177.length co37) := (blk_cell BK180.out 2).trans rfl
                              have hfz98_0 := blk_frozen BK180.out 0
                              have hfz98_1 := blk_frozen BK180.out 1
                              have hfz98_2 := blk_frozen BK180.out 2
                              have p188 : 0 ≤ (x13_3 : Int) := of_decide_eq_true (by first | (with_reducible assumption) | assumption)
                              have q188 : x13_3 < (t174.length : Int) := of_decide_eq_true (by first | (with_reducible assumption) | assumption)
                              obtain ⟨ad188, A188_0, c188_0, e188, hx188_0, hl188_0, hi188_0⟩ := at_L3 (Kd.S_reads' HO_181001.out).2.2 x13_3 p188 q188
                              obtain rfl : ad184 = ad188 := (by injection e188)
                              obtain ⟨ce188, hce188, hMe188, hcc188⟩ := Kd.S_get HO_181001.out [] x13_3 p188 (by first | exact q188 | exact of_decide_eq_true (by first | (with_reducible assumption) | assumption) | (have e_ := (Kd.S_reads' HO_181001.out).1; omega))
                              obtain ⟨ve188_0, rfl, ge188_0⟩ := hMe188
                              have hv188_0 := hcc188 0 _ rfl
                              rw [Nat.add_zero, show ((Kd.slice 4 Kd.bool)).sz = 1 from rfl, Nat.mul_one] at hv188_0
                              replace hv188_0 := Option.some.inj (hv188_0.symm.trans hx188_0)
                              rw [hv188_0] at ge188_0
                              have HL188_0 := Aside0.mk (show Kd.R Kd.bool 4 _ _ _ _ (rd_L3 t174 x13_3) from ge188_0)
                              clear hv188_0 ge188_0
                              clear hcc188 hce188
                              have HR188_0 := Aside0.mk hi188_0
                              have HC188_0 := Aside0.mk hl188_0
                              clear hi188_0 hl188_0
                              replace p188 := eq_true p188
                              replace q188 := eq_true q188
                              have p189 : 0 ≤ (x12_2 : Int) := of_decide_eq_true (by first | (with_reducible assumption) | assumption)
                              have q189 : x12_2 < ((rd_L3 t174 x13_3).length : Int) := of_decide_eq_true (by first | (with_reducible assumption) | assumption)
                              obtain ⟨ad189, e189, hx189_0⟩ := Kd.at_bool (by repeat (first | (with_reducible exact HR188_0.out) | (with_reducible refine Kd.C_alloc ?_ _) | (with_reducible refine Kd.C_drewN ?_ _) | (with_reducible refine Kd.C_drew ?_) | exact HR188_0.out)) x12_2 p189 q189
                              (try rw [← Nbq70.out] at hx189_0)
                              (try rw [← Nbq76.out] at hx189_0)
                              cases e189
                              replace p189 := eq_true p189
                              replace q189 := eq_true q189
                              have p190 : 0 ≤ (x13_3 : Int) := of_decide_eq_true (by first | (with_reducible assumption) | assumption)
                              have q190 : x13_3 < (t177.length : Int) := of_decide_eq_true (by first | (with_reducible assumption) | assumption)
                              obtain ⟨ad190, A190_0, c190_0, e190, hx190_0, hl190_0, hi190_0⟩ := at_L4 (Kd.S_reads' HO_181002.out).2.2 x13_3 p190 q190
                              cases e190
                              obtain ⟨ce190, hce190, hMe190, hcc190⟩ := Kd.S_get HO_181002.out [] x13_3 p190 (by first | exact q190 | exact of_decide_eq_true (by first | (with_reducible assumption) | assumption) | (have e_ := (Kd.S_reads' HO_181002.out).1; omega))
                              obtain ⟨ve190_0, rfl, ge190_0⟩ := hMe190
                              have hv190_0 := hcc190 0 _ rfl
                              rw [Nat.add_zero, show ((Kd.slice 3 (Kd.int .i64))).sz = 1 from rfl, Nat.mul_one] at hv190_0
                              replace hv190_0 := Option.some.inj (hv190_0.symm.trans hx190_0)
                              rw [hv190_0] at ge190_0
                              have HL190_0 := Aside0.mk (show Kd.R (Kd.int .i64) 3 _ _ _ _ (rd_L4 t177 x13_3) from ge190_0)
                              clear hv190_0 ge190_0
                              clear hcc190 hce190
                              have HR190_0 := Aside0.mk hi190_0
                              have HC190_0 := Aside0.mk hl190_0
                              clear hi190_0 hl190_0
                              replace p190 := eq_true p190
                              replace q190 := eq_true q190
                              have p191 : 0 ≤ (x12_2 : Int) := of_decide_eq_true (by first | (with_reducible assumption) | assumption)
                              have q191 : x12_2 < ((rd_L4 t177 x13_3).length : Int) := of_decide_eq_true (by first | (with_reducible assumption) | assumption)
                              obtain ⟨ad191, e191, hx191_0⟩ := Kd.at_int (by repeat (first | (with_reducible exact HR190_0.out) | (with_reducible refine Kd.C_alloc ?_ _) | (with_reducible refine Kd.C_drewN ?_ _) | (with_reducible refine Kd.C_drew ?_) | exact HR190_0.out)) x12_2 p191 q191
                              cases e191
                              replace p191 := eq_true p191
                              replace q191 := eq_true q191
                              have p192 : 0 ≤ (x12_2 : Int) := of_decide_eq_true (by first | (with_reducible assumption) | assumption)
                              have q192 : x12_2 < (t174.length : Int) := of_decide_eq_true (by first | (with_reducible assumption) | assumption)
                              obtain ⟨ad192, A192_0, c192_0, e192, hx192_0, hl192_0, hi192_0⟩ := at_L3 (Kd.S_reads' HO_181001.out).2.2 x12_2 p192 q192
                              obtain rfl : ad184 = ad192 := (by injection e192)
                              obtain ⟨ce192, hce192, hMe192, hcc192⟩ := Kd.S_get HO_181001.out [] x12_2 p192 (by first | exact q192 | exact of_decide_eq_true (by first | (with_reducible assumption) | assumption) | (have e_ := (Kd.S_reads' HO_181001.out).1; omega))
                              obtain ⟨ve192_0, rfl, ge192_0⟩ := hMe192
                              have hv192_0 := hcc192 0 _ rfl
                              rw [Nat.add_zero, show ((Kd.slice 4 Kd.bool)).sz = 1 from rfl, Nat.mul_one] at hv192_0
                              replace hv192_0 := Option.some.inj (hv192_0.symm.trans hx192_0)
                              rw [hv192_0] at ge192_0
                              have HL192_0 := Aside0.mk (show Kd.R Kd.bool 4 _ _ _ _ (rd_L3 t174 x12_2) from ge192_0)
                              clear hv192_0 ge192_0
                              clear hcc192 hce192
                              have HR192_0 := Aside0.mk hi192_0
                              have HC192_0 := Aside0.mk hl192_0
                              clear hi192_0 hl192_0
                              replace p192 := eq_true p192
                              replace q192 := eq_true q192
                              have p193 : 0 ≤ (x13_3 : Int) := of_decide_eq_true (by first | (with_reducible assumption) | assumption)
                              have q193 : x13_3 < ((rd_L3 t174 x12_2).length : Int) := of_decide_eq_true (by first | (with_reducible assumption) | assumption)
                              obtain ⟨ad193, e193, hx193_0⟩ := Kd.at_bool (by repeat (first | (with_reducible exact HR192_0.out) | (with_reducible refine Kd.C_alloc ?_ _) | (with_reducible refine Kd.C_drewN ?_ _) | (with_reducible refine Kd.C_drew ?_) | exact HR192_0.out)) x13_3 p193 q193
                              (try rw [← Nbq70.out] at hx193_0)
                              (try rw [← Nbq76.out] at hx193_0)
                              cases e193
                              replace p193 := eq_true p193
                              replace q193 := eq_true q193
                              have p200 : 0 ≤ (x13_3 : Int) := of_decide_eq_true (by first | (with_reducible assumption) | assumption)
                              have q200 : x13_3 < (t174.length : Int) := of_decide_eq_true (by first | (with_reducible assumption) | assumption)
                              obtain ⟨ad200, A200_0, c200_0, e200, hx200_0, hl200_0, hi200_0⟩ := at_L3 (Kd.S_reads' HO_181001.out).2.2 x13_3 p200 q200
                              obtain rfl : ad184 = ad200 := (by injection e200)
                              obtain ⟨ce200, hce200, hMe200, hcc200⟩ := Kd.S_get HO_181001.out [] x13_3 p200 (by first | exact q200 | exact of_decide_eq_true (by first | (with_reducible assumption) | assumption) | (have e_ := (Kd.S_reads' HO_181001.out).1; omega))
                              obtain ⟨ve200_0, rfl, ge200_0⟩ := hMe200
                              have hv200_0 := hcc200 0 _ rfl
                              rw [Nat.add_zero, show ((Kd.slice 4 Kd.bool)).sz = 1 from rfl, Nat.mul_one] at hv200_0
                              replace hv200_0 := Option.some.inj (hv200_0.symm.trans hx200_0)
                              rw [hv200_0] at ge200_0
                              have HL200_0 := Aside0.mk (show Kd.R Kd.bool 4 _ _ _ _ (rd_L3 t174 x13_3) from ge200_0)
                              clear hv200_0 ge200_0
                              clear hcc200 hce200
                              have HR200_0 := Aside0.mk hi200_0
                              have HC200_0 := Aside0.mk hl200_0
                              clear hi200_0 hl200_0
                              replace p200 := eq_true p200
                              replace q200 := eq_true q200
                              have ea_ := Option.some.inj (hx188_0.symm.trans hx200_0)
                              injection ea_ with ea_ en_ ec_
                              subst ea_
                              subst ec_
                              clear en_
                              have p201 : 0 ≤ (x12_2 : Int) := of_decide_eq_true (by first | (with_reducible assumption) | assumption)
                              have q201 : x12_2 < ((rd_L3 t174 x13_3).length : Int) := of_decide_eq_true (by first | (with_reducible assumption) | assumption)
                              obtain ⟨ad201, e201, hx201_0⟩ := Kd.at_bool (by repeat (first | (with_reducible exact HR200_0.out) | (with_reducible refine Kd.C_alloc ?_ _) | (with_reducible refine Kd.C_drewN ?_ _) | (with_reducible refine Kd.C_drew ?_) | exact HR200_0.out)) x12_2 p201 q201
                              (try rw [← Nbq70.out] at hx201_0)
                              (try rw [← Nbq76.out] at hx201_0)
                              cases e201
                              replace p201 := eq_true p201
                              replace q201 := eq_true q201
                              try go_wp2
                              have n0_ := Aside0.mk (Kd.R_drew HO_171001.out)
                              have n1_ := Aside0.mk (Kd.R_drew HO_171002.out)
                              have n2_ := Aside0.mk (Kd.R_drew HO_181000.out)
                              have n3_ := Aside0.mk (Kd.S_drew HO_181001.out)
                              have n4_ := Aside0.mk (Kd.S_drew HO_181002.out)
                              have n5_ := Aside0.mk (Kd.R_drew HO_182001.out)
                              have n6_ := Aside0.mk (Kd.R_drew HO_182002.out)
                              have n7_ := Aside0.mk (Kd.R_drew HL188_0.out)
                              have n8_ := Aside0.mk (Kd.R_drew HL190_0.out)
                              have n9_ := Aside0.mk (Kd.R_drew HL192_0.out)
                              have n10_ := Aside0.mk (Kd.R_drew HL200_0.out)
                              have n11_ := Aside0.mk (blk_drew BK159.out)
                              have n12_ := Aside0.mk (blk_drew BK170.out)
                              have n13_ := Aside0.mk (blk_drew BK180.out)
                              have n14_ := Aside0.mk (blk_drew BK181.out)
                              have n15_ := Aside0.mk (Kd.C_drew HR184_0.out)
                              have n16_ := Aside0.mk (Kd.C_drew HR188_0.out)
                              have n17_ := Aside0.mk (Kd.C_drew HR190_0.out)
                              have n18_ := Aside0.mk (Kd.C_drew HR192_0.out)
                              have n19_ := Aside0.mk (Kd.C_drew HR200_0.out)
                              have n20_ := Aside0.mk (below_drew1 HB.out)
                              clear HO_171001
                              clear HO_171002
                              clear HO_181000
                              clear HO_181001
                              clear HO_181002
                              clear HO_182001
                              clear HO_182002
                              clear HL188_0
                              clear HL190_0
                              clear HL192_0
                              clear HL200_0
                              clear BK159
                              clear BK170
                              clear BK180
                              clear BK181
                              clear HR184_0
                              clear HR188_0
                              clear HR190_0
                              clear HR192_0
                              clear HR200_0
                              clear HB
                              have HO_171001 := n0_
                              have HO_171002 := n1_
                              have HO_181000 := n2_
                              have HO_181001 := n3_
                              have HO_181002 := n4_
                              have HO_182001 := n5_
                              have HO_182002 := n6_
                              have HL188_0 := n7_
                              have HL190_0 := n8_
                              have HL192_0 := n9_
                              have HL200_0 := n10_
                              have BK159 := n11_
                              have BK170 := n12_
                              have BK180 := n13_
                              have BK181 := n14_
                              have HR184_0 := n15_
                              have HR188_0 := n16_
                              have HR190_0 := n17_
                              have HR192_0 := n18_
                              have HR200_0 := n19_
                              have HB := n20_
                              clear n0_ n1_ n2_ n3_ n4_ n5_ n6_ n7_ n8_ n9_ n10_ n11_ n12_ n13_ n14_ n15_ n16_ n17_ n18_ n19_ n20_
                              have p202 : 0 ≤ (x12_2 : Int) := of_decide_eq_true (by first | (with_reducible assumption) | assumption)
                              have q202 : x12_2 < (t171.length : Int) := of_decide_eq_true (by first | (with_reducible assumption) | assumption)
                              obtain ⟨ad202, e202, hx202_0⟩ := Kd.at_int (Kd.R_reads' HO_181000.out).2.2 x12_2 p202 q202
                              cases e202
                              replace p202 := eq_true p202
                              replace q202 := eq_true q202
                              have p203 : 0 ≤ (x13_3 : Int) := of_decide_eq_true (by first | (with_reducible assumption) | assumption)
                              have q203 : x13_3 < (t171.length : Int) := of_decide_eq_true (by first | (with_reducible assumption) | assumption)
                              obtain ⟨ad203, e203, hx203_0⟩ := Kd.at_int (Kd.R_reads' HO_181000.out).2.2 x13_3 p203 q203
                              obtain rfl : ad202 = ad203 := (by injection e203)
                              replace p203 := eq_true p203
                              replace q203 := eq_true q203
                              refine start_ (n := 21) (S := fun w' => w'.cell? ⟨gb181, 0, none⟩ = some (.bool false) ∧ w'.cell? ⟨gb181, 1, none⟩ = some (.slice (some ad202) t171.length co32) ∧ w'.cell? ⟨gb181, 2, none⟩ = some (u182002) ∧ w'.cell? ⟨gb180, 0, none⟩ = some (.slice (some ad202) t171.length co32) ∧ w'.cell? ⟨gb180, 1, none⟩ = some (.slice (some ad184) t174.length co36) ∧ w'.cell? ⟨gb180, 2, none⟩ = some (.slice (some ad190) t177.length co37) ∧ w'.cell? (ad202.add (x12_2).toNat) = some (.int .i64 (rd t171 x12_2)) ∧ w'.cell? (ad202.add (x13_3).toNat) = some (.int .i64 (rd t171 x13_3))) (ds := [18, 20]) #[false, false, false, false, false, false, false, false, false, false, false, false, false, false, false, false, false, false, false, false, false] (by kernel_rfl) rfl rfl ⟨(blk_cell BK181.out 0).trans rfl, (blk_cell BK181.out 1).trans rfl, (blk_cell BK181.out 2).trans rfl, (blk_cell BK180.out 0).trans rfl, (blk_cell BK180.out 1).trans rfl, (blk_cell BK180.out 2).trans rfl, hx202_0, hx203_0⟩ (fun hHeld => ?_); refine with_tabW laws_FnUndirectMerged.tab21 laws_FnUndirectMerged.bits21 (fun HT_ HW_ => ?_)
                              generalize wc.drew = w99 at HO_171001 HO_171002 HO_181000 HO_181001 HO_181002 HO_182001 HO_182002 HL188_0 HL190_0 HL192_0 HL200_0 BK159 BK170 BK180 BK181 HR184_0 HR188_0 HR190_0 HR192_0 HR200_0 HB hx202_0 hx203_0 hHeld ⊢
                              refine pure_ (i := 0) (N := some 113) (v := ?_) (a' := ?_) #[true, false, false, false, false, false, false, false, false, false, false, false, false, false, false, false, false, false, false, false, false] rfl rfl (any_of HT_.out (by kernel_rfl)) (fun _ _ _ h => h) (Or.inl ⟨by rfl, ?_⟩) ?_ ?_
                              rotate_left
                              ·intro w'
                               go_simp
                               with_reducible rfl
                              rotate_left
                              ·simp only [Act.put, List.setIfInBounds_toArray, List.set_cons_zero, List.set_cons_succ, i64_w, i32_w]
                               rfl
                              refine pure_ (i := 2) (N := some 115) (v := ?_) (a' := ?_) #[true, false, true, false, false, false, false, false, false, false, false, false, false, false, false, false, false, false, false, false, false] rfl rfl (any_of HT_.out (by kernel_rfl)) (fun _ _ _ h => h) (Or.inl ⟨by rfl, ?_⟩) ?_ ?_
                              rotate_left
                              ·intro w'
                               go_simp
                               with_reducible rfl
                              rotate_left
                              ·simp only [Act.put, List.setIfInBounds_toArray, List.set_cons_zero, List.set_cons_succ, i64_w, i32_w]
                               rfl
                              refine pure_ (i := 4) (N := some 117) (v := ?_) (a' := ?_) #[true, false, true, false, true, false, false, false, false, false, false, false, false, false, false, false, false, false, false, false, false] rfl rfl (any_of HT_.out (by kernel_rfl)) (fun _ _ _ h => h) (Or.inl ⟨by rfl, ?_⟩) ?_ ?_
                              rotate_left
                              ·intro w'
                               go_simp
                               with_reducible rfl
                              rotate_left
                              ·simp only [Act.put, List.setIfInBounds_toArray, List.set_cons_zero, List.set_cons_succ, i64_w, i32_w]
                               rfl
                              refine pure_ (i := 7) (N := some 120) (v := ?_) (a' := ?_) #[true, false, true, false, true, false, false, true, false, false, false, false, false, false, false, false, false, false, false, false, false] rfl rfl (any_of HT_.out (by kernel_rfl)) (fun _ _ _ h => h) (Or.inl ⟨by rfl, ?_⟩) ?_ ?_
                              rotate_left
                              ·intro w'
                               go_simp
                               with_reducible rfl
                              rotate_left
                              ·simp only [Act.put, List.setIfInBounds_toArray, List.set_cons_zero, List.set_cons_succ, i64_w, i32_w]
                               rfl
                              refine pure_ (i := 9) (N := some 122) (v := ?_) (a' := ?_) #[true, false, true, false, true, false, false, true, false, true, false, false, false, false, false, false, false, false, false, false, false] rfl rfl (any_of HT_.out (by kernel_rfl)) (fun _ _ _ h => h) (Or.inl ⟨by rfl, ?_⟩) ?_ ?_
                              rotate_left
                              ·intro w'
                               go_simp
                               with_reducible rfl
                              rotate_left
                              ·simp only [Act.put, List.setIfInBounds_toArray, List.set_cons_zero, List.set_cons_succ, i64_w, i32_w]
                               rfl
                              refine pure_ (i := 12) (N := some 125) (v := ?_) (a' := ?_) #[true, false, true, false, true, false, false, true, false, true, false, false, true, false, false, false, false, false, false, false, false] rfl rfl (any_of HT_.out (by kernel_rfl)) (fun _ _ _ h => h) (Or.inl ⟨by rfl, ?_⟩) ?_ ?_
                              rotate_left
                              ·intro w'
                               go_simp
                               with_reducible rfl
                              rotate_left
                              ·simp only [Act.put, List.setIfInBounds_toArray, List.set_cons_zero, List.set_cons_succ, i64_w, i32_w]
                               rfl
                              refine pure_ (i := 13) (N := some 126) (v := ?_) (a' := ?_) #[true, false, true, false, true, false, false, true, false, true, false, false, true, true, false, false, false, false, false, false, false] rfl rfl (any_of HT_.out (by kernel_rfl)) (fun _ _ _ h => h) (Or.inl ⟨by rfl, ?_⟩) ?_ ?_
                              rotate_left
                              ·intro w'
                               go_simp
                               with_reducible rfl
                              rotate_left
                              ·simp only [Act.put, List.setIfInBounds_toArray, List.set_cons_zero, List.set_cons_succ, i64_w, i32_w]
                               rfl
                              refine pure_ (i := 14) (N := some 127) (v := ?_) (a' := ?_) #[true, false, true, false, true, false, false, true, false, true, false, false, true, true, true, false, false, false, false, false, false] rfl rfl (any_of HT_.out (by kernel_rfl)) (fun _ _ _ h => h) (Or.inl ⟨by rfl, ?_⟩) ?_ ?_
                              rotate_left
                              ·intro w'
                               go_simp
                               with_reducible rfl
                              rotate_left
                              ·simp only [Act.put, List.setIfInBounds_toArray, List.set_cons_zero, List.set_cons_succ, i64_w, i32_w]
                               rfl
                              refine take_ (i := 1) (N := some 114) (v := ?_) (a' := ?_) #[true, true, true, false, true, false, false, true, false, true, false, false, true, true, true, false, false, false, false, false, false] rfl rfl (take_ofW HT_.out HW_.out (by kernel_rfl)) (fun _ _ _ h => h) (Or.inl ⟨by rfl, ?_⟩) hHeld ?_ ?_
                              rotate_left
                              ·rintro w' ⟨s0, s1, s2, s3, s4, s5, s6, s7⟩
                               go_simp
                               with_reducible rfl
                              rotate_left
                              ·simp only [Act.put, List.setIfInBounds_toArray, List.set_cons_zero, List.set_cons_succ, i64_w, i32_w]
                               rfl
                              refine take_ (i := 3) (N := some 116) (v := ?_) (a' := ?_) #[true, true, true, true, true, false, false, true, false, true, false, false, true, true, true, false, false, false, false, false, false] rfl rfl (take_ofW HT_.out HW_.out (by kernel_rfl)) (fun _ _ _ h => h) (Or.inl ⟨by rfl, ?_⟩) hHeld ?_ ?_
                              rotate_left
                              ·rintro w' ⟨s0, s1, s2, s3, s4, s5, s6, s7⟩
                               go_simp
                               with_reducible rfl
                              rotate_left
                              ·simp only [Act.put, List.setIfInBounds_toArray, List.set_cons_zero, List.set_cons_succ, i64_w, i32_w]
                               rfl
                              refine pure_ (i := 5) (N := some 118) (v := ?_) (a' := ?_) #[true, true, true, true, true, true, false, true, false, true, false, false, true, true, true, false, false, false, false, false, false] rfl rfl (any_of HT_.out (by kernel_rfl)) (fun _ _ _ h => h) (Or.inl ⟨by rfl, ?_⟩) ?_ ?_
                              rotate_left
                              ·intro w'
                               go_simp
                               with_reducible rfl
                              rotate_left
                              ·simp only [Act.put, List.setIfInBounds_toArray, List.set_cons_zero, List.set_cons_succ, i64_w, i32_w]
                               rfl
                              refine take_ (i := 6) (N := some 119) (v := ?_) (a' := ?_) #[true, true, true, true, true, true, true, true, false, true, false, false, true, true, true, false, false, false, false, false, false] rfl rfl (take_ofW HT_.out HW_.out (by kernel_rfl)) (fun _ _ _ h => h) (Or.inl ⟨by rfl, ?_⟩) hHeld ?_ ?_
                              rotate_left
                              ·rintro w' ⟨s0, s1, s2, s3, s4, s5, s6, s7⟩
                               go_simp
                               with_reducible rfl
                              rotate_left
                              ·simp only [Act.put, List.setIfInBounds_toArray, List.set_cons_zero, List.set_cons_succ, i64_w, i32_w]
                               rfl
                              refine take_ (i := 8) (N := some 121) (v := ?_) (a' := ?_) #[true, true, true, true, true, true, true, true, true, true, false, false, true, true, true, false, false, false, false, false, false] rfl rfl (take_ofW HT_.out HW_.out (by kernel_rfl)) (fun _ _ _ h => h) (Or.inl ⟨by rfl, ?_⟩) hHeld ?_ ?_
                              rotate_left
                              ·rintro w' ⟨s0, s1, s2, s3, s4, s5, s6, s7⟩
                               go_simp
                               with_reducible rfl
                              rotate_left
                              ·simp only [Act.put, List.setIfInBounds_toArray, List.set_cons_zero, List.set_cons_succ, i64_w, i32_w]
                               rfl
                              refine pure_ (i := 10) (N := some 123) (v := ?_) (a' := ?_) #[true, true, true, true, true, true, true, true, true, true, true, false, true, true, true, false, false, false, false, false, false] rfl rfl (any_of HT_.out (by kernel_rfl)) (fun _ _ _ h => h) (Or.inl ⟨by rfl, ?_⟩) ?_ ?_
                              rotate_left
                              ·intro w'
                               go_simp
                               with_reducible rfl
                              rotate_left
                              ·simp only [Act.put, List.setIfInBounds_toArray, List.set_cons_zero, List.set_cons_succ, i64_w, i32_w]
                               rfl
                              refine take_ (i := 11) (N := some 124) (v := ?_) (a' := ?_) #[true, true, true, true, true, true, true, true, true, true, true, true, true, true, true, false, false, false, false, false, false] rfl rfl (take_ofW HT_.out HW_.out (by kernel_rfl)) (fun _ _ _ h => h) (Or.inl ⟨by rfl, ?_⟩) hHeld ?_ ?_
                              rotate_left
                              ·rintro w' ⟨s0, s1, s2, s3, s4, s5, s6, s7⟩
                               go_simp
                               with_reducible rfl
                              rotate_left
                              ·simp only [Act.put, List.setIfInBounds_toArray, List.set_cons_zero, List.set_cons_succ, i64_w, i32_w]
                               rfl
                              refine one_ (i := 15) (N := some 128) #[true, true, true, true, true, true, true, true, true, true, true, true, true, true, true, true, false, false, false, false, false] rfl rfl (one_of HT_.out (by kernel_rfl)) (by decide) (fun K hK => ?_)
                              refine goes_ Tryz.func14 (by kernel_rfl) rfl #[.int .i64 x14_52, .int .i64 (rd (rd_L4 t177 x13_3) x12_2), .int .i64 (wrap64 (Int.tmod a2 3))] (by rfl) rfl rfl (by (try simp only [List.map_toArray, List.map_cons, List.map_nil]); first | done | rfl | (simp only [List.length_drop, List.length_take]; rfl)) ?_
                              with_reducible refine (laws_merged.calls x14_52 (rd (rd_L4 t177 x13_3) x12_2) (wrap64 (Int.tmod a2 3)) t204 _ A93.out).mono ?_
                              rintro e w100 ⟨rfl, hb⟩
                              have HS6_ := (hb.cell (World.block_lt_of_cell? _ _ (hHeld.2.2.2.2.2.2.1))).trans (hHeld.2.2.2.2.2.2.1)
                              have HS7_ := (hb.cell (World.block_lt_of_cell? _ _ (hHeld.2.2.2.2.2.2.2))).trans (hHeld.2.2.2.2.2.2.2)
                              refine ⟨_, rfl, ?_⟩
                              have n0_ := Aside0.mk (Kd.R_below (by (with_reducible repeat (first | apply Kd.R_alloc | apply Kd.R_drewN | apply Kd.R_drew)); exact HO_171001.out) hb)
                              have n1_ := Aside0.mk (Kd.R_below (by (with_reducible repeat (first | apply Kd.R_alloc | apply Kd.R_drewN | apply Kd.R_drew)); exact HO_171002.out) hb)
                              have n2_ := Aside0.mk (Kd.R_below (by (with_reducible repeat (first | apply Kd.R_alloc | apply Kd.R_drewN | apply Kd.R_drew)); exact HO_181000.out) hb)
                              have n3_ := Aside0.mk (Kd.S_below (by (with_reducible repeat (first | apply Kd.S_alloc | apply Kd.S_drewN | apply Kd.S_drew)); exact HO_181001.out) hb)
                              have n4_ := Aside0.mk (Kd.S_below (by (with_reducible repeat (first | apply Kd.S_alloc | apply Kd.S_drewN | apply Kd.S_drew)); exact HO_181002.out) hb)
                              have n5_ := Aside0.mk (Kd.R_below (by (with_reducible repeat (first | apply Kd.R_alloc | apply Kd.R_drewN | apply Kd.R_drew)); exact HO_182001.out) hb)
                              have n6_ := Aside0.mk (Kd.R_below (by (with_reducible repeat (first | apply Kd.R_alloc | apply Kd.R_drewN | apply Kd.R_drew)); exact HO_182002.out) hb)
                              have n7_ := Aside0.mk (Kd.R_below (by (with_reducible repeat (first | apply Kd.R_alloc | apply Kd.R_drewN | apply Kd.R_drew)); exact HL188_0.out) hb)
                              have n8_ := Aside0.mk (Kd.R_below (by (with_reducible repeat (first | apply Kd.R_alloc | apply Kd.R_drewN | apply Kd.R_drew)); exact HL190_0.out) hb)
                              have n9_ := Aside0.mk (Kd.R_below (by (with_reducible repeat (first | apply Kd.R_alloc | apply Kd.R_drewN | apply Kd.R_drew)); exact HL192_0.out) hb)
                              have n10_ := Aside0.mk (Kd.R_below (by (with_reducible repeat (first | apply Kd.R_alloc | apply Kd.R_drewN | apply Kd.R_drew)); exact HL200_0.out) hb)
                              have n11_ := Aside0.mk (blk_below (g := gb159) (o := .cells #[.bool a0_0, .slice A0_1 l0_1.length c0_1, .slice A0_2 l0_2.length c0_2] 25 (0, 0)) (by (with_reducible repeat (first | refine blk_drewN ?_ _ | refine blk_drew ?_ | refine blk_alloc ?_ _)); exact BK159.out) hb)
                              have n12_ := Aside0.mk (blk_below (g := gb170) (o := .cells #[.bool t162, .slice Ao27 t163.length co27, .slice Ao28 t166.length co28] 25 (0, 0)) (by (with_reducible repeat (first | refine blk_drewN ?_ _ | refine blk_drew ?_ | refine blk_alloc ?_ _)); exact BK170.out) hb)
                              have n13_ := Aside0.mk (blk_below (g := gb180) (o := .cells #[.slice (some ad202) t171.length co32, .slice (some ad184) t174.length co36, .slice (some ad190) t177.length co37] 33 (0, 0)) (by (with_reducible repeat (first | refine blk_drewN ?_ _ | refine blk_drew ?_ | refine blk_alloc ?_ _)); exact BK180.out) hb)
                              have n14_ := Aside0.mk (blk_below (g := gb181) (o := .cells #[.bool false, .slice (some ad202) t171.length co32, u182002] 25 (0, 0)) (by (with_reducible repeat (first | refine blk_drewN ?_ _ | refine blk_drew ?_ | refine blk_alloc ?_ _)); exact BK181.out) hb)
                              have n15_ := Aside0.mk (Kd.C_below (by repeat (first | (with_reducible exact HR184_0.out) | (with_reducible refine Kd.C_alloc ?_ _) | (with_reducible refine Kd.C_drewN ?_ _) | (with_reducible refine Kd.C_drew ?_) | exact HR184_0.out)) hb)
                              have n16_ := Aside0.mk (Kd.C_below (by repeat (first | (with_reducible exact HR188_0.out) | (with_reducible refine Kd.C_alloc ?_ _) | (with_reducible refine Kd.C_drewN ?_ _) | (with_reducible refine Kd.C_drew ?_) | exact HR188_0.out)) hb)
                              have n17_ := Aside0.mk (Kd.C_below (by repeat (first | (with_reducible exact HR190_0.out) | (with_reducible refine Kd.C_alloc ?_ _) | (with_reducible refine Kd.C_drewN ?_ _) | (with_reducible refine Kd.C_drew ?_) | exact HR190_0.out)) hb)
                              have n18_ := Aside0.mk (Kd.C_below (by repeat (first | (with_reducible exact HR192_0.out) | (with_reducible refine Kd.C_alloc ?_ _) | (with_reducible refine Kd.C_drewN ?_ _) | (with_reducible refine Kd.C_drew ?_) | exact HR192_0.out)) hb)
                              have n19_ := Aside0.mk (Kd.C_below (by repeat (first | (with_reducible exact HR200_0.out) | (with_reducible refine Kd.C_alloc ?_ _) | (with_reducible refine Kd.C_drewN ?_ _) | (with_reducible refine Kd.C_drew ?_) | exact HR200_0.out)) hb)
                              have n20_ := Aside0.mk (below_step (by repeat (first | (with_reducible first | exact HB.out | apply below_alloc | apply pw_below_drewN | apply below_drew1 | refine below_set ?_ GE159.out | refine below_set ?_ GE170.out | refine below_set ?_ GE180.out | refine below_set ?_ GE181.out) | exact HB.out)) hb)
                              clear HO_171001
                              clear HO_171002
                              clear HO_181000
                              clear HO_181001
                              clear HO_181002
                              clear HO_182001
                              clear HO_182002
                              clear HL188_0
                              clear HL190_0
                              clear HL192_0
                              clear HL200_0
                              clear BK159
                              clear BK170
                              clear BK180
                              clear BK181
                              clear HR184_0
                              clear HR188_0
                              clear HR190_0
                              clear HR192_0
                              clear HR200_0
                              clear HB
                              have HO_171001 := n0_
                              have HO_171002 := n1_
                              have HO_181000 := n2_
                              have HO_181001 := n3_
                              have HO_181002 := n4_
                              have HO_182001 := n5_
                              have HO_182002 := n6_
                              have HL188_0 := n7_
                              have HL190_0 := n8_
                              have HL192_0 := n9_
                              have HL200_0 := n10_
                              have BK159 := n11_
                              have BK170 := n12_
                              have BK180 := n13_
                              have BK181 := n14_
                              have HR184_0 := n15_
                              have HR188_0 := n16_
                              have HR190_0 := n17_
                              have HR192_0 := n18_
                              have HR200_0 := n19_
                              have HB := n20_
                              clear n0_ n1_ n2_ n3_ n4_ n5_ n6_ n7_ n8_ n9_ n10_ n11_ n12_ n13_ n14_ n15_ n16_ n17_ n18_ n19_ n20_
                              (try clear hb)
                              (try clear hb2)
                              (try clear hk)
                              (try clear hi)
                              refine hK.out _ _ ⟨(blk_cell BK181.out 0).trans rfl, (blk_cell BK181.out 1).trans rfl, (blk_cell BK181.out 2).trans rfl, (blk_cell BK180.out 0).trans rfl, (blk_cell BK180.out 1).trans rfl, (blk_cell BK180.out 2).trans rfl, HS6_, HS7_⟩ (fun hHeld => ?_)
                              clear hK K
                              refine norm_ (a' := ?_) ?_ ?_
                              rotate_left
                              ·show Act.put _ (some 128) _ = _
                               simp only [Act.put, List.setIfInBounds_toArray, List.set_cons_zero, List.set_cons_succ, i64_w, i32_w]
                               rfl
                              refine pure_ (i := 16) (N := some 129) (v := ?_) (a' := ?_) #[true, true, true, true, true, true, true, true, true, true, true, true, true, true, true, true, true, false, false, false, false] rfl rfl (any_of HT_.out (by kernel_rfl)) (fun _ _ _ h => h) (Or.inl ⟨by rfl, ?_⟩) ?_ ?_
                              rotate_left
                              ·intro w'
                               go_simp
                               with_reducible rfl
                              rotate_left
                              ·simp only [Act.put, List.setIfInBounds_toArray, List.set_cons_zero, List.set_cons_succ, i64_w, i32_w]
                               rfl
                              refine one_ (i := 17) (N := some 130) #[true, true, true, true, true, true, true, true, true, true, true, true, true, true, true, true, true, true, false, false, false] rfl rfl (one_of HT_.out (by kernel_rfl)) (by decide) (fun K hK => ?_)
                              refine value_ (w1 := ?_) (v := ?_) (by rfl) rfl ?_ ?_
                              rotate_left 2
                              ·go_simp
                               constructor
                               ·rfl
                               ·rfl
                              refine hK.out _ _ ⟨(blk_cell (blk_alloc BK181.out _) 0).trans rfl, (blk_cell (blk_alloc BK181.out _) 1).trans rfl, (blk_cell (blk_alloc BK181.out _) 2).trans rfl, (blk_cell (blk_alloc BK180.out _) 0).trans rfl, (blk_cell (blk_alloc BK180.out _) 1).trans rfl, (blk_cell (blk_alloc BK180.out _) 2).trans rfl, (World.cell?_alloc_lt _ _ _ (World.block_lt_of_cell? _ _ (hHeld.2.2.2.2.2.2.1))).trans (hHeld.2.2.2.2.2.2.1), (World.cell?_alloc_lt _ _ _ (World.block_lt_of_cell? _ _ (hHeld.2.2.2.2.2.2.2))).trans (hHeld.2.2.2.2.2.2.2)⟩ (fun hHeld => ?_)
                              clear hK K
                              refine norm_ (a' := ?_) ?_ ?_
                              rotate_left
                              ·show Act.put _ (some 130) _ = _
                               simp only [Act.put, List.setIfInBounds_toArray, List.set_cons_zero, List.set_cons_succ, i64_w, i32_w]
                               rfl
                              refine last_ (i := 18) (N := some 131) #[true, true, true, true, true, true, true, true, true, true, true, true, true, true, true, true, true, true, true, false, false] rfl rfl (one_of HT_.out (by kernel_rfl)) (by decide) (fun K hK => ?_)
                              refine Kd.R_append_step k38 (w0 := w) w.heap.size (by rfl) (.tmp 114) (.tmp 130) 23 38 (.agg #[(.int .i64 0), (.int .i64 0), (.int .i64 0)]) 24 rfl Tryz.underlying23 info38 rfl (by decide) (by omega) u182002 x182002_3 (⟨rd t171 x12_2, rd t171 x13_3, t204⟩ : S38) [.int .i64 (rd t171 x12_2), .int .i64 (rd t171 x13_3), .int .i64 t204] (fun k_ => some k_ ≠ (.slice Ao28 t166.length co28 : Value).ownBlock) (fun _ => False) rfl rfl ?aP (fun _ hk => hk.elim) ?aF ?aO ?aB ?aS ?aL ?_
                              (case aP => exact k38_mkM _ _ _ (⟨rd t171 x12_2, rd t171 x13_3, t204⟩ : S38))
                              (case aB => exact (by repeat (first | (with_reducible first | exact HB.out | apply below_alloc | apply pw_below_drewN | apply below_drew1 | refine below_set ?_ GE159.out | refine below_set ?_ GE170.out | refine below_set ?_ GE180.out | refine below_set ?_ GE181.out) | exact HB.out)))
                              (case aF => exact (fun k_ hk => Kd.fresh' (Kd.R_lt (by (with_reducible repeat (first | apply Kd.R_alloc | apply Kd.R_drewN | apply Kd.R_drew)); exact HO_171002.out)) k_ hk))
                              (case aO => exact (by (with_reducible repeat (first | apply Kd.R_alloc | apply Kd.R_drewN | apply Kd.R_drew)); exact HO_182002.out))
                              (case aS => exact (below_size (by repeat (first | (with_reducible first | exact HB.out | apply below_alloc | apply pw_below_drewN | apply below_drew1 | refine below_set ?_ GE159.out | refine below_set ?_ GE170.out | refine below_set ?_ GE180.out | refine below_set ?_ GE181.out) | exact HB.out))))
                              (case aL => have := LMc94.out; omega)
                              intro v206 w101 ho hb hg hat
                              rw [← Ny205.out] at ho
                              have n0_ := Aside0.mk (Kd.R_over' (by (with_reducible repeat (first | apply Kd.R_alloc | apply Kd.R_drewN | apply Kd.R_drew)); exact HO_171001.out) (Kd.R_typed (by (with_reducible repeat (first | apply Kd.R_alloc | apply Kd.R_drewN | apply Kd.R_drew)); exact HO_182002.out)) (by decide) hg)
                              have n1_ := Aside0.mk (Kd.R_after (ok := (fun _ => True)) (by (with_reducible repeat (first | apply Kd.R_alloc | apply Kd.R_drewN | apply Kd.R_drew)); exact Kd.R_mono HO_171002.out (fun _ hk => ⟨trivial, hk⟩)) hg hat)
                              have n2_ := Aside0.mk (Kd.R_over' (by (with_reducible repeat (first | apply Kd.R_alloc | apply Kd.R_drewN | apply Kd.R_drew)); exact HO_181000.out) (Kd.R_typed (by (with_reducible repeat (first | apply Kd.R_alloc | apply Kd.R_drewN | apply Kd.R_drew)); exact HO_182002.out)) (by decide) hg)
                              have n3_ := Aside0.mk (Kd.S_over' (by (with_reducible repeat (first | apply Kd.S_alloc | apply Kd.S_drewN | apply Kd.S_drew)); exact HO_181001.out) (Kd.R_typed (by (with_reducible repeat (first | apply Kd.R_alloc | apply Kd.R_drewN | apply Kd.R_drew)); exact HO_182002.out)) (by decide) hg)
                              have n4_ := Aside0.mk (Kd.S_over' (by (with_reducible repeat (first | apply Kd.S_alloc | apply Kd.S_drewN | apply Kd.S_drew)); exact HO_181002.out) (Kd.R_typed (by (with_reducible repeat (first | apply Kd.R_alloc | apply Kd.R_drewN | apply Kd.R_drew)); exact HO_182002.out)) (by decide) hg)
                              have n5_ := Aside0.mk (Kd.R_over' (by (with_reducible repeat (first | apply Kd.R_alloc | apply Kd.R_drewN | apply Kd.R_drew)); exact HO_182001.out) (Kd.R_typed (by (with_reducible repeat (first | apply Kd.R_alloc | apply Kd.R_drewN | apply Kd.R_drew)); exact HO_182002.out)) (by decide) hg)
                              have n6_ := Aside0.mk (blk_grown (g := gb159) (o := .cells #[.bool a0_0, .slice A0_1 l0_1.length c0_1, .slice A0_2 l0_2.length c0_2] 25 (0, 0)) (by (with_reducible repeat (first | refine blk_drewN ?_ _ | refine blk_drew ?_ | refine blk_alloc ?_ _)); exact BK159.out) hg (Kd.R_ne HO_182002.out BK159.out (by decide)))
                              have n7_ := Aside0.mk (blk_grown (g := gb170) (o := .cells #[.bool t162, .slice Ao27 t163.length co27, .slice Ao28 t166.length co28] 25 (0, 0)) (by (with_reducible repeat (first | refine blk_drewN ?_ _ | refine blk_drew ?_ | refine blk_alloc ?_ _)); exact BK170.out) hg (Kd.R_ne HO_182002.out BK170.out (by decide)))
                              have n8_ := Aside0.mk (blk_grown (g := gb180) (o := .cells #[.slice (some ad202) t171.length co32, .slice (some ad184) t174.length co36, .slice (some ad190) t177.length co37] 33 (0, 0)) (by (with_reducible repeat (first | refine blk_drewN ?_ _ | refine blk_drew ?_ | refine blk_alloc ?_ _)); exact BK180.out) hg (Kd.R_ne HO_182002.out BK180.out (by decide)))
                              have n9_ := Aside0.mk (blk_grown (g := gb181) (o := .cells #[.bool false, .slice (some ad202) t171.length co32, u182002] 25 (0, 0)) (by (with_reducible repeat (first | refine blk_drewN ?_ _ | refine blk_drew ?_ | refine blk_alloc ?_ _)); exact BK181.out) hg (Kd.R_ne HO_182002.out BK181.out (by decide)))
                              have n10_ := Aside0.mk (Kd.R_over' (by (with_reducible repeat (first | apply Kd.R_alloc | apply Kd.R_drewN | apply Kd.R_drew)); exact HL188_0.out) (Kd.R_typed (by (with_reducible repeat (first | apply Kd.R_alloc | apply Kd.R_drewN | apply Kd.R_drew)); exact HO_182002.out)) (by decide) hg)
                              have n11_ := Aside0.mk (Kd.R_over' (by (with_reducible repeat (first | apply Kd.R_alloc | apply Kd.R_drewN | apply Kd.R_drew)); exact HL190_0.out) (Kd.R_typed (by (with_reducible repeat (first | apply Kd.R_alloc | apply Kd.R_drewN | apply Kd.R_drew)); exact HO_182002.out)) (by decide) hg)
                              have n12_ := Aside0.mk (Kd.R_over' (by (with_reducible repeat (first | apply Kd.R_alloc | apply Kd.R_drewN | apply Kd.R_drew)); exact HL192_0.out) (Kd.R_typed (by (with_reducible repeat (first | apply Kd.R_alloc | apply Kd.R_drewN | apply Kd.R_drew)); exact HO_182002.out)) (by decide) hg)
                              have n13_ := Aside0.mk (Kd.R_over' (by (with_reducible repeat (first | apply Kd.R_alloc | apply Kd.R_drewN | apply Kd.R_drew)); exact HL200_0.out) (Kd.R_typed (by (with_reducible repeat (first | apply Kd.R_alloc | apply Kd.R_drewN | apply Kd.R_drew)); exact HO_182002.out)) (by decide) hg)
                              have n14_ := Aside0.mk (hb)
                              have n15_ := Aside0.mk (ho)
                              clear HO_171001
                              clear HO_171002
                              clear HO_181000
                              clear HO_181001
                              clear HO_181002
                              clear HO_182001
                              clear BK159
                              clear BK170
                              clear BK180
                              clear BK181
                              clear HL188_0
                              clear HL190_0
                              clear HL192_0
                              clear HL200_0
                              clear HB
                              clear HO_182002
                              have HO_171001 := n0_
                              have HO_171002 := n1_
                              have HO_181000 := n2_
                              have HO_181001 := n3_
                              have HO_181002 := n4_
                              have HO_182001 := n5_
                              have BK159 := n6_
                              have BK170 := n7_
                              have BK180 := n8_
                              have BK181 := n9_
                              have HL188_0 := n10_
                              have HL190_0 := n11_
                              have HL192_0 := n12_
                              have HL200_0 := n13_
                              have HB := n14_
                              have HO207 := n15_
                              clear n0_ n1_ n2_ n3_ n4_ n5_ n6_ n7_ n8_ n9_ n10_ n11_ n12_ n13_ n14_ n15_
                              clear ho hb hg hat
                              obtain ⟨Ao102, co102, eo102⟩ := Kd.R_slice HO207.out
                              (first | subst eo102 | (injection eo102 with f1_ f2_ f3_; have f4_ := f1_.symm; have f5_ := f3_.symm; clear f1_ f2_ f3_; subst f4_; subst f5_))
                              refine hK.out _ _ ?_
                              clear hK K
                              refine norm_ (a' := ?_) ?_ ?_
                              rotate_left
                              ·show Act.put _ (some 131) _ = _
                               simp only [Act.put, List.setIfInBounds_toArray, List.set_cons_zero, List.set_cons_succ, i64_w, i32_w]
                               rfl
                              refine pure_ (i := 19) (N := some 132) (v := ?_) (a' := ?_) #[true, true, true, true, true, true, true, true, true, true, true, true, true, true, true, true, true, true, true, true, false] rfl rfl (any_of HT_.out (by kernel_rfl)) (fun _ _ _ h => h) (Or.inl ⟨by rfl, ?_⟩) ?_ ?_
                              rotate_left
                              ·intro w'
                               go_simp
                               with_reducible rfl
                              rotate_left
                              ·simp only [Act.put, List.setIfInBounds_toArray, List.set_cons_zero, List.set_cons_succ, i64_w, i32_w]
                               rfl
                              refine last_ (i := 20) (N := none) #[true, true, true, true, true, true, true, true, true, true, true, true, true, true, true, true, true, true, true, true, true] rfl rfl (one_of HT_.out (by kernel_rfl)) (by decide) (fun K hK => ?_)
                              have hs103 : w101.cell? ⟨gb181, 2, none⟩ = some (u182002) := (blk_cell BK181.out 2).trans rfl
                              have hfs103 := blk_frozen BK181.out 2
                              have hns103_0 := NB159_181.out
                              have hns103_1 := NB170_181.out
                              have hns103_2 := NB180_181.out
                              have hms103_0 := NB181_159.out
                              have hms103_1 := NB181_170.out
                              have hms103_2 := NB181_180.out
                              refine skip_ (w1 := ?_) (by rfl) rfl ?_ ?_
                              rotate_left
                              ·go_simp
                               rfl
                              refine hK.out _ _ ?_
                              clear hK K
                              refine done_ (done_of HT_.out (by kernel_rfl)) ?_
                              try go_wp2
                              go_roundg kj52
                              case measure => have := HJ5.out; have := HK2.out; have := HK3.out; have := HJ52.out; omega
                              case rel => exact ⟨(wrap64 (x13_3 + 1)), (y205), (.slice Ao102 y205.length co102), (by first | rfl | (simp; done) | (simp [*]; done)), H', ⟨by have := HJ5.out; have := HK2.out; have := HK3.out; have := HJ52.out; omega⟩, ⟨by (with_reducible repeat (first | apply Kd.R_alloc | apply Kd.R_drewN | apply Kd.R_drew)); exact Kd.R_mono (Kd.R_far (p := ⟨gb181, 2, none⟩) (Kd.R_types HO_171001.out BK181.out (by decide)) (fun _ hk => hk.2) (.slice Ao102 y205.length co102)) (fun _ hk => ⟨hk.1.1, hk.1.2⟩)⟩, ⟨by (with_reducible repeat (first | apply Kd.R_alloc | apply Kd.R_drewN | apply Kd.R_drew)); exact Kd.R_mono (Kd.R_far (p := ⟨gb181, 2, none⟩) (Kd.R_types HO_171002.out BK181.out (by decide)) (fun _ hk => hk.2) (.slice Ao102 y205.length co102)) (fun _ hk => hk.1.2)⟩, ⟨by (with_reducible repeat (first | apply Kd.R_alloc | apply Kd.R_drewN | apply Kd.R_drew)); exact Kd.R_mono (Kd.R_far (p := ⟨gb181, 2, none⟩) (Kd.R_types HO_181000.out BK181.out (by decide)) (fun _ hk => hk.2) (.slice Ao102 y205.length co102)) (fun _ hk => hk.1)⟩, ⟨by (with_reducible repeat (first | apply Kd.S_alloc | apply Kd.S_drewN | apply Kd.S_drew)); exact Kd.S_mono (Kd.S_far (p := ⟨gb181, 2, none⟩) (Kd.S_types HO_181001.out BK181.out (by decide)) (fun _ hk => hk.2) (.slice Ao102 y205.length co102)) (fun _ hk => trivial)⟩, ⟨by (with_reducible repeat (first | apply Kd.S_alloc | apply Kd.S_drewN | apply Kd.S_drew)); exact Kd.S_mono (Kd.S_far (p := ⟨gb181, 2, none⟩) (Kd.S_types HO_181002.out BK181.out (by decide)) (fun _ hk => hk.2) (.slice Ao102 y205.length co102)) (fun _ hk => ⟨hk.1.1, ⟨hk.1.2.1, hk.1.2.2⟩⟩)⟩, ⟨by (with_reducible repeat (first | apply Kd.R_alloc | apply Kd.R_drewN | apply Kd.R_drew)); exact Kd.R_mono (Kd.R_far (p := ⟨gb181, 2, none⟩) (Kd.R_types HO_182001.out BK181.out (by decide)) (fun _ hk => hk.2) (.slice Ao102 y205.length co102)) (fun _ hk => hk.1)⟩, ⟨by (with_reducible repeat (first | apply Kd.R_alloc | apply Kd.R_drewN | apply Kd.R_drew)); exact Kd.R_mono (Kd.R_far (p := ⟨gb181, 2, none⟩) (Kd.R_types HO207.out BK181.out (by decide)) (fun _ hk => hk.2) (.slice Ao102 y205.length co102)) (fun _ hk => hk.1)⟩, ⟨by (with_reducible repeat (first | refine blk_drewN ?_ _ | refine blk_drew ?_ | refine blk_alloc ?_ _)); refine blk_far ?_ NB159_181.out _; (with_reducible repeat (first | refine blk_drewN ?_ _ | refine blk_drew ?_ | refine blk_alloc ?_ _)); exact BK159.out⟩, ⟨by (with_reducible repeat (first | refine blk_drewN ?_ _ | refine blk_drew ?_ | refine blk_alloc ?_ _)); refine blk_far ?_ NB170_181.out _; (with_reducible repeat (first | refine blk_drewN ?_ _ | refine blk_drew ?_ | refine blk_alloc ?_ _)); exact BK170.out⟩, ⟨by (with_reducible repeat (first | refine blk_drewN ?_ _ | refine blk_drew ?_ | refine blk_alloc ?_ _)); refine blk_far ?_ NB180_181.out _; (with_reducible repeat (first | refine blk_drewN ?_ _ | refine blk_drew ?_ | refine blk_alloc ?_ _)); exact BK180.out⟩, ⟨by (with_reducible repeat (first | refine blk_drewN ?_ _ | refine blk_drew ?_ | refine blk_alloc ?_ _)); refine blk_put (cs := #[.bool false, .slice (some ad202) t171.length co32, u182002]) ?_ 2 _ rfl; (with_reducible repeat (first | refine blk_drewN ?_ _ | refine blk_drew ?_ | refine blk_alloc ?_ _)); exact BK181.out⟩, ⟨by repeat (first | (with_reducible first | exact HB.out | apply below_alloc | apply pw_below_drewN | apply below_drew1 | refine below_set ?_ GE159.out | refine below_set ?_ GE170.out | refine below_set ?_ GE180.out | refine below_set ?_ GE181.out) | exact HB.out)⟩⟩
                             ·rw [if_neg c94] at H
                              exact absurd H (by simp)
                            ·rw [if_neg c92] at H
                             exact absurd H (by simp)
                           ·rw [if_neg c91] at H
                            exact absurd H (by simp)
                         ·rw [if_neg c75] at H
                          exact absurd H (by simp)
                        ·rw [if_neg c74] at H
                         exact absurd H (by simp)
                       ·rw [if_neg c73] at H
                        exact absurd H (by simp)
                      ·rw [if_neg c72] at H
                       exact absurd H (by simp)
                     ·replace c71 := Bool.eq_false_iff.mpr c71
                      subst c71
                      have H1 : (if x12_2 < (t174.length : Int) then (if x13_3 < ((rd_L3 t174 x12_2).length : Int) then (if rdOf false (rd_L3 t174 x12_2) x13_3 = true then (if x12_2 < (t171.length : Int) then (if x13_3 < (t171.length : Int) then ((laws_merged.f x14_52 a1 (wrap64 (Int.tmod a2 3))).bind fun t212 => (if x182002_3.length < 5864062014805 then (laws_FnUndirectMerged.l1 kj52 a1 (wrap64 (Int.tmod a2 3)) t169 x12_2 (wrap64 (x13_3 + 1)) t162 t163 t166 t171 t174 t177 false t171 (x182002_3 ++ [(⟨rd t171 x12_2, rd t171 x13_3, t212⟩ : S38)])) else (none))) else (none)) else (none)) else (laws_FnUndirectMerged.l1 kj52 a1 (wrap64 (Int.tmod a2 3)) t169 x12_2 (wrap64 (x13_3 + 1)) t162 t163 t166 t171 t174 t177 false t171 x182002_3)) else (none)) else (none)) = some r := by rw [if_neg (show ¬ (false = true) by decide)] at H; exact H
                      clear H
                      have H := H1
                      clear H1
                      by_cases c104 : x12_2 < (t174.length : Int)
                      ·rw [if_pos c104] at H
                       have c104b0 : decide (x12_2 < (t174.length : Int)) = true := decide_eq_true c104
                       clear c104
                       by_cases c105 : x13_3 < ((rd_L3 t174 x12_2).length : Int)
                       ·rw [if_pos c105] at H
                        have c105b0 : decide (x13_3 < ((rd_L3 t174 x12_2).length : Int)) = true := decide_eq_true c105
                        clear c105
                        obtain ⟨bq106, hbq106⟩ : ∃ b_ : Bool, b_ = (rdOf false (rd_L3 t174 x12_2) x13_3) := ⟨_, rfl⟩
                        replace H : (if bq106 = true then (if x12_2 < (t171.length : Int) then (if x13_3 < (t171.length : Int) then ((laws_merged.f x14_52 a1 (wrap64 (Int.tmod a2 3))).bind fun t212 => (if x182002_3.length < 5864062014805 then (laws_FnUndirectMerged.l1 kj52 a1 (wrap64 (Int.tmod a2 3)) t169 x12_2 (wrap64 (x13_3 + 1)) t162 t163 t166 t171 t174 t177 false t171 (x182002_3 ++ [(⟨rd t171 x12_2, rd t171 x13_3, t212⟩ : S38)])) else (none))) else (none)) else (none)) else (laws_FnUndirectMerged.l1 kj52 a1 (wrap64 (Int.tmod a2 3)) t169 x12_2 (wrap64 (x13_3 + 1)) t162 t163 t166 t171 t174 t177 false t171 x182002_3)) = some r := by rw [← hbq106] at H; exact H
                        have Nbq106 := Aside0.mk hbq106
                        clear hbq106
                        by_cases c107 : bq106 = true
                        ·subst c107
                         have H1 : (if x12_2 < (t171.length : Int) then (if x13_3 < (t171.length : Int) then ((laws_merged.f x14_52 a1 (wrap64 (Int.tmod a2 3))).bind fun t212 => (if x182002_3.length < 5864062014805 then (laws_FnUndirectMerged.l1 kj52 a1 (wrap64 (Int.tmod a2 3)) t169 x12_2 (wrap64 (x13_3 + 1)) t162 t163 t166 t171 t174 t177 false t171 (x182002_3 ++ [(⟨rd t171 x12_2, rd t171 x13_3, t212⟩ : S38)])) else (none))) else (none)) else (none)) = some r := by rw [if_pos rfl] at H; exact H
                         clear H
                         have H := H1
                         clear H1
                         by_cases c108 : x12_2 < (t171.length : Int)
                         ·rw [if_pos c108] at H
                          have c108b0 : decide (x12_2 < (t171.length : Int)) = true := decide_eq_true c108
                          clear c108
                          by_cases c109 : x13_3 < (t171.length : Int)
                          ·rw [if_pos c109] at H
                           have c109b0 : decide (x13_3 < (t171.length : Int)) = true := decide_eq_true c109
                           clear c109
                           replace H := Option.bind_eq_some_iff.mp H
                           obtain ⟨t212, A1100, H⟩ := H
                           replace H : (if x182002_3.length < 5864062014805 then (laws_FnUndirectMerged.l1 kj52 a1 (wrap64 (Int.tmod a2 3)) t169 x12_2 (wrap64 (x13_3 + 1)) t162 t163 t166 t171 t174 t177 false t171 (x182002_3 ++ [(⟨rd t171 x12_2, rd t171 x13_3, t212⟩ : S38)])) else (none)) = some r := H
                           have A110 := Aside0.mk A1100
                           clear A1100
                           by_cases c111 : x182002_3.length < 5864062014805
                           ·rw [if_pos c111] at H
                            have LMc111 := Aside0.mk c111
                            clear c111
                            obtain ⟨y213, hy213⟩ : ∃ y_ : List (S38), y_ = (x182002_3 ++ [(⟨rd t171 x12_2, rd t171 x13_3, t212⟩ : S38)]) := ⟨_, rfl⟩
                            replace H : (laws_FnUndirectMerged.l1 kj52 a1 (wrap64 (Int.tmod a2 3)) t169 x12_2 (wrap64 (x13_3 + 1)) t162 t163 t166 t171 t174 t177 false t171 y213) = some r := by first | (rw [hy213]; with_reducible exact H) | (have H2_ := (Option.bind_some _ _).symm.trans H; rw [hy213]; with_reducible exact H2_) | (have H2_ := (Option.bind_some _ _).symm.trans H; with_reducible exact H2_) | with_reducible exact H | (rw [hy213]; exact H) | exact H
                            have Ny213 := Aside0.mk hy213
                            clear hy213
                            have H' := Aside0.mk H
                            clear H
                            have hnb112 := NB180_159.out
                            have hnc112 := NB159_180.out
                            have hnb113 := NB180_170.out
                            have hnc113 := NB170_180.out
                            have hnb114 := NB180_181.out
                            have hnc114 := NB181_180.out
                            have hcz115_0 : wc.cell? ⟨gb180, 0, none⟩ = some (.slice Ao32 t171.length co32) := (blk_cell BK180.out 0).trans rfl
                            have hcz115_1 : wc.cell? ⟨gb180, 1, none⟩ = some (.slice (some ad184) t174.length co36) := (blk_cell BK180.out 1).trans rfl
                            have hcz115_2 : wc.cell? ⟨gb180, 2, none⟩ = some (.slice Ao37 t177.length co37) := (blk_cell BK180.out 2).trans rfl
                            have hfz115_0 := blk_frozen BK180.out 0
                            have hfz115_1 := blk_frozen BK180.out 1
                            have hfz115_2 := blk_frozen BK180.out 2
                            have p188 : 0 ≤ (x13_3 : Int) := of_decide_eq_true (by first | (with_reducible assumption) | assumption)
                            have q188 : x13_3 < (t174.length : Int) := of_decide_eq_true (by first | (with_reducible assumption) | assumption)
                            obtain ⟨ad188, A188_0, c188_0, e188, hx188_0, hl188_0, hi188_0⟩ := at_L3 (Kd.S_reads' HO_181001.out).2.2 x13_3 p188 q188
                            obtain rfl : ad184 = ad188 := (by injection e188)
                            obtain ⟨ce188, hce188, hMe188, hcc188⟩ := Kd.S_get HO_181001.out [] x13_3 p188 (by first | exact q188 | exact of_decide_eq_true (by first | (with_reducible assumption) | assumption) | (have e_ := (Kd.S_reads' HO_181001.out).1; omega))
                            obtain ⟨ve188_0, rfl, ge188_0⟩ := hMe188
                            have hv188_0 := hcc188 0 _ rfl
                            rw [Nat.add_zero, show ((Kd.slice 4 Kd.bool)).sz = 1 from rfl, Nat.mul_one] at hv188_0
                            replace hv188_0 := Option.some.inj (hv188_0.symm.trans hx188_0)
                            rw [hv188_0] at ge188_0
                            have HL188_0 := Aside0.mk (show Kd.R Kd.bool 4 _ _ _ _ (rd_L3 t174 x13_3) from ge188_0)
                            clear hv188_0 ge188_0
                            clear hcc188 hce188
                            have HR188_0 := Aside0.mk hi188_0
                            have HC188_0 := Aside0.mk hl188_0
                            clear hi188_0 hl188_0
                            replace p188 := eq_true p188
                            replace q188 := eq_true q188
                            have p189 : 0 ≤ (x12_2 : Int) := of_decide_eq_true (by first | (with_reducible assumption) | assumption)
                            have q189 : x12_2 < ((rd_L3 t174 x13_3).length : Int) := of_decide_eq_true (by first | (with_reducible assumption) | assumption)
                            obtain ⟨ad189, e189, hx189_0⟩ := Kd.at_bool (by repeat (first | (with_reducible exact HR188_0.out) | (with_reducible refine Kd.C_alloc ?_ _) | (with_reducible refine Kd.C_drewN ?_ _) | (with_reducible refine Kd.C_drew ?_) | exact HR188_0.out)) x12_2 p189 q189
                            (try rw [← Nbq70.out] at hx189_0)
                            (try rw [← Nbq106.out] at hx189_0)
                            cases e189
                            replace p189 := eq_true p189
                            replace q189 := eq_true q189
                            have p208 : 0 ≤ (x12_2 : Int) := of_decide_eq_true (by first | (with_reducible assumption) | assumption)
                            have q208 : x12_2 < (t174.length : Int) := of_decide_eq_true (by first | (with_reducible assumption) | assumption)
                            obtain ⟨ad208, A208_0, c208_0, e208, hx208_0, hl208_0, hi208_0⟩ := at_L3 (Kd.S_reads' HO_181001.out).2.2 x12_2 p208 q208
                            obtain rfl : ad184 = ad208 := (by injection e208)
                            obtain ⟨ce208, hce208, hMe208, hcc208⟩ := Kd.S_get HO_181001.out [] x12_2 p208 (by first | exact q208 | exact of_decide_eq_true (by first | (with_reducible assumption) | assumption) | (have e_ := (Kd.S_reads' HO_181001.out).1; omega))
                            obtain ⟨ve208_0, rfl, ge208_0⟩ := hMe208
                            have hv208_0 := hcc208 0 _ rfl
                            rw [Nat.add_zero, show ((Kd.slice 4 Kd.bool)).sz = 1 from rfl, Nat.mul_one] at hv208_0
                            replace hv208_0 := Option.some.inj (hv208_0.symm.trans hx208_0)
                            rw [hv208_0] at ge208_0
                            have HL208_0 := Aside0.mk (show Kd.R Kd.bool 4 _ _ _ _ (rd_L3 t174 x12_2) from ge208_0)
                            clear hv208_0 ge208_0
                            clear hcc208 hce208
                            have HR208_0 := Aside0.mk hi208_0
                            have HC208_0 := Aside0.mk hl208_0
                            clear hi208_0 hl208_0
                            replace p208 := eq_true p208
                            replace q208 := eq_true q208
                            have p209 : 0 ≤ (x13_3 : Int) := of_decide_eq_true (by first | (with_reducible assumption) | assumption)
                            have q209 : x13_3 < ((rd_L3 t174 x12_2).length : Int) := of_decide_eq_true (by first | (with_reducible assumption) | assumption)
                            obtain ⟨ad209, e209, hx209_0⟩ := Kd.at_bool (by repeat (first | (with_reducible exact HR208_0.out) | (with_reducible refine Kd.C_alloc ?_ _) | (with_reducible refine Kd.C_drewN ?_ _) | (with_reducible refine Kd.C_drew ?_) | exact HR208_0.out)) x13_3 p209 q209
                            (try rw [← Nbq70.out] at hx209_0)
                            (try rw [← Nbq106.out] at hx209_0)
                            cases e209
                            replace p209 := eq_true p209
                            replace q209 := eq_true q209
                            try go_wp2
                            have n0_ := Aside0.mk (Kd.R_drew HO_171001.out)
                            have n1_ := Aside0.mk (Kd.R_drew HO_171002.out)
                            have n2_ := Aside0.mk (Kd.R_drew HO_181000.out)
                            have n3_ := Aside0.mk (Kd.S_drew HO_181001.out)
                            have n4_ := Aside0.mk (Kd.S_drew HO_181002.out)
                            have n5_ := Aside0.mk (Kd.R_drew HO_182001.out)
                            have n6_ := Aside0.mk (Kd.R_drew HO_182002.out)
                            have n7_ := Aside0.mk (Kd.R_drew HL188_0.out)
                            have n8_ := Aside0.mk (Kd.R_drew HL208_0.out)
                            have n9_ := Aside0.mk (blk_drew BK159.out)
                            have n10_ := Aside0.mk (blk_drew BK170.out)
                            have n11_ := Aside0.mk (blk_drew BK180.out)
                            have n12_ := Aside0.mk (blk_drew BK181.out)
                            have n13_ := Aside0.mk (Kd.C_drew HR184_0.out)
                            have n14_ := Aside0.mk (Kd.C_drew HR188_0.out)
                            have n15_ := Aside0.mk (Kd.C_drew HR208_0.out)
                            have n16_ := Aside0.mk (below_drew1 HB.out)
                            clear HO_171001
                            clear HO_171002
                            clear HO_181000
                            clear HO_181001
                            clear HO_181002
                            clear HO_182001
                            clear HO_182002
                            clear HL188_0
                            clear HL208_0
                            clear BK159
                            clear BK170
                            clear BK180
                            clear BK181
                            clear HR184_0
                            clear HR188_0
                            clear HR208_0
                            clear HB
                            have HO_171001 := n0_
                            have HO_171002 := n1_
                            have HO_181000 := n2_
                            have HO_181001 := n3_
                            have HO_181002 := n4_
                            have HO_182001 := n5_
                            have HO_182002 := n6_
                            have HL188_0 := n7_
                            have HL208_0 := n8_
                            have BK159 := n9_
                            have BK170 := n10_
                            have BK180 := n11_
                            have BK181 := n12_
                            have HR184_0 := n13_
                            have HR188_0 := n14_
                            have HR208_0 := n15_
                            have HB := n16_
                            clear n0_ n1_ n2_ n3_ n4_ n5_ n6_ n7_ n8_ n9_ n10_ n11_ n12_ n13_ n14_ n15_ n16_
                            have p210 : 0 ≤ (x12_2 : Int) := of_decide_eq_true (by first | (with_reducible assumption) | assumption)
                            have q210 : x12_2 < (t171.length : Int) := of_decide_eq_true (by first | (with_reducible assumption) | assumption)
                            obtain ⟨ad210, e210, hx210_0⟩ := Kd.at_int (Kd.R_reads' HO_181000.out).2.2 x12_2 p210 q210
                            cases e210
                            replace p210 := eq_true p210
                            replace q210 := eq_true q210
                            have p211 : 0 ≤ (x13_3 : Int) := of_decide_eq_true (by first | (with_reducible assumption) | assumption)
                            have q211 : x13_3 < (t171.length : Int) := of_decide_eq_true (by first | (with_reducible assumption) | assumption)
                            obtain ⟨ad211, e211, hx211_0⟩ := Kd.at_int (Kd.R_reads' HO_181000.out).2.2 x13_3 p211 q211
                            obtain rfl : ad210 = ad211 := (by injection e211)
                            replace p211 := eq_true p211
                            replace q211 := eq_true q211
                            refine start_ (n := 21) (S := fun w' => w'.cell? ⟨gb181, 0, none⟩ = some (.bool false) ∧ w'.cell? ⟨gb181, 1, none⟩ = some (.slice (some ad210) t171.length co32) ∧ w'.cell? ⟨gb181, 2, none⟩ = some (u182002) ∧ w'.cell? ⟨gb180, 0, none⟩ = some (.slice (some ad210) t171.length co32) ∧ w'.cell? ⟨gb180, 1, none⟩ = some (.slice (some ad184) t174.length co36) ∧ w'.cell? ⟨gb180, 2, none⟩ = some (.slice Ao37 t177.length co37) ∧ w'.cell? (ad210.add (x12_2).toNat) = some (.int .i64 (rd t171 x12_2)) ∧ w'.cell? (ad210.add (x13_3).toNat) = some (.int .i64 (rd t171 x13_3))) (ds := [18, 20]) #[false, false, false, false, false, false, false, false, false, false, false, false, false, false, false, false, false, false, false, false, false] (by kernel_rfl) rfl rfl ⟨(blk_cell BK181.out 0).trans rfl, (blk_cell BK181.out 1).trans rfl, (blk_cell BK181.out 2).trans rfl, (blk_cell BK180.out 0).trans rfl, (blk_cell BK180.out 1).trans rfl, (blk_cell BK180.out 2).trans rfl, hx210_0, hx211_0⟩ (fun hHeld => ?_); refine with_tabW laws_FnUndirectMerged.tab21 laws_FnUndirectMerged.bits21 (fun HT_ HW_ => ?_)
                            generalize wc.drew = w116 at HO_171001 HO_171002 HO_181000 HO_181001 HO_181002 HO_182001 HO_182002 HL188_0 HL208_0 BK159 BK170 BK180 BK181 HR184_0 HR188_0 HR208_0 HB hx210_0 hx211_0 hHeld ⊢
                            refine pure_ (i := 0) (N := some 113) (v := ?_) (a' := ?_) #[true, false, false, false, false, false, false, false, false, false, false, false, false, false, false, false, false, false, false, false, false] rfl rfl (any_of HT_.out (by kernel_rfl)) (fun _ _ _ h => h) (Or.inl ⟨by rfl, ?_⟩) ?_ ?_
                            rotate_left
                            ·intro w'
                             go_simp
                             with_reducible rfl
                            rotate_left
                            ·simp only [Act.put, List.setIfInBounds_toArray, List.set_cons_zero, List.set_cons_succ, i64_w, i32_w]
                             rfl
                            refine pure_ (i := 2) (N := some 115) (v := ?_) (a' := ?_) #[true, false, true, false, false, false, false, false, false, false, false, false, false, false, false, false, false, false, false, false, false] rfl rfl (any_of HT_.out (by kernel_rfl)) (fun _ _ _ h => h) (Or.inl ⟨by rfl, ?_⟩) ?_ ?_
                            rotate_left
                            ·intro w'
                             go_simp
                             with_reducible rfl
                            rotate_left
                            ·simp only [Act.put, List.setIfInBounds_toArray, List.set_cons_zero, List.set_cons_succ, i64_w, i32_w]
                             rfl
                            refine pure_ (i := 4) (N := some 117) (v := ?_) (a' := ?_) #[true, false, true, false, true, false, false, false, false, false, false, false, false, false, false, false, false, false, false, false, false] rfl rfl (any_of HT_.out (by kernel_rfl)) (fun _ _ _ h => h) (Or.inl ⟨by rfl, ?_⟩) ?_ ?_
                            rotate_left
                            ·intro w'
                             go_simp
                             with_reducible rfl
                            rotate_left
                            ·simp only [Act.put, List.setIfInBounds_toArray, List.set_cons_zero, List.set_cons_succ, i64_w, i32_w]
                             rfl
                            refine pure_ (i := 7) (N := some 120) (v := ?_) (a' := ?_) #[true, false, true, false, true, false, false, true, false, false, false, false, false, false, false, false, false, false, false, false, false] rfl rfl (any_of HT_.out (by kernel_rfl)) (fun _ _ _ h => h) (Or.inl ⟨by rfl, ?_⟩) ?_ ?_
                            rotate_left
                            ·intro w'
                             go_simp
                             with_reducible rfl
                            rotate_left
                            ·simp only [Act.put, List.setIfInBounds_toArray, List.set_cons_zero, List.set_cons_succ, i64_w, i32_w]
                             rfl
                            refine pure_ (i := 9) (N := some 122) (v := ?_) (a' := ?_) #[true, false, true, false, true, false, false, true, false, true, false, false, false, false, false, false, false, false, false, false, false] rfl rfl (any_of HT_.out (by kernel_rfl)) (fun _ _ _ h => h) (Or.inl ⟨by rfl, ?_⟩) ?_ ?_
                            rotate_left
                            ·intro w'
                             go_simp
                             with_reducible rfl
                            rotate_left
                            ·simp only [Act.put, List.setIfInBounds_toArray, List.set_cons_zero, List.set_cons_succ, i64_w, i32_w]
                             rfl
                            refine pure_ (i := 12) (N := some 125) (v := ?_) (a' := ?_) #[true, false, true, false, true, false, false, true, false, true, false, false, true, false, false, false, false, false, false, false, false] rfl rfl (any_of HT_.out (by kernel_rfl)) (fun _ _ _ h => h) (Or.inl ⟨by rfl, ?_⟩) ?_ ?_
                            rotate_left
                            ·intro w'
                             go_simp
                             with_reducible rfl
                            rotate_left
                            ·simp only [Act.put, List.setIfInBounds_toArray, List.set_cons_zero, List.set_cons_succ, i64_w, i32_w]
                             rfl
                            refine pure_ (i := 13) (N := some 126) (v := ?_) (a' := ?_) #[true, false, true, false, true, false, false, true, false, true, false, false, true, true, false, false, false, false, false, false, false] rfl rfl (any_of HT_.out (by kernel_rfl)) (fun _ _ _ h => h) (Or.inl ⟨by rfl, ?_⟩) ?_ ?_
                            rotate_left
                            ·intro w'
                             go_simp
                             with_reducible rfl
                            rotate_left
                            ·simp only [Act.put, List.setIfInBounds_toArray, List.set_cons_zero, List.set_cons_succ, i64_w, i32_w]
                             rfl
                            refine pure_ (i := 14) (N := some 127) (v := ?_) (a' := ?_) #[true, false, true, false, true, false, false, true, false, true, false, false, true, true, true, false, false, false, false, false, false] rfl rfl (any_of HT_.out (by kernel_rfl)) (fun _ _ _ h => h) (Or.inl ⟨by rfl, ?_⟩) ?_ ?_
                            rotate_left
                            ·intro w'
                             go_simp
                             with_reducible rfl
                            rotate_left
                            ·simp only [Act.put, List.setIfInBounds_toArray, List.set_cons_zero, List.set_cons_succ, i64_w, i32_w]
                             rfl
                            refine take_ (i := 1) (N := some 114) (v := ?_) (a' := ?_) #[true, true, true, false, true, false, false, true, false, true, false, false, true, true, true, false, false, false, false, false, false] rfl rfl (take_ofW HT_.out HW_.out (by kernel_rfl)) (fun _ _ _ h => h) (Or.inl ⟨by rfl, ?_⟩) hHeld ?_ ?_
                            rotate_left
                            ·rintro w' ⟨s0, s1, s2, s3, s4, s5, s6, s7⟩
                             go_simp
                             with_reducible rfl
                            rotate_left
                            ·simp only [Act.put, List.setIfInBounds_toArray, List.set_cons_zero, List.set_cons_succ, i64_w, i32_w]
                             rfl
                            refine take_ (i := 3) (N := some 116) (v := ?_) (a' := ?_) #[true, true, true, true, true, false, false, true, false, true, false, false, true, true, true, false, false, false, false, false, false] rfl rfl (take_ofW HT_.out HW_.out (by kernel_rfl)) (fun _ _ _ h => h) (Or.inl ⟨by rfl, ?_⟩) hHeld ?_ ?_
                            rotate_left
                            ·rintro w' ⟨s0, s1, s2, s3, s4, s5, s6, s7⟩
                             go_simp
                             with_reducible rfl
                            rotate_left
                            ·simp only [Act.put, List.setIfInBounds_toArray, List.set_cons_zero, List.set_cons_succ, i64_w, i32_w]
                             rfl
                            refine pure_ (i := 5) (N := some 118) (v := ?_) (a' := ?_) #[true, true, true, true, true, true, false, true, false, true, false, false, true, true, true, false, false, false, false, false, false] rfl rfl (any_of HT_.out (by kernel_rfl)) (fun _ _ _ h => h) (Or.inl ⟨by rfl, ?_⟩) ?_ ?_
                            rotate_left
                            ·intro w'
                             go_simp
                             with_reducible rfl
                            rotate_left
                            ·simp only [Act.put, List.setIfInBounds_toArray, List.set_cons_zero, List.set_cons_succ, i64_w, i32_w]
                             rfl
                            refine take_ (i := 6) (N := some 119) (v := ?_) (a' := ?_) #[true, true, true, true, true, true, true, true, false, true, false, false, true, true, true, false, false, false, false, false, false] rfl rfl (take_ofW HT_.out HW_.out (by kernel_rfl)) (fun _ _ _ h => h) (Or.inl ⟨by rfl, ?_⟩) hHeld ?_ ?_
                            rotate_left
                            ·rintro w' ⟨s0, s1, s2, s3, s4, s5, s6, s7⟩
                             go_simp
                             with_reducible rfl
                            rotate_left
                            ·simp only [Act.put, List.setIfInBounds_toArray, List.set_cons_zero, List.set_cons_succ, i64_w, i32_w]
                             rfl
                            refine take_ (i := 8) (N := some 121) (v := ?_) (a' := ?_) #[true, true, true, true, true, true, true, true, true, true, false, false, true, true, true, false, false, false, false, false, false] rfl rfl (take_ofW HT_.out HW_.out (by kernel_rfl)) (fun _ _ _ h => h) (Or.inl ⟨by rfl, ?_⟩) hHeld ?_ ?_
                            rotate_left
                            ·rintro w' ⟨s0, s1, s2, s3, s4, s5, s6, s7⟩
                             go_simp
                             with_reducible rfl
                            rotate_left
                            ·simp only [Act.put, List.setIfInBounds_toArray, List.set_cons_zero, List.set_cons_succ, i64_w, i32_w]
                             rfl
                            refine pure_ (i := 10) (N := some 123) (v := ?_) (a' := ?_) #[true, true, true, true, true, true, true, true, true, true, true, false, true, true, true, false, false, false, false, false, false] rfl rfl (any_of HT_.out (by kernel_rfl)) (fun _ _ _ h => h) (Or.inl ⟨by rfl, ?_⟩) ?_ ?_
                            rotate_left
                            ·intro w'
                             go_simp
                             with_reducible rfl
                            rotate_left
                            ·simp only [Act.put, List.setIfInBounds_toArray, List.set_cons_zero, List.set_cons_succ, i64_w, i32_w]
                             rfl
                            refine take_ (i := 11) (N := some 124) (v := ?_) (a' := ?_) #[true, true, true, true, true, true, true, true, true, true, true, true, true, true, true, false, false, false, false, false, false] rfl rfl (take_ofW HT_.out HW_.out (by kernel_rfl)) (fun _ _ _ h => h) (Or.inl ⟨by rfl, ?_⟩) hHeld ?_ ?_
                            rotate_left
                            ·rintro w' ⟨s0, s1, s2, s3, s4, s5, s6, s7⟩
                             go_simp
                             with_reducible rfl
                            rotate_left
                            ·simp only [Act.put, List.setIfInBounds_toArray, List.set_cons_zero, List.set_cons_succ, i64_w, i32_w]
                             rfl
                            refine one_ (i := 15) (N := some 128) #[true, true, true, true, true, true, true, true, true, true, true, true, true, true, true, true, false, false, false, false, false] rfl rfl (one_of HT_.out (by kernel_rfl)) (by decide) (fun K hK => ?_)
                            refine goes_ Tryz.func14 (by kernel_rfl) rfl #[.int .i64 x14_52, .int .i64 a1, .int .i64 (wrap64 (Int.tmod a2 3))] (by rfl) rfl rfl (by (try simp only [List.map_toArray, List.map_cons, List.map_nil]); first | done | rfl | (simp only [List.length_drop, List.length_take]; rfl)) ?_
                            with_reducible refine (laws_merged.calls x14_52 a1 (wrap64 (Int.tmod a2 3)) t212 _ A110.out).mono ?_
                            rintro e w117 ⟨rfl, hb⟩
                            have HS6_ := (hb.cell (World.block_lt_of_cell? _ _ (hHeld.2.2.2.2.2.2.1))).trans (hHeld.2.2.2.2.2.2.1)
                            have HS7_ := (hb.cell (World.block_lt_of_cell? _ _ (hHeld.2.2.2.2.2.2.2))).trans (hHeld.2.2.2.2.2.2.2)
                            refine ⟨_, rfl, ?_⟩
                            have n0_ := Aside0.mk (Kd.R_below (by (with_reducible repeat (first | apply Kd.R_alloc | apply Kd.R_drewN | apply Kd.R_drew)); exact HO_171001.out) hb)
                            have n1_ := Aside0.mk (Kd.R_below (by (with_reducible repeat (first | apply Kd.R_alloc | apply Kd.R_drewN | apply Kd.R_drew)); exact HO_171002.out) hb)
                            have n2_ := Aside0.mk (Kd.R_below (by (with_reducible repeat (first | apply Kd.R_alloc | apply Kd.R_drewN | apply Kd.R_drew)); exact HO_181000.out) hb)
                            have n3_ := Aside0.mk (Kd.S_below (by (with_reducible repeat (first | apply Kd.S_alloc | apply Kd.S_drewN | apply Kd.S_drew)); exact HO_181001.out) hb)
                            have n4_ := Aside0.mk (Kd.S_below (by (with_reducible repeat (first | apply Kd.S_alloc | apply Kd.S_drewN | apply Kd.S_drew)); exact HO_181002.out) hb)
                            have n5_ := Aside0.mk (Kd.R_below (by (with_reducible repeat (first | apply Kd.R_alloc | apply Kd.R_drewN | apply Kd.R_drew)); exact HO_182001.out) hb)
                            have n6_ := Aside0.mk (Kd.R_below (by (with_reducible repeat (first | apply Kd.R_alloc | apply Kd.R_drewN | apply Kd.R_drew)); exact HO_182002.out) hb)
                            have n7_ := Aside0.mk (Kd.R_below (by (with_reducible repeat (first | apply Kd.R_alloc | apply Kd.R_drewN | apply Kd.R_drew)); exact HL188_0.out) hb)
                            have n8_ := Aside0.mk (Kd.R_below (by (with_reducible repeat (first | apply Kd.R_alloc | apply Kd.R_drewN | apply Kd.R_drew)); exact HL208_0.out) hb)
                            have n9_ := Aside0.mk (blk_below (g := gb159) (o := .cells #[.bool a0_0, .slice A0_1 l0_1.length c0_1, .slice A0_2 l0_2.length c0_2] 25 (0, 0)) (by (with_reducible repeat (first | refine blk_drewN ?_ _ | refine blk_drew ?_ | refine blk_alloc ?_ _)); exact BK159.out) hb)
                            have n10_ := Aside0.mk (blk_below (g := gb170) (o := .cells #[.bool t162, .slice Ao27 t163.length co27, .slice Ao28 t166.length co28] 25 (0, 0)) (by (with_reducible repeat (first | refine blk_drewN ?_ _ | refine blk_drew ?_ | refine blk_alloc ?_ _)); exact BK170.out) hb)
                            have n11_ := Aside0.mk (blk_below (g := gb180) (o := .cells #[.slice (some ad210) t171.length co32, .slice (some ad184) t174.length co36, .slice Ao37 t177.length co37] 33 (0, 0)) (by (with_reducible repeat (first | refine blk_drewN ?_ _ | refine blk_drew ?_ | refine blk_alloc ?_ _)); exact BK180.out) hb)
                            have n12_ := Aside0.mk (blk_below (g := gb181) (o := .cells #[.bool false, .slice (some ad210) t171.length co32, u182002] 25 (0, 0)) (by (with_reducible repeat (first | refine blk_drewN ?_ _ | refine blk_drew ?_ | refine blk_alloc ?_ _)); exact BK181.out) hb)
                            have n13_ := Aside0.mk (Kd.C_below (by repeat (first | (with_reducible exact HR184_0.out) | (with_reducible refine Kd.C_alloc ?_ _) | (with_reducible refine Kd.C_drewN ?_ _) | (with_reducible refine Kd.C_drew ?_) | exact HR184_0.out)) hb)
                            have n14_ := Aside0.mk (Kd.C_below (by repeat (first | (with_reducible exact HR188_0.out) | (with_reducible refine Kd.C_alloc ?_ _) | (with_reducible refine Kd.C_drewN ?_ _) | (with_reducible refine Kd.C_drew ?_) | exact HR188_0.out)) hb)
                            have n15_ := Aside0.mk (Kd.C_below (by repeat (first | (with_reducible exact HR208_0.out) | (with_reducible refine Kd.C_alloc ?_ _) | (with_reducible refine Kd.C_drewN ?_ _) | (with_reducible refine Kd.C_drew ?_) | exact HR208_0.out)) hb)
                            have n16_ := Aside0.mk (below_step (by repeat (first | (with_reducible first | exact HB.out | apply below_alloc | apply pw_below_drewN | apply below_drew1 | refine below_set ?_ GE159.out | refine below_set ?_ GE170.out | refine below_set ?_ GE180.out | refine below_set ?_ GE181.out) | exact HB.out)) hb)
                            clear HO_171001
                            clear HO_171002
                            clear HO_181000
                            clear HO_181001
                            clear HO_181002
                            clear HO_182001
                            clear HO_182002
                            clear HL188_0
                            clear HL208_0
                            clear BK159
                            clear BK170
                            clear BK180
                            clear BK181
                            clear HR184_0
                            clear HR188_0
                            clear HR208_0
                            clear HB
                            have HO_171001 := n0_
                            have HO_171002 := n1_
                            have HO_181000 := n2_
                            have HO_181001 := n3_
                            have HO_181002 := n4_
                            have HO_182001 := n5_
                            have HO_182002 := n6_
                            have HL188_0 := n7_
                            have HL208_0 := n8_
                            have BK159 := n9_
                            have BK170 := n10_
                            have BK180 := n11_
                            have BK181 := n12_
                            have HR184_0 := n13_
                            have HR188_0 := n14_
                            have HR208_0 := n15_
                            have HB := n16_
                            clear n0_ n1_ n2_ n3_ n4_ n5_ n6_ n7_ n8_ n9_ n10_ n11_ n12_ n13_ n14_ n15_ n16_
                            (try clear hb)
                            (try clear hb2)
                            (try clear hk)
                            (try clear hi)
                            refine hK.out _ _ ⟨(blk_cell BK181.out 0).trans rfl, (blk_cell BK181.out 1).trans rfl, (blk_cell BK181.out 2).trans rfl, (blk_cell BK180.out 0).trans rfl, (blk_cell BK180.out 1).trans rfl, (blk_cell BK180.out 2).trans rfl, HS6_, HS7_⟩ (fun hHeld => ?_)
                            clear hK K
                            refine norm_ (a' := ?_) ?_ ?_
                            rotate_left
                            ·show Act.put _ (some 128) _ = _
                             simp only [Act.put, List.setIfInBounds_toArray, List.set_cons_zero, List.set_cons_succ, i64_w, i32_w]
                             rfl
                            refine pure_ (i := 16) (N := some 129) (v := ?_) (a' := ?_) #[true, true, true, true, true, true, true, true, true, true, true, true, true, true, true, true, true, false, false, false, false] rfl rfl (any_of HT_.out (by kernel_rfl)) (fun _ _ _ h => h) (Or.inl ⟨by rfl, ?_⟩) ?_ ?_
                            rotate_left
                            ·intro w'
                             go_simp
                             with_reducible rfl
                            rotate_left
                            ·simp only [Act.put, List.setIfInBounds_toArray, List.set_cons_zero, List.set_cons_succ, i64_w, i32_w]
                             rfl
                            refine one_ (i := 17) (N := some 130) #[true, true, true, true, true, true, true, true, true, true, true, true, true, true, true, true, true, true, false, false, false] rfl rfl (one_of HT_.out (by kernel_rfl)) (by decide) (fun K hK => ?_)
                            refine value_ (w1 := ?_) (v := ?_) (by rfl) rfl ?_ ?_
                            rotate_left 2
                            ·go_simp
                             constructor
                             ·rfl
                             ·rfl
                            refine hK.out _ _ ⟨(blk_cell (blk_alloc BK181.out _) 0).trans rfl, (blk_cell (blk_alloc BK181.out _) 1).trans rfl, (blk_cell (blk_alloc BK181.out _) 2).trans rfl, (blk_cell (blk_alloc BK180.out _) 0).trans rfl, (blk_cell (blk_alloc BK180.out _) 1).trans rfl, (blk_cell (blk_alloc BK180.out _) 2).trans rfl, (World.cell?_alloc_lt _ _ _ (World.block_lt_of_cell? _ _ (hHeld.2.2.2.2.2.2.1))).trans (hHeld.2.2.2.2.2.2.1), (World.cell?_alloc_lt _ _ _ (World.block_lt_of_cell? _ _ (hHeld.2.2.2.2.2.2.2))).trans (hHeld.2.2.2.2.2.2.2)⟩ (fun hHeld => ?_)
                            clear hK K
                            refine norm_ (a' := ?_) ?_ ?_
                            rotate_left
                            ·show Act.put _ (some 130) _ = _
                             simp only [Act.put, List.setIfInBounds_toArray, List.set_cons_zero, List.set_cons_succ, i64_w, i32_w]
                             rfl
                            refine last_ (i := 18) (N := some 131) #[true, true, true, true, true, true, true, true, true, true, true, true, true, true, true, true, true, true, true, false, false] rfl rfl (one_of HT_.out (by kernel_rfl)) (by decide) (fun K hK => ?_)
                            refine Kd.R_append_step k38 (w0 := w) w.heap.size (by rfl) (.tmp 114) (.tmp 130) 23 38 (.agg #[(.int .i64 0), (.int .i64 0), (.int .i64 0)]) 24 rfl Tryz.underlying23 info38 rfl (by decide) (by omega) u182002 x182002_3 (⟨rd t171 x12_2, rd t171 x13_3, t212⟩ : S38) [.int .i64 (rd t171 x12_2), .int .i64 (rd t171 x13_3), .int .i64 t212] (fun k_ => some k_ ≠ (.slice Ao28 t166.length co28 : Value).ownBlock) (fun _ => False) rfl rfl ?aP (fun _ hk => hk.elim) ?aF ?aO ?aB ?aS ?aL ?_
                            (case aP => exact k38_mkM _ _ _ (⟨rd t171 x12_2, rd t171 x13_3, t212⟩ : S38))
                            (case aB => exact (by repeat (first | (with_reducible first | exact HB.out | apply below_alloc | apply pw_below_drewN | apply below_drew1 | refine below_set ?_ GE159.out | refine below_set ?_ GE170.out | refine below_set ?_ GE180.out | refine below_set ?_ GE181.out) | exact HB.out)))
                            (case aF => exact (fun k_ hk => Kd.fresh' (Kd.R_lt (by (with_reducible repeat (first | apply Kd.R_alloc | apply Kd.R_drewN | apply Kd.R_drew)); exact HO_171002.out)) k_ hk))
                            (case aO => exact (by (with_reducible repeat (first | apply Kd.R_alloc | apply Kd.R_drewN | apply Kd.R_drew)); exact HO_182002.out))
                            (case aS => exact (below_size (by repeat (first | (with_reducible first | exact HB.out | apply below_alloc | apply pw_below_drewN | apply below_drew1 | refine below_set ?_ GE159.out | refine below_set ?_ GE170.out | refine below_set ?_ GE180.out | refine below_set ?_ GE181.out) | exact HB.out))))
                            (case aL => have := LMc111.out; omega)
                            intro v214 w118 ho hb hg hat
                            rw [← Ny213.out] at ho
                            have n0_ := Aside0.mk (Kd.R_over' (by (with_reducible repeat (first | apply Kd.R_alloc | apply Kd.R_drewN | apply Kd.R_drew)); exact HO_171001.out) (Kd.R_typed (by (with_reducible repeat (first | apply Kd.R_alloc | apply Kd.R_drewN | apply Kd.R_drew)); exact HO_182002.out)) (by decide) hg)
                            have n1_ := Aside0.mk (Kd.R_after (ok := (fun _ => True)) (by (with_reducible repeat (first | apply Kd.R_alloc | apply Kd.R_drewN | apply Kd.R_drew)); exact Kd.R_mono HO_171002.out (fun _ hk => ⟨trivial, hk⟩)) hg hat)
                            have n2_ := Aside0.mk (Kd.R_over' (by (with_reducible repeat (first | apply Kd.R_alloc | apply Kd.R_drewN | apply Kd.R_drew)); exact HO_181000.out) (Kd.R_typed (by (with_reducible repeat (first | apply Kd.R_alloc | apply Kd.R_drewN | apply Kd.R_drew)); exact HO_182002.out)) (by decide) hg)
                            have n3_ := Aside0.mk (Kd.S_over' (by (with_reducible repeat (first | apply Kd.S_alloc | apply Kd.S_drewN | apply Kd.S_drew)); exact HO_181001.out) (Kd.R_typed (by (with_reducible repeat (first | apply Kd.R_alloc | apply Kd.R_drewN | apply Kd.R_drew)); exact HO_182002.out)) (by decide) hg)
                            have n4_ := Aside0.mk (Kd.S_over' (by (with_reducible repeat (first | apply Kd.S_alloc | apply Kd.S_drewN | apply Kd.S_drew)); exact HO_181002.out) (Kd.R_typed (by (with_reducible repeat (first | apply Kd.R_alloc | apply Kd.R_drewN | apply Kd.R_drew)); exact HO_182002.out)) (by decide) hg)
                            have n5_ := Aside0.mk (Kd.R_over' (by (with_reducible repeat (first | apply Kd.R_alloc | apply Kd.R_drewN | apply Kd.R_drew)); exact HO_182001.out) (Kd.R_typed (by (with_reducible repeat (first | apply Kd.R_alloc | apply Kd.R_drewN | apply Kd.R_drew)); exact HO_182002.out)) (by decide) hg)
                            have n6_ := Aside0.mk (blk_grown (g := gb159) (o := .cells #[.bool a0_0, .slice A0_1 l0_1.length c0_1, .slice A0_2 l0_2.length c0_2] 25 (0, 0)) (by (with_reducible repeat (first | refine blk_drewN ?_ _ | refine blk_drew ?_ | refine blk_alloc ?_ _)); exact BK159.out) hg (Kd.R_ne HO_182002.out BK159.out (by decide)))
                            have n7_ := Aside0.mk (blk_grown (g := gb170) (o := .cells #[.bool t162, .slice Ao27 t163.length co27, .slice Ao28 t166.length co28] 25 (0, 0)) (by (with_reducible repeat (first | refine blk_drewN ?_ _ | refine blk_drew ?_ | refine blk_alloc ?_ _)); exact BK170.out) hg (Kd.R_ne HO_182002.out BK170.out (by decide)))
                            have n8_ := Aside0.mk (blk_grown (g := gb180) (o := .cells #[.slice (some ad210) t171.length co32, .slice (some ad184) t174.length co36, .slice Ao37 t177.length co37] 33 (0, 0)) (by (with_reducible repeat (first | refine blk_drewN ?_ _ | refine blk_drew ?_ | refine blk_alloc ?_ _)); exact BK180.out) hg (Kd.R_ne HO_182002.out BK180.out (by decide)))
                            have n9_ := Aside0.mk (blk_grown (g := gb181) (o := .cells #[.bool false, .slice (some ad210) t171.length co32, u182002] 25 (0, 0)) (by (with_reducible repeat (first | refine blk_drewN ?_ _ | refine blk_drew ?_ | refine blk_alloc ?_ _)); exact BK181.out) hg (Kd.R_ne HO_182002.out BK181.out (by decide)))
                            have n10_ := Aside0.mk (Kd.R_over' (by (with_reducible repeat (first | apply Kd.R_alloc | apply Kd.R_drewN | apply Kd.R_drew)); exact HL188_0.out) (Kd.R_typed (by (with_reducible repeat (first | apply Kd.R_alloc | apply Kd.R_drewN | apply Kd.R_drew)); exact HO_182002.out)) (by decide) hg)
                            have n11_ := Aside0.mk (Kd.R_over' (by (with_reducible repeat (first | apply Kd.R_alloc | apply Kd.R_drewN | apply Kd.R_drew)); exact HL208_0.out) (Kd.R_typed (by (with_reducible repeat (first | apply Kd.R_alloc | apply Kd.R_drewN | apply Kd.R_drew)); exact HO_182002.out)) (by decide) hg)
                            have n12_ := Aside0.mk (hb)
                            have n13_ := Aside0.mk (ho)
                            clear HO_171001
                            clear HO_171002
                            clear HO_181000
                            clear HO_181001
                            clear HO_181002
                            clear HO_182001
                            clear BK159
                            clear BK170
                            clear BK180
                            clear BK181
                            clear HL188_0
                            clear HL208_0
                            clear HB
                            clear HO_182002
                            have HO_171001 := n0_
                            have HO_171002 := n1_
                            have HO_181000 := n2_
                            have HO_181001 := n3_
                            have HO_181002 := n4_
                            have HO_182001 := n5_
                            have BK159 := n6_
                            have BK170 := n7_
                            have BK180 := n8_
                            have BK181 := n9_
                            have HL188_0 := n10_
                            have HL208_0 := n11_
                            have HB := n12_
                            have HO215 := n13_
                            clear n0_ n1_ n2_ n3_ n4_ n5_ n6_ n7_ n8_ n9_ n10_ n11_ n12_ n13_
                            clear ho hb hg hat
                            obtain ⟨Ao119, co119, eo119⟩ := Kd.R_slice HO215.out
                            (first | subst eo119 | (injection eo119 with f1_ f2_ f3_; have f4_ := f1_.symm; have f5_ := f3_.symm; clear f1_ f2_ f3_; subst f4_; subst f5_))
                            refine hK.out _ _ ?_
                            clear hK K
                            refine norm_ (a' := ?_) ?_ ?_
                            rotate_left
                            ·show Act.put _ (some 131) _ = _
                             simp only [Act.put, List.setIfInBounds_toArray, List.set_cons_zero, List.set_cons_succ, i64_w, i32_w]
                             rfl
                            refine pure_ (i := 19) (N := some 132) (v := ?_) (a' := ?_) #[true, true, true, true, true, true, true, true, true, true, true, true, true, true, true, true, true, true, true, true, false] rfl rfl (any_of HT_.out (by kernel_rfl)) (fun _ _ _ h => h) (Or.inl ⟨by rfl, ?_⟩) ?_ ?_
                            rotate_left
                            ·intro w'
                             go_simp
                             with_reducible rfl
                            rotate_left
                            ·simp only [Act.put, List.setIfInBounds_toArray, List.set_cons_zero, List.set_cons_succ, i64_w, i32_w]
                             rfl
                            refine last_ (i := 20) (N := none) #[true, true, true, true, true, true, true, true, true, true, true, true, true, true, true, true, true, true, true, true, true] rfl rfl (one_of HT_.out (by kernel_rfl)) (by decide) (fun K hK => ?_)
                            have hs120 : w118.cell? ⟨gb181, 2, none⟩ = some (u182002) := (blk_cell BK181.out 2).trans rfl
                            have hfs120 := blk_frozen BK181.out 2
                            have hns120_0 := NB159_181.out
                            have hns120_1 := NB170_181.out
                            have hns120_2 := NB180_181.out
                            have hms120_0 := NB181_159.out
                            have hms120_1 := NB181_170.out
                            have hms120_2 := NB181_180.out
                            refine skip_ (w1 := ?_) (by rfl) rfl ?_ ?_
                            rotate_left
                            ·go_simp
                             rfl
                            refine hK.out _ _ ?_
                            clear hK K
                            refine done_ (done_of HT_.out (by kernel_rfl)) ?_
                            try go_wp2
                            go_roundg kj52
                            case measure => have := HJ5.out; have := HK2.out; have := HK3.out; have := HJ52.out; omega
                            case rel => exact ⟨(wrap64 (x13_3 + 1)), (y213), (.slice Ao119 y213.length co119), (by first | rfl | (simp; done) | (simp [*]; done)), H', ⟨by have := HJ5.out; have := HK2.out; have := HK3.out; have := HJ52.out; omega⟩, ⟨by (with_reducible repeat (first | apply Kd.R_alloc | apply Kd.R_drewN | apply Kd.R_drew)); exact Kd.R_mono (Kd.R_far (p := ⟨gb181, 2, none⟩) (Kd.R_types HO_171001.out BK181.out (by decide)) (fun _ hk => hk.2) (.slice Ao119 y213.length co119)) (fun _ hk => ⟨hk.1.1, hk.1.2⟩)⟩, ⟨by (with_reducible repeat (first | apply Kd.R_alloc | apply Kd.R_drewN | apply Kd.R_drew)); exact Kd.R_mono (Kd.R_far (p := ⟨gb181, 2, none⟩) (Kd.R_types HO_171002.out BK181.out (by decide)) (fun _ hk => hk.2) (.slice Ao119 y213.length co119)) (fun _ hk => hk.1.2)⟩, ⟨by (with_reducible repeat (first | apply Kd.R_alloc | apply Kd.R_drewN | apply Kd.R_drew)); exact Kd.R_mono (Kd.R_far (p := ⟨gb181, 2, none⟩) (Kd.R_types HO_181000.out BK181.out (by decide)) (fun _ hk => hk.2) (.slice Ao119 y213.length co119)) (fun _ hk => hk.1)⟩, ⟨by (with_reducible repeat (first | apply Kd.S_alloc | apply Kd.S_drewN | apply Kd.S_drew)); exact Kd.S_mono (Kd.S_far (p := ⟨gb181, 2, none⟩) (Kd.S_types HO_181001.out BK181.out (by decide)) (fun _ hk => hk.2) (.slice Ao119 y213.length co119)) (fun _ hk => trivial)⟩, ⟨by (with_reducible repeat (first | apply Kd.S_alloc | apply Kd.S_drewN | apply Kd.S_drew)); exact Kd.S_mono (Kd.S_far (p := ⟨gb181, 2, none⟩) (Kd.S_types HO_181002.out BK181.out (by decide)) (fun _ hk => hk.2) (.slice Ao119 y213.length co119)) (fun _ hk => ⟨hk.1.1, ⟨hk.1.2.1, hk.1.2.2⟩⟩)⟩, ⟨by (with_reducible repeat (first | apply Kd.R_alloc | apply Kd.R_drewN | apply Kd.R_drew)); exact Kd.R_mono (Kd.R_far (p := ⟨gb181, 2, none⟩) (Kd.R_types HO_182001.out BK181.out (by decide)) (fun _ hk => hk.2) (.slice Ao119 y213.length co119)) (fun _ hk => hk.1)⟩, ⟨by (with_reducible repeat (first | apply Kd.R_alloc | apply Kd.R_drewN | apply Kd.R_drew)); exact Kd.R_mono (Kd.R_far (p := ⟨gb181, 2, none⟩) (Kd.R_types HO215.out BK181.out (by decide)) (fun _ hk => hk.2) (.slice Ao119 y213.length co119)) (fun _ hk => hk.1)⟩, ⟨by (with_reducible repeat (first | refine blk_drewN ?_ _ | refine blk_drew ?_ | refine blk_alloc ?_ _)); refine blk_far ?_ NB159_181.out _; (with_reducible repeat (first | refine blk_drewN ?_ _ | refine blk_drew ?_ | refine blk_alloc ?_ _)); exact BK159.out⟩, ⟨by (with_reducible repeat (first | refine blk_drewN ?_ _ | refine blk_drew ?_ | refine blk_alloc ?_ _)); refine blk_far ?_ NB170_181.out _; (with_reducible repeat (first | refine blk_drewN ?_ _ | refine blk_drew ?_ | refine blk_alloc ?_ _)); exact BK170.out⟩, ⟨by (with_reducible repeat (first | refine blk_drewN ?_ _ | refine blk_drew ?_ | refine blk_alloc ?_ _)); refine blk_far ?_ NB180_181.out _; (with_reducible repeat (first | refine blk_drewN ?_ _ | refine blk_drew ?_ | refine blk_alloc ?_ _)); exact BK180.out⟩, ⟨by (with_reducible repeat (first | refine blk_drewN ?_ _ | refine blk_drew ?_ | refine blk_alloc ?_ _)); refine blk_put (cs := #[.bool false, .slice (some ad210) t171.length co32, u182002]) ?_ 2 _ rfl; (with_reducible repeat (first | refine blk_drewN ?_ _ | refine blk_drew ?_ | refine blk_alloc ?_ _)); exact BK181.out⟩, ⟨by repeat (first | (with_reducible first | exact HB.out | apply below_alloc | apply pw_below_drewN | apply below_drew1 | refine below_set ?_ GE159.out | refine below_set ?_ GE170.out | refine below_set ?_ GE180.out | refine below_set ?_ GE181.out) | exact HB.out)⟩⟩
                           ·rw [if_neg c111] at H
                            exact absurd H (by simp)
                          ·rw [if_neg c109] at H
                           exact absurd H (by simp)
                         ·rw [if_neg c108] at H
                          exact absurd H (by simp)
                        ·replace c107 := Bool.eq_false_iff.mpr c107
                         subst c107
                         have H1 : (laws_FnUndirectMerged.l1 kj52 a1 (wrap64 (Int.tmod a2 3)) t169 x12_2 (wrap64 (x13_3 + 1)) t162 t163 t166 t171 t174 t177 false t171 x182002_3) = some r := by rw [if_neg (show ¬ (false = true) by decide)] at H; exact H
                         clear H
                         have H := H1
                         clear H1
                         have H' := Aside0.mk H
                         clear H
                         have hnb121 := NB180_159.out
                         have hnc121 := NB159_180.out
                         have hnb122 := NB180_170.out
                         have hnc122 := NB170_180.out
                         have hnb123 := NB180_181.out
                         have hnc123 := NB181_180.out
                         have hcz124_0 : wc.cell? ⟨gb180, 0, none⟩ = some (.slice Ao32 t171.length co32) := (blk_cell BK180.out 0).trans rfl
                         have hcz124_1 : wc.cell? ⟨gb180, 1, none⟩ = some (.slice (some ad184) t174.length co36) := (blk_cell BK180.out 1).trans rfl
                         have hcz124_2 : wc.cell? ⟨gb180, 2, none⟩ = some (.slice Ao37 t177.length co37) := (blk_cell BK180.out 2).trans rfl
                         have hfz124_0 := blk_frozen BK180.out 0
                         have hfz124_1 := blk_frozen BK180.out 1
                         have hfz124_2 := blk_frozen BK180.out 2
                         have p188 : 0 ≤ (x13_3 : Int) := of_decide_eq_true (by first | (with_reducible assumption) | assumption)
                         have q188 : x13_3 < (t174.length : Int) := of_decide_eq_true (by first | (with_reducible assumption) | assumption)
                         obtain ⟨ad188, A188_0, c188_0, e188, hx188_0, hl188_0, hi188_0⟩ := at_L3 (Kd.S_reads' HO_181001.out).2.2 x13_3 p188 q188
                         obtain rfl : ad184 = ad188 := (by injection e188)
                         obtain ⟨ce188, hce188, hMe188, hcc188⟩ := Kd.S_get HO_181001.out [] x13_3 p188 (by first | exact q188 | exact of_decide_eq_true (by first | (with_reducible assumption) | assumption) | (have e_ := (Kd.S_reads' HO_181001.out).1; omega))
                         obtain ⟨ve188_0, rfl, ge188_0⟩ := hMe188
                         have hv188_0 := hcc188 0 _ rfl
                         rw [Nat.add_zero, show ((Kd.slice 4 Kd.bool)).sz = 1 from rfl, Nat.mul_one] at hv188_0
                         replace hv188_0 := Option.some.inj (hv188_0.symm.trans hx188_0)
                         rw [hv188_0] at ge188_0
                         have HL188_0 := Aside0.mk (show Kd.R Kd.bool 4 _ _ _ _ (rd_L3 t174 x13_3) from ge188_0)
                         clear hv188_0 ge188_0
                         clear hcc188 hce188
                         have HR188_0 := Aside0.mk hi188_0
                         have HC188_0 := Aside0.mk hl188_0
                         clear hi188_0 hl188_0
                         replace p188 := eq_true p188
                         replace q188 := eq_true q188
                         have p189 : 0 ≤ (x12_2 : Int) := of_decide_eq_true (by first | (with_reducible assumption) | assumption)
                         have q189 : x12_2 < ((rd_L3 t174 x13_3).length : Int) := of_decide_eq_true (by first | (with_reducible assumption) | assumption)
                         obtain ⟨ad189, e189, hx189_0⟩ := Kd.at_bool (by repeat (first | (with_reducible exact HR188_0.out) | (with_reducible refine Kd.C_alloc ?_ _) | (with_reducible refine Kd.C_drewN ?_ _) | (with_reducible refine Kd.C_drew ?_) | exact HR188_0.out)) x12_2 p189 q189
                         (try rw [← Nbq70.out] at hx189_0)
                         (try rw [← Nbq106.out] at hx189_0)
                         cases e189
                         replace p189 := eq_true p189
                         replace q189 := eq_true q189
                         have p208 : 0 ≤ (x12_2 : Int) := of_decide_eq_true (by first | (with_reducible assumption) | assumption)
                         have q208 : x12_2 < (t174.length : Int) := of_decide_eq_true (by first | (with_reducible assumption) | assumption)
                         obtain ⟨ad208, A208_0, c208_0, e208, hx208_0, hl208_0, hi208_0⟩ := at_L3 (Kd.S_reads' HO_181001.out).2.2 x12_2 p208 q208
                         obtain rfl : ad184 = ad208 := (by injection e208)
                         obtain ⟨ce208, hce208, hMe208, hcc208⟩ := Kd.S_get HO_181001.out [] x12_2 p208 (by first | exact q208 | exact of_decide_eq_true (by first | (with_reducible assumption) | assumption) | (have e_ := (Kd.S_reads' HO_181001.out).1; omega))
                         obtain ⟨ve208_0, rfl, ge208_0⟩ := hMe208
                         have hv208_0 := hcc208 0 _ rfl
                         rw [Nat.add_zero, show ((Kd.slice 4 Kd.bool)).sz = 1 from rfl, Nat.mul_one] at hv208_0
                         replace hv208_0 := Option.some.inj (hv208_0.symm.trans hx208_0)
                         rw [hv208_0] at ge208_0
                         have HL208_0 := Aside0.mk (show Kd.R Kd.bool 4 _ _ _ _ (rd_L3 t174 x12_2) from ge208_0)
                         clear hv208_0 ge208_0
                         clear hcc208 hce208
                         have HR208_0 := Aside0.mk hi208_0
                         have HC208_0 := Aside0.mk hl208_0
                         clear hi208_0 hl208_0
                         replace p208 := eq_true p208
                         replace q208 := eq_true q208
                         have p209 : 0 ≤ (x13_3 : Int) := of_decide_eq_true (by first | (with_reducible assumption) | assumption)
                         have q209 : x13_3 < ((rd_L3 t174 x12_2).length : Int) := of_decide_eq_true (by first | (with_reducible assumption) | assumption)
                         obtain ⟨ad209, e209, hx209_0⟩ := Kd.at_bool (by repeat (first | (with_reducible exact HR208_0.out) | (with_reducible refine Kd.C_alloc ?_ _) | (with_reducible refine Kd.C_drewN ?_ _) | (with_reducible refine Kd.C_drew ?_) | exact HR208_0.out)) x13_3 p209 q209
                         (try rw [← Nbq70.out] at hx209_0)
                         (try rw [← Nbq106.out] at hx209_0)
                         cases e209
                         replace p209 := eq_true p209
                         replace q209 := eq_true q209
                         have p216 : 0 ≤ (x13_3 : Int) := of_decide_eq_true (by first | (with_reducible assumption) | assumption)
                         have q216 : x13_3 < (t174.length : Int) := of_decide_eq_true (by first | (with_reducible assumption) | assumption)
                         obtain ⟨ad216, A216_0, c216_0, e216, hx216_0, hl216_0, hi216_0⟩ := at_L3 (Kd.S_reads' HO_181001.out).2.2 x13_3 p216 q216
                         obtain rfl : ad184 = ad216 := (by injection e216)
                         obtain ⟨ce216, hce216, hMe216, hcc216⟩ := Kd.S_get HO_181001.out [] x13_3 p216 (by first | exact q216 | exact of_decide_eq_true (by first | (with_reducible assumption) | assumption) | (have e_ := (Kd.S_reads' HO_181001.out).1; omega))
                         obtain ⟨ve216_0, rfl, ge216_0⟩ := hMe216
                         have hv216_0 := hcc216 0 _ rfl
                         rw [Nat.add_zero, show ((Kd.slice 4 Kd.bool)).sz = 1 from rfl, Nat.mul_one] at hv216_0
                         replace hv216_0 := Option.some.inj (hv216_0.symm.trans hx216_0)
                         rw [hv216_0] at ge216_0
                         have HL216_0 := Aside0.mk (show Kd.R Kd.bool 4 _ _ _ _ (rd_L3 t174 x13_3) from ge216_0)
                         clear hv216_0 ge216_0
                         clear hcc216 hce216
                         have HR216_0 := Aside0.mk hi216_0
                         have HC216_0 := Aside0.mk hl216_0
                         clear hi216_0 hl216_0
                         replace p216 := eq_true p216
                         replace q216 := eq_true q216
                         have ea_ := Option.some.inj (hx188_0.symm.trans hx216_0)
                         injection ea_ with ea_ en_ ec_
                         subst ea_
                         subst ec_
                         clear en_
                         have p217 : 0 ≤ (x12_2 : Int) := of_decide_eq_true (by first | (with_reducible assumption) | assumption)
                         have q217 : x12_2 < ((rd_L3 t174 x13_3).length : Int) := of_decide_eq_true (by first | (with_reducible assumption) | assumption)
                         obtain ⟨ad217, e217, hx217_0⟩ := Kd.at_bool (by repeat (first | (with_reducible exact HR216_0.out) | (with_reducible refine Kd.C_alloc ?_ _) | (with_reducible refine Kd.C_drewN ?_ _) | (with_reducible refine Kd.C_drew ?_) | exact HR216_0.out)) x12_2 p217 q217
                         (try rw [← Nbq70.out] at hx217_0)
                         (try rw [← Nbq106.out] at hx217_0)
                         cases e217
                         replace p217 := eq_true p217
                         replace q217 := eq_true q217
                         go_wp2
                         go_roundg kj52
                         case measure => have := HJ5.out; have := HK2.out; have := HK3.out; have := HJ52.out; omega
                         case rel => exact ⟨(wrap64 (x13_3 + 1)), (x182002_3), (u182002), (by first | rfl | (simp; done) | (simp [*]; done)), H', ⟨by have := HJ5.out; have := HK2.out; have := HK3.out; have := HJ52.out; omega⟩, ⟨by (with_reducible repeat (first | apply Kd.R_alloc | apply Kd.R_drewN | apply Kd.R_drew)); exact HO_171001.out⟩, ⟨by (with_reducible repeat (first | apply Kd.R_alloc | apply Kd.R_drewN | apply Kd.R_drew)); exact HO_171002.out⟩, ⟨by (with_reducible repeat (first | apply Kd.R_alloc | apply Kd.R_drewN | apply Kd.R_drew)); exact HO_181000.out⟩, ⟨by (with_reducible repeat (first | apply Kd.S_alloc | apply Kd.S_drewN | apply Kd.S_drew)); exact HO_181001.out⟩, ⟨by (with_reducible repeat (first | apply Kd.S_alloc | apply Kd.S_drewN | apply Kd.S_drew)); exact HO_181002.out⟩, ⟨by (with_reducible repeat (first | apply Kd.R_alloc | apply Kd.R_drewN | apply Kd.R_drew)); exact HO_182001.out⟩, ⟨by (with_reducible repeat (first | apply Kd.R_alloc | apply Kd.R_drewN | apply Kd.R_drew)); exact HO_182002.out⟩, ⟨by (with_reducible repeat (first | refine blk_drewN ?_ _ | refine blk_drew ?_ | refine blk_alloc ?_ _)); exact BK159.out⟩, ⟨by (with_reducible repeat (first | refine blk_drewN ?_ _ | refine blk_drew ?_ | refine blk_alloc ?_ _)); exact BK170.out⟩, ⟨by (with_reducible repeat (first | refine blk_drewN ?_ _ | refine blk_drew ?_ | refine blk_alloc ?_ _)); exact BK180.out⟩, ⟨by (with_reducible repeat (first | refine blk_drewN ?_ _ | refine blk_drew ?_ | refine blk_alloc ?_ _)); exact BK181.out⟩, ⟨by repeat (first | (with_reducible first | exact HB.out | apply below_alloc | apply pw_below_drewN | apply below_drew1 | refine below_set ?_ GE159.out | refine below_set ?_ GE170.out | refine below_set ?_ GE180.out | refine below_set ?_ GE181.out) | exact HB.out)⟩⟩
                       ·rw [if_neg c105] at H
                        exact absurd H (by simp)
                      ·rw [if_neg c104] at H
                       exact absurd H (by simp)
                    ·rw [if_neg c69] at H
                     exact absurd H (by simp)
                   ·rw [if_neg c68] at H
                    exact absurd H (by simp)
                  ·rw [if_neg c67] at H
                   exact absurd H (by simp)
                 ·rw [if_neg c66] at H
                  exact absurd H (by simp)
              ·rw [if_neg c52] at H
               exact absurd H (by simp)
             ·rw [if_neg c51] at H
              exact absurd H (by simp)
            ·rw [if_neg c50] at H
             exact absurd H (by simp)
           ·rw [if_neg c49] at H
            exact absurd H (by simp)
          ·rw [if_neg c48] at H
           have c48b0 : decide (x13_3 < (t171.length : Int)) = false := decide_eq_false c48
           clear c48
           have H' := Aside0.mk H
           clear H
           have hnb125 := NB180_159.out
           have hnc125 := NB159_180.out
           have hnb126 := NB180_170.out
           have hnc126 := NB170_180.out
           have hnb127 := NB180_181.out
           have hnc127 := NB181_180.out
           have hcz128_0 : wr.cell? ⟨gb180, 0, none⟩ = some (.slice Ao32 t171.length co32) := (blk_cell BK180.out 0).trans rfl
           have hcz128_1 : wr.cell? ⟨gb180, 1, none⟩ = some (.slice Ao36 t174.length co36) := (blk_cell BK180.out 1).trans rfl
           have hcz128_2 : wr.cell? ⟨gb180, 2, none⟩ = some (.slice Ao37 t177.length co37) := (blk_cell BK180.out 2).trans rfl
           have hfz128_0 := blk_frozen BK180.out 0
           have hfz128_1 := blk_frozen BK180.out 1
           have hfz128_2 := blk_frozen BK180.out 2
           go_wp2
           go_roundg k3
           case measure => have := HJ5.out; have := HK2.out; have := HK3.out; omega
           case rel => exact ⟨(wrap64 (x12_2 + 1)), (x182002_3), (u182002), (by first | rfl | (simp; done) | (simp [*]; done)), H', ⟨by have := HJ5.out; have := HK2.out; have := HK3.out; omega⟩, ⟨by (with_reducible repeat (first | apply Kd.R_alloc | apply Kd.R_drewN | apply Kd.R_drew)); exact HO_171001.out⟩, ⟨by (with_reducible repeat (first | apply Kd.R_alloc | apply Kd.R_drewN | apply Kd.R_drew)); exact HO_171002.out⟩, ⟨by (with_reducible repeat (first | apply Kd.R_alloc | apply Kd.R_drewN | apply Kd.R_drew)); exact HO_181000.out⟩, ⟨by (with_reducible repeat (first | apply Kd.S_alloc | apply Kd.S_drewN | apply Kd.S_drew)); exact HO_181001.out⟩, ⟨by (with_reducible repeat (first | apply Kd.S_alloc | apply Kd.S_drewN | apply Kd.S_drew)); exact HO_181002.out⟩, ⟨by (with_reducible repeat (first | apply Kd.R_alloc | apply Kd.R_drewN | apply Kd.R_drew)); exact HO_182001.out⟩, ⟨by (with_reducible repeat (first | apply Kd.R_alloc | apply Kd.R_drewN | apply Kd.R_drew)); exact HO_182002.out⟩, ⟨by (with_reducible repeat (first | refine blk_drewN ?_ _ | refine blk_drew ?_ | refine blk_alloc ?_ _)); exact BK159.out⟩, ⟨by (with_reducible repeat (first | refine blk_drewN ?_ _ | refine blk_drew ?_ | refine blk_alloc ?_ _)); exact BK170.out⟩, ⟨by (with_reducible repeat (first | refine blk_drewN ?_ _ | refine blk_drew ?_ | refine blk_alloc ?_ _)); exact BK180.out⟩, ⟨by (with_reducible repeat (first | refine blk_drewN ?_ _ | refine blk_drew ?_ | refine blk_alloc ?_ _)); exact BK181.out⟩, ⟨by repeat (first | (with_reducible first | exact HB.out | apply below_alloc | apply pw_below_drewN | apply below_drew1 | refine below_set ?_ GE159.out | refine below_set ?_ GE170.out | refine below_set ?_ GE180.out | refine below_set ?_ GE181.out) | exact HB.out)⟩⟩
       ·rw [if_neg c43] at H
        have c43b0 : decide (x12_2 < (t171.length : Int)) = false := decide_eq_false c43
        clear c43
        by_cases c129 : t169 = true
        ·subst c129
         have H1 : (some false) = some r := by rw [if_pos rfl] at H; exact H
         clear H
         have H := H1
         clear H1
         obtain rfl := Option.some.inj H
         have hnb130 := NB180_159.out
         have hnc130 := NB159_180.out
         have hnb131 := NB180_170.out
         have hnc131 := NB170_180.out
         have hnb132 := NB180_181.out
         have hnc132 := NB181_180.out
         have hcz133_0 : wr.cell? ⟨gb180, 0, none⟩ = some (.slice Ao32 t171.length co32) := (blk_cell BK180.out 0).trans rfl
         have hcz133_1 : wr.cell? ⟨gb180, 1, none⟩ = some (.slice Ao36 t174.length co36) := (blk_cell BK180.out 1).trans rfl
         have hcz133_2 : wr.cell? ⟨gb180, 2, none⟩ = some (.slice Ao37 t177.length co37) := (blk_cell BK180.out 2).trans rfl
         have hfz133_0 := blk_frozen BK180.out 0
         have hfz133_1 := blk_frozen BK180.out 1
         have hfz133_2 := blk_frozen BK180.out 2
         go_wp2
         go_ret
         exact ⟨by first | rfl | (simp [errW_none, errW_some] <;> rfl) | (simp [*, errW_none, errW_some] <;> rfl), by repeat (first | (with_reducible first | exact HB.out | apply below_alloc | apply pw_below_drewN | apply below_drew1 | refine below_set ?_ GE159.out | refine below_set ?_ GE170.out | refine below_set ?_ GE180.out | refine below_set ?_ GE181.out) | exact HB.out)⟩
        ·replace c129 := Bool.eq_false_iff.mpr c129
         subst c129
         have H1 : ((laws_sameGraph.f k2 t162 t163 t166 false t171 x182002_2).bind fun t182 => (if t182 = true then ((laws_merges.f k2).bind fun t183 => (some t183)) else (some false))) = some r := by rw [if_neg (show ¬ (false = true) by decide)] at H; exact H
         clear H
         have H := H1
         clear H1
         replace H := Option.bind_eq_some_iff.mp H
         obtain ⟨t182, A1340, H⟩ := H
         replace H : (if t182 = true then ((laws_merges.f k2).bind fun t183 => (some t183)) else (some false)) = some r := H
         have A134 := Aside0.mk A1340
         clear A1340
         by_cases c135 : t182 = true
         ·subst c135
          have H1 : ((laws_merges.f k2).bind fun t183 => (some t183)) = some r := by rw [if_pos rfl] at H; exact H
          clear H
          have H := H1
          clear H1
          replace H := Option.bind_eq_some_iff.mp H
          obtain ⟨t183, A1360, H⟩ := H
          replace H : (some t183) = some r := H
          have A136 := Aside0.mk A1360
          clear A1360
          obtain rfl := Option.some.inj H
          have hnb137 := NB180_159.out
          have hnc137 := NB159_180.out
          have hnb138 := NB180_170.out
          have hnc138 := NB170_180.out
          have hnb139 := NB180_181.out
          have hnc139 := NB181_180.out
          have hcz140_0 : wr.cell? ⟨gb180, 0, none⟩ = some (.slice Ao32 t171.length co32) := (blk_cell BK180.out 0).trans rfl
          have hcz140_1 : wr.cell? ⟨gb180, 1, none⟩ = some (.slice Ao36 t174.length co36) := (blk_cell BK180.out 1).trans rfl
          have hcz140_2 : wr.cell? ⟨gb180, 2, none⟩ = some (.slice Ao37 t177.length co37) := (blk_cell BK180.out 2).trans rfl
          have hfz140_0 := blk_frozen BK180.out 0
          have hfz140_1 := blk_frozen BK180.out 1
          have hfz140_2 := blk_frozen BK180.out 2
          have hnb141 := NB170_159.out
          have hnc141 := NB159_170.out
          have hnb142 := NB170_181.out
          have hnc142 := NB181_170.out
          have hcz143_0 : wr.cell? ⟨gb170, 0, none⟩ = some (.bool t162) := (blk_cell BK170.out 0).trans rfl
          have hcz143_1 : wr.cell? ⟨gb170, 1, none⟩ = some (.slice Ao27 t163.length co27) := (blk_cell BK170.out 1).trans rfl
          have hcz143_2 : wr.cell? ⟨gb170, 2, none⟩ = some (.slice Ao28 t166.length co28) := (blk_cell BK170.out 2).trans rfl
          have hfz143_0 := blk_frozen BK170.out 0
          have hfz143_1 := blk_frozen BK170.out 1
          have hfz143_2 := blk_frozen BK170.out 2
          have hnb144 := NB181_159.out
          have hnc144 := NB159_181.out
          have hcz145_0 : wr.cell? ⟨gb181, 0, none⟩ = some (.bool false) := (blk_cell BK181.out 0).trans rfl
          have hcz145_1 : wr.cell? ⟨gb181, 1, none⟩ = some (.slice Ao32 t171.length co32) := (blk_cell BK181.out 1).trans rfl
          have hcz145_2 : wr.cell? ⟨gb181, 2, none⟩ = some (u182002) := (blk_cell BK181.out 2).trans rfl
          have hfz145_0 := blk_frozen BK181.out 0
          have hfz145_1 := blk_frozen BK181.out 1
          have hfz145_2 := blk_frozen BK181.out 2
          obtain ⟨Ao146, co146, eo146⟩ := Kd.R_slice HO_182002.out
          subst eo146
          go_wp2_with (first | (go_at_call 15; (with_reducible refine (laws_sameGraph.calls k2 t162 _ _ t163 _ _ t166 false _ _ t171 _ _ x182002_2 true _ ?side1 ?side2 ?side3 ?side4 ?side5 ?side6 ?side7 ?side8 A134.out).mono ?_); (case side1 => repeat (first | exact (Kd.R_reads' HO_171001.out).2.2 | (with_reducible refine Kd.C_alloc ?_ _) | (with_reducible refine Kd.C_drewN ?_ _) | (with_reducible refine Kd.C_drew ?_))); (case side2 => exact (Kd.R_reads' HO_171001.out).2.1); (case side3 => repeat (first | exact (Kd.R_reads' HO_171002.out).2.2 | (with_reducible refine Kd.C_alloc ?_ _) | (with_reducible refine Kd.C_drewN ?_ _) | (with_reducible refine Kd.C_drew ?_))); (case side4 => exact (Kd.R_reads' HO_171002.out).2.1); (case side5 => repeat (first | exact (Kd.R_reads' HO_182001.out).2.2 | (with_reducible refine Kd.C_alloc ?_ _) | (with_reducible refine Kd.C_drewN ?_ _) | (with_reducible refine Kd.C_drew ?_))); (case side6 => exact (Kd.R_reads' HO_182001.out).2.1); (case side7 => repeat (first | exact (Kd.R_reads' HO_182002.out).2.2 | (with_reducible refine Kd.C_alloc ?_ _) | (with_reducible refine Kd.C_drewN ?_ _) | (with_reducible refine Kd.C_drew ?_))); (case side8 => exact (Kd.R_reads' HO_182002.out).2.1); rintro e w147 ⟨rfl, hb⟩; have n0_ := Aside0.mk (Kd.R_below (by (with_reducible repeat (first | apply Kd.R_alloc | apply Kd.R_drewN | apply Kd.R_drew)); exact HO_171001.out) hb); have n1_ := Aside0.mk (Kd.R_below (by (with_reducible repeat (first | apply Kd.R_alloc | apply Kd.R_drewN | apply Kd.R_drew)); exact HO_171002.out) hb); have n2_ := Aside0.mk (Kd.R_below (by (with_reducible repeat (first | apply Kd.R_alloc | apply Kd.R_drewN | apply Kd.R_drew)); exact HO_181000.out) hb); have n3_ := Aside0.mk (Kd.S_below (by (with_reducible repeat (first | apply Kd.S_alloc | apply Kd.S_drewN | apply Kd.S_drew)); exact HO_181001.out) hb); have n4_ := Aside0.mk (Kd.S_below (by (with_reducible repeat (first | apply Kd.S_alloc | apply Kd.S_drewN | apply Kd.S_drew)); exact HO_181002.out) hb); have n5_ := Aside0.mk (Kd.R_below (by (with_reducible repeat (first | apply Kd.R_alloc | apply Kd.R_drewN | apply Kd.R_drew)); exact HO_182001.out) hb); have n6_ := Aside0.mk (Kd.R_below (by (with_reducible repeat (first | apply Kd.R_alloc | apply Kd.R_drewN | apply Kd.R_drew)); exact HO_182002.out) hb); have n7_ := Aside0.mk (blk_below (g := gb159) (o := .cells #[.bool a0_0, .slice A0_1 l0_1.length c0_1, .slice A0_2 l0_2.length c0_2] 25 (0, 0)) (by (with_reducible repeat (first | refine blk_drewN ?_ _ | refine blk_drew ?_ | refine blk_alloc ?_ _)); exact BK159.out) hb); have n8_ := Aside0.mk (blk_below (g := gb170) (o := .cells #[.bool t162, .slice Ao27 t163.length co27, .slice Ao28 t166.length co28] 25 (0, 0)) (by (with_reducible repeat (first | refine blk_drewN ?_ _ | refine blk_drew ?_ | refine blk_alloc ?_ _)); exact BK170.out) hb); have n9_ := Aside0.mk (blk_below (g := gb180) (o := .cells #[.slice Ao32 t171.length co32, .slice Ao36 t174.length co36, .slice Ao37 t177.length co37] 33 (0, 0)) (by (with_reducible repeat (first | refine blk_drewN ?_ _ | refine blk_drew ?_ | refine blk_alloc ?_ _)); exact BK180.out) hb); have n10_ := Aside0.mk (blk_below (g := gb181) (o := .cells #[.bool false, .slice Ao32 t171.length co32, .slice Ao146 x182002_2.length co146] 25 (0, 0)) (by (with_reducible repeat (first | refine blk_drewN ?_ _ | refine blk_drew ?_ | refine blk_alloc ?_ _)); exact BK181.out) hb); have n11_ := Aside0.mk (below_step (by repeat (first | (with_reducible first | exact HB.out | apply below_alloc | apply pw_below_drewN | apply below_drew1 | refine below_set ?_ GE159.out | refine below_set ?_ GE170.out | refine below_set ?_ GE180.out | refine below_set ?_ GE181.out) | exact HB.out)) hb); clear HO_171001; clear HO_171002; clear HO_181000; clear HO_181001; clear HO_181002; clear HO_182001; clear HO_182002; clear BK159; clear BK170; clear BK180; clear BK181; clear HB; have HO_171001 := n0_; have HO_171002 := n1_; have HO_181000 := n2_; have HO_181001 := n3_; have HO_181002 := n4_; have HO_182001 := n5_; have HO_182002 := n6_; have BK159 := n7_; have BK170 := n8_; have BK180 := n9_; have BK181 := n10_; have HB := n11_; clear n0_ n1_ n2_ n3_ n4_ n5_ n6_ n7_ n8_ n9_ n10_ n11_; (try clear hb); (try clear hb2); (try clear hk); (try clear hi)) | (go_at_call 16; (with_reducible refine (laws_merges.calls k2  t183 _ A136.out).mono ?_); rintro e w148 ⟨rfl, hb⟩; have n0_ := Aside0.mk (Kd.R_below (by (with_reducible repeat (first | apply Kd.R_alloc | apply Kd.R_drewN | apply Kd.R_drew)); exact HO_171001.out) hb); have n1_ := Aside0.mk (Kd.R_below (by (with_reducible repeat (first | apply Kd.R_alloc | apply Kd.R_drewN | apply Kd.R_drew)); exact HO_171002.out) hb); have n2_ := Aside0.mk (Kd.R_below (by (with_reducible repeat (first | apply Kd.R_alloc | apply Kd.R_drewN | apply Kd.R_drew)); exact HO_181000.out) hb); have n3_ := Aside0.mk (Kd.S_below (by (with_reducible repeat (first | apply Kd.S_alloc | apply Kd.S_drewN | apply Kd.S_drew)); exact HO_181001.out) hb); have n4_ := Aside0.mk (Kd.S_below (by (with_reducible repeat (first | apply Kd.S_alloc | apply Kd.S_drewN | apply Kd.S_drew)); exact HO_181002.out) hb); have n5_ := Aside0.mk (Kd.R_below (by (with_reducible repeat (first | apply Kd.R_alloc | apply Kd.R_drewN | apply Kd.R_drew)); exact HO_182001.out) hb); have n6_ := Aside0.mk (Kd.R_below (by (with_reducible repeat (first | apply Kd.R_alloc | apply Kd.R_drewN | apply Kd.R_drew)); exact HO_182002.out) hb); have n7_ := Aside0.mk (blk_below (g := gb159) (o := .cells #[.bool a0_0, .slice A0_1 l0_1.length c0_1, .slice A0_2 l0_2.length c0_2] 25 (0, 0)) (by (with_reducible repeat (first | refine blk_drewN ?_ _ | refine blk_drew ?_ | refine blk_alloc ?_ _)); exact BK159.out) hb); have n8_ := Aside0.mk (blk_below (g := gb170) (o := .cells #[.bool t162, .slice Ao27 t163.length co27, .slice Ao28 t166.length co28] 25 (0, 0)) (by (with_reducible repeat (first | refine blk_drewN ?_ _ | refine blk_drew ?_ | refine blk_alloc ?_ _)); exact BK170.out) hb); have n9_ := Aside0.mk (blk_below (g := gb180) (o := .cells #[.slice Ao32 t171.length co32, .slice Ao36 t174.length co36, .slice Ao37 t177.length co37] 33 (0, 0)) (by (with_reducible repeat (first | refine blk_drewN ?_ _ | refine blk_drew ?_ | refine blk_alloc ?_ _)); exact BK180.out) hb); have n10_ := Aside0.mk (blk_below (g := gb181) (o := .cells #[.bool false, .slice Ao32 t171.length co32, .slice Ao146 x182002_2.length co146] 25 (0, 0)) (by (with_reducible repeat (first | refine blk_drewN ?_ _ | refine blk_drew ?_ | refine blk_alloc ?_ _)); exact BK181.out) hb); have n11_ := Aside0.mk (below_step (by repeat (first | (with_reducible first | exact HB.out | apply below_alloc | apply pw_below_drewN | apply below_drew1 | refine below_set ?_ GE159.out | refine below_set ?_ GE170.out | refine below_set ?_ GE180.out | refine below_set ?_ GE181.out) | exact HB.out)) hb); clear HO_171001; clear HO_171002; clear HO_181000; clear HO_181001; clear HO_181002; clear HO_182001; clear HO_182002; clear BK159; clear BK170; clear BK180; clear BK181; clear HB; have HO_171001 := n0_; have HO_171002 := n1_; have HO_181000 := n2_; have HO_181001 := n3_; have HO_181002 := n4_; have HO_182001 := n5_; have HO_182002 := n6_; have BK159 := n7_; have BK170 := n8_; have BK180 := n9_; have BK181 := n10_; have HB := n11_; clear n0_ n1_ n2_ n3_ n4_ n5_ n6_ n7_ n8_ n9_ n10_ n11_; (try clear hb); (try clear hb2); (try clear hk); (try clear hi)))
          go_ret
          exact ⟨by first | rfl | (simp [errW_none, errW_some] <;> rfl) | (simp [*, errW_none, errW_some] <;> rfl), by repeat (first | (with_reducible first | exact HB.out | apply below_alloc | apply pw_below_drewN | apply below_drew1 | refine below_set ?_ GE159.out | refine below_set ?_ GE170.out | refine below_set ?_ GE180.out | refine below_set ?_ GE181.out) | exact HB.out)⟩
         ·replace c135 := Bool.eq_false_iff.mpr c135
          subst c135
          have H1 : (some false) = some r := by rw [if_neg (show ¬ (false = true) by decide)] at H; exact H
          clear H
          have H := H1
          clear H1
          obtain rfl := Option.some.inj H
          have hnb149 := NB180_159.out
          have hnc149 := NB159_180.out
          have hnb150 := NB180_170.out
          have hnc150 := NB170_180.out
          have hnb151 := NB180_181.out
          have hnc151 := NB181_180.out
          have hcz152_0 : wr.cell? ⟨gb180, 0, none⟩ = some (.slice Ao32 t171.length co32) := (blk_cell BK180.out 0).trans rfl
          have hcz152_1 : wr.cell? ⟨gb180, 1, none⟩ = some (.slice Ao36 t174.length co36) := (blk_cell BK180.out 1).trans rfl
          have hcz152_2 : wr.cell? ⟨gb180, 2, none⟩ = some (.slice Ao37 t177.length co37) := (blk_cell BK180.out 2).trans rfl
          have hfz152_0 := blk_frozen BK180.out 0
          have hfz152_1 := blk_frozen BK180.out 1
          have hfz152_2 := blk_frozen BK180.out 2
          have hnb153 := NB170_159.out
          have hnc153 := NB159_170.out
          have hnb154 := NB170_181.out
          have hnc154 := NB181_170.out
          have hcz155_0 : wr.cell? ⟨gb170, 0, none⟩ = some (.bool t162) := (blk_cell BK170.out 0).trans rfl
          have hcz155_1 : wr.cell? ⟨gb170, 1, none⟩ = some (.slice Ao27 t163.length co27) := (blk_cell BK170.out 1).trans rfl
          have hcz155_2 : wr.cell? ⟨gb170, 2, none⟩ = some (.slice Ao28 t166.length co28) := (blk_cell BK170.out 2).trans rfl
          have hfz155_0 := blk_frozen BK170.out 0
          have hfz155_1 := blk_frozen BK170.out 1
          have hfz155_2 := blk_frozen BK170.out 2
          have hnb156 := NB181_159.out
          have hnc156 := NB159_181.out
          have hcz157_0 : wr.cell? ⟨gb181, 0, none⟩ = some (.bool false) := (blk_cell BK181.out 0).trans rfl
          have hcz157_1 : wr.cell? ⟨gb181, 1, none⟩ = some (.slice Ao32 t171.length co32) := (blk_cell BK181.out 1).trans rfl
          have hcz157_2 : wr.cell? ⟨gb181, 2, none⟩ = some (u182002) := (blk_cell BK181.out 2).trans rfl
          have hfz157_0 := blk_frozen BK181.out 0
          have hfz157_1 := blk_frozen BK181.out 1
          have hfz157_2 := blk_frozen BK181.out 2
          obtain ⟨Ao158, co158, eo158⟩ := Kd.R_slice HO_182002.out
          subst eo158
          go_wp2_with (first | (go_at_call 15; (with_reducible refine (laws_sameGraph.calls k2 t162 _ _ t163 _ _ t166 false _ _ t171 _ _ x182002_2 false _ ?side1 ?side2 ?side3 ?side4 ?side5 ?side6 ?side7 ?side8 A134.out).mono ?_); (case side1 => repeat (first | exact (Kd.R_reads' HO_171001.out).2.2 | (with_reducible refine Kd.C_alloc ?_ _) | (with_reducible refine Kd.C_drewN ?_ _) | (with_reducible refine Kd.C_drew ?_))); (case side2 => exact (Kd.R_reads' HO_171001.out).2.1); (case side3 => repeat (first | exact (Kd.R_reads' HO_171002.out).2.2 | (with_reducible refine Kd.C_alloc ?_ _) | (with_reducible refine Kd.C_drewN ?_ _) | (with_reducible refine Kd.C_drew ?_))); (case side4 => exact (Kd.R_reads' HO_171002.out).2.1); (case side5 => repeat (first | exact (Kd.R_reads' HO_182001.out).2.2 | (with_reducible refine Kd.C_alloc ?_ _) | (with_reducible refine Kd.C_drewN ?_ _) | (with_reducible refine Kd.C_drew ?_))); (case side6 => exact (Kd.R_reads' HO_182001.out).2.1); (case side7 => repeat (first | exact (Kd.R_reads' HO_182002.out).2.2 | (with_reducible refine Kd.C_alloc ?_ _) | (with_reducible refine Kd.C_drewN ?_ _) | (with_reducible refine Kd.C_drew ?_))); (case side8 => exact (Kd.R_reads' HO_182002.out).2.1); rintro e w159 ⟨rfl, hb⟩; have n0_ := Aside0.mk (Kd.R_below (by (with_reducible repeat (first | apply Kd.R_alloc | apply Kd.R_drewN | apply Kd.R_drew)); exact HO_171001.out) hb); have n1_ := Aside0.mk (Kd.R_below (by (with_reducible repeat (first | apply Kd.R_alloc | apply Kd.R_drewN | apply Kd.R_drew)); exact HO_171002.out) hb); have n2_ := Aside0.mk (Kd.R_below (by (with_reducible repeat (first | apply Kd.R_alloc | apply Kd.R_drewN | apply Kd.R_drew)); exact HO_181000.out) hb); have n3_ := Aside0.mk (Kd.S_below (by (with_reducible repeat (first | apply Kd.S_alloc | apply Kd.S_drewN | apply Kd.S_drew)); exact HO_181001.out) hb); have n4_ := Aside0.mk (Kd.S_below (by (with_reducible repeat (first | apply Kd.S_alloc | apply Kd.S_drewN | apply Kd.S_drew)); exact HO_181002.out) hb); have n5_ := Aside0.mk (Kd.R_below (by (with_reducible repeat (first | apply Kd.R_alloc | apply Kd.R_drewN | apply Kd.R_drew)); exact HO_182001.out) hb); have n6_ := Aside0.mk (Kd.R_below (by (with_reducible repeat (first | apply Kd.R_alloc | apply Kd.R_drewN | apply Kd.R_drew)); exact HO_182002.out) hb); have n7_ := Aside0.mk (blk_below (g := gb159) (o := .cells #[.bool a0_0, .slice A0_1 l0_1.length c0_1, .slice A0_2 l0_2.length c0_2] 25 (0, 0)) (by (with_reducible repeat (first | refine blk_drewN ?_ _ | refine blk_drew ?_ | refine blk_alloc ?_ _)); exact BK159.out) hb); have n8_ := Aside0.mk (blk_below (g := gb170) (o := .cells #[.bool t162, .slice Ao27 t163.length co27, .slice Ao28 t166.length co28] 25 (0, 0)) (by (with_reducible repeat (first | refine blk_drewN ?_ _ | refine blk_drew ?_ | refine blk_alloc ?_ _)); exact BK170.out) hb); have n9_ := Aside0.mk (blk_below (g := gb180) (o := .cells #[.slice Ao32 t171.length co32, .slice Ao36 t174.length co36, .slice Ao37 t177.length co37] 33 (0, 0)) (by (with_reducible repeat (first | refine blk_drewN ?_ _ | refine blk_drew ?_ | refine blk_alloc ?_ _)); exact BK180.out) hb); have n10_ := Aside0.mk (blk_below (g := gb181) (o := .cells #[.bool false, .slice Ao32 t171.length co32, .slice Ao158 x182002_2.length co158] 25 (0, 0)) (by (with_reducible repeat (first | refine blk_drewN ?_ _ | refine blk_drew ?_ | refine blk_alloc ?_ _)); exact BK181.out) hb); have n11_ := Aside0.mk (below_step (by repeat (first | (with_reducible first | exact HB.out | apply below_alloc | apply pw_below_drewN | apply below_drew1 | refine below_set ?_ GE159.out | refine below_set ?_ GE170.out | refine below_set ?_ GE180.out | refine below_set ?_ GE181.out) | exact HB.out)) hb); clear HO_171001; clear HO_171002; clear HO_181000; clear HO_181001; clear HO_181002; clear HO_182001; clear HO_182002; clear BK159; clear BK170; clear BK180; clear BK181; clear HB; have HO_171001 := n0_; have HO_171002 := n1_; have HO_181000 := n2_; have HO_181001 := n3_; have HO_181002 := n4_; have HO_182001 := n5_; have HO_182002 := n6_; have BK159 := n7_; have BK170 := n8_; have BK180 := n9_; have BK181 := n10_; have HB := n11_; clear n0_ n1_ n2_ n3_ n4_ n5_ n6_ n7_ n8_ n9_ n10_ n11_; (try clear hb); (try clear hb2); (try clear hk); (try clear hi)))
          go_ret
          exact ⟨by first | rfl | (simp [errW_none, errW_some] <;> rfl) | (simp [*, errW_none, errW_some] <;> rfl), by repeat (first | (with_reducible first | exact HB.out | apply below_alloc | apply pw_below_drewN | apply below_drew1 | refine below_set ?_ GE159.out | refine below_set ?_ GE170.out | refine below_set ?_ GE180.out | refine below_set ?_ GE181.out) | exact HB.out)⟩
 ·replace c5 := Bool.eq_false_iff.mpr c5
  subst c5
  have H1 : (some true) = some r := by rw [if_neg (show ¬ (false = true) by decide)] at H; exact H
  clear H
  have H := H1
  clear H1
  obtain rfl := Option.some.inj H
  go_enter Tryz.func3, Tryz.ntmps3
  go_wp2_with (first | ((with_reducible refine gate_dst (N := 3) rfl ?_); refine box_event ?hg (N := 3) ?hd (cs := #[.bool a0_0, .slice A0_1 l0_1.length c0_1, .slice A0_2 l0_2.length c0_2]) (t := 25) ?hr ?_; (case hd => rfl); (case hg => rfl); (case hr => first | (go_simp; done) | (go_simp; rfl)); intro gb159 hg w160 hbox hb; have n0_ := Aside0.mk (below_step (by repeat (first | (with_reducible first | exact HB.out | apply below_alloc | apply pw_below_drewN | apply below_drew1) | exact HB.out)) hb); have n1_ := Aside0.mk (hbox); have n2_ := Aside0.mk ((by rw [hg]; exact (below_size (by repeat (first | (with_reducible first | exact HB.out | apply below_alloc | apply pw_below_drewN | apply below_drew1) | exact HB.out))) : w.heap.size ≤ gb159)); have n3_ := Aside0.mk ((by rw [hg]; exact (below_size (by repeat (first | (with_reducible first | exact HB.out | apply below_alloc | apply pw_below_drewN | apply below_drew1) | exact HB.out))) : w.heap.size ≤ gb159)); clear HB; have HB := n0_; have BK159 := n1_; have GW159 := n2_; have GE159 := n3_; clear n0_ n1_ n2_ n3_; clear hb hbox hg; have hcz161_0 : w160.cell? ⟨gb159, 0, none⟩ = some (.bool a0_0) := (blk_cell BK159.out 0).trans rfl; have hcz161_1 : w160.cell? ⟨gb159, 1, none⟩ = some (.slice A0_1 l0_1.length c0_1) := (blk_cell BK159.out 1).trans rfl; have hcz161_2 : w160.cell? ⟨gb159, 2, none⟩ = some (.slice A0_2 l0_2.length c0_2) := (blk_cell BK159.out 2).trans rfl; have hfz161_0 := blk_frozen BK159.out 0; have hfz161_1 := blk_frozen BK159.out 1; have hfz161_2 := blk_frozen BK159.out 2) | ((with_reducible refine gate_callee (f := 10) rfl ?_); refine goesL_ (some 17) rfl rfl Tryz.func10 (by kernel_rfl) rfl #[.agg #[.bool a0_0, .slice A0_1 l0_1.length c0_1, .slice A0_2 l0_2.length c0_2]] rfl (by (try simp only [List.map_toArray, List.map_cons, List.map_nil]); first | done | rfl | (simp only [List.length_drop, List.length_take]; rfl)) ?_; (with_reducible refine (laws_zzFits1.calls a0_0 _ _ l0_1 _ _ l0_2 false _ ?side1 ?side2 ?side3 ?side4 A4.out).mono ?_); (case side1 => repeat (first | exact (Kd.C_below HR0_1.out HB.out) | (with_reducible refine Kd.C_alloc ?_ _) | (with_reducible refine Kd.C_drewN ?_ _) | (with_reducible refine Kd.C_drew ?_))); (case side2 => exact HC0_1.out); (case side3 => repeat (first | exact (Kd.C_below HR0_2.out HB.out) | (with_reducible refine Kd.C_alloc ?_ _) | (with_reducible refine Kd.C_drewN ?_ _) | (with_reducible refine Kd.C_drew ?_))); (case side4 => exact HC0_2.out); rintro e w162 ⟨rfl, hb⟩; refine ⟨_, rfl, ?_⟩; have n0_ := Aside0.mk (blk_below (g := gb159) (o := .cells #[.bool a0_0, .slice A0_1 l0_1.length c0_1, .slice A0_2 l0_2.length c0_2] 25 (0, 0)) (by (with_reducible repeat (first | refine blk_drewN ?_ _ | refine blk_drew ?_ | refine blk_alloc ?_ _)); exact BK159.out) hb); have n1_ := Aside0.mk (below_step (by repeat (first | (with_reducible first | exact HB.out | apply below_alloc | apply pw_below_drewN | apply below_drew1 | refine below_set ?_ GE159.out) | exact HB.out)) hb); clear BK159; clear HB; have BK159 := n0_; have HB := n1_; clear n0_ n1_; (try clear hb); (try clear hb2); (try clear hk); (try clear hi)))
  go_ret
  exact ⟨by first | rfl | (simp [errW_none, errW_some] <;> rfl) | (simp [*, errW_none, errW_some] <;> rfl), by repeat (first | (with_reducible first | exact HB.out | apply below_alloc | apply pw_below_drewN | apply below_drew1 | refine below_set ?_ GE159.out) | exact HB.out)⟩

end Go.Proofs.YtfkmpnpliadohaaGreat.PL
