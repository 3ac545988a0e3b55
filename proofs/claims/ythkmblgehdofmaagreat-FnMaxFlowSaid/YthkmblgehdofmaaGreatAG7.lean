/- Printed by a program (the kit's printer, run over contracts that were proved by hand). -/
import Derived.Test.YthkmblgehdofmaaGreatAG0
import Derived.Test.YthkmblgehdofmaaGreatAG6
set_option linter.unusedVariables false
set_option linter.unusedSimpArgs false
namespace Go.Proofs.YthkmblgehdofmaaGreat.PL
open Go.RowKit Go.Proofs.YthkmblgehdofmaaGreatW.PrintWords Go.Proofs.YthkmblgehdofmaaGreatW.PrintLast Go.Proofs.YthkmblgehdofmaaGreatW.PrintMore
attribute [local go_sem] max2_int min2_int max_two min_two max_three min_three max_four min_four   -- for this text's walks alone
/-! ### laws_flows: function 12 -/
def laws_flows.f  : Option (Bool) := (impl_MaxFlow.f true (([0, 1] : List Int)) (([(⟨0, 1, 3⟩ : S29)] : List (S29))) 0 1).bind fun bt247 => (if bt247.1 = 3 then (some (!bt247.2)) else (some false))
set_option maxHeartbeats 8000000 in
set_option maxRecDepth 100000 in
theorem laws_flows.calls  (r : Bool) (w : World) (h : laws_flows.f  = some r) :
  Calls Tryz.prog 12 #[] w fun e w' => e = .returned (.bool r) ∧ Below w.heap.size w w' := by
 have hu29 := Tryz.underlying29
 have hu26 := Tryz.underlying26
 have HB := Aside0.mk (Below.refl w.heap.size w)
 have H : ((impl_MaxFlow.f true (([0, 1] : List Int)) (([(⟨0, 1, 3⟩ : S29)] : List (S29))) 0 1).bind fun bt247 => (if bt247.1 = 3 then (some (!bt247.2)) else (some false))) = some r := h
 clear h
 obtain ⟨y241, hy241⟩ : ∃ y_ : List Int, y_ = (([0, 1] : List Int)) := ⟨_, rfl⟩
 replace H : ((impl_MaxFlow.f true y241 (([(⟨0, 1, 3⟩ : S29)] : List (S29))) 0 1).bind fun bt247 => (if bt247.1 = 3 then (some (!bt247.2)) else (some false))) = some r := by first | (rw [hy241]; with_reducible exact H) | (have H2_ := (Option.bind_some _ _).symm.trans H; rw [hy241]; with_reducible exact H2_) | (have H2_ := (Option.bind_some _ _).symm.trans H; with_reducible exact H2_) | with_reducible exact H | (rw [hy241]; exact H) | exact H
 have Ny241 := Aside0.mk hy241
 clear hy241
 obtain ⟨y244, hy244⟩ : ∃ y_ : List (S29), y_ = (([(⟨0, 1, 3⟩ : S29)] : List (S29))) := ⟨_, rfl⟩
 replace H : ((impl_MaxFlow.f true y241 y244 0 1).bind fun bt247 => (if bt247.1 = 3 then (some (!bt247.2)) else (some false))) = some r := by first | (rw [hy244]; with_reducible exact H) | (have H2_ := (Option.bind_some _ _).symm.trans H; rw [hy244]; with_reducible exact H2_) | (have H2_ := (Option.bind_some _ _).symm.trans H; with_reducible exact H2_) | with_reducible exact H | (rw [hy244]; exact H) | exact H
 have Ny244 := Aside0.mk hy244
 clear hy244
 replace H := Option.bind_eq_some_iff.mp H
 obtain ⟨⟨t247, t248⟩, A10, H⟩ := H
 replace H : (if t247 = 3 then (some (!t248)) else (some false)) = some r := H
 have A1 := Aside0.mk A10
 clear A10
 by_cases c2 : t247 = 3
 ·rw [if_pos c2] at H
  have c2b0 : (t247 == 3) = true := beq_iff_eq.mpr c2
  have c2b1 : (t247 != 3) = false := bne_eq_false_iff_eq.mpr c2
  clear c2
  obtain rfl := Option.some.inj H
  go_enter Tryz.func12, Tryz.ntmps12
  go_wp2_with (first | ((with_reducible refine gate_dst (N := 4) rfl ?_); refine Kd.R_lit (Kd.int .i64) _ 3 ?hg (N := 4) ?hd (xs := ([0, 1] : List Int)) (inner := [.int .i64 0, .int .i64 1]) (ok := fun _ => True) (okp := fun _ => True) ?hr ?hp (fun _ hk => hk) trivial (Below.refl _ _) (Nat.le_refl _) (by simp) ?_; (case hd => rfl); (case hg => rfl); (case hr => first | (go_simp; done) | (go_simp; rfl)); (case hp => exact (Reps.one (show Kd.M (Kd.int .i64) _ _ _ 0 [.int .i64 0] from rfl) (Reps.one (show Kd.M (Kd.int .i64) _ _ _ 1 [.int .i64 1] from rfl) (Reps.none _ _)))); intro v242 w3 ho4 hb hg_ hnew_; clear hg_ hnew_; (first | rw [← Ny241.out] at ho4 | (simp only [Int.reduceToNat] at ho4; rw [← Ny241.out] at ho4)); have n0_ := Aside0.mk (Kd.R_lower ho4 (below_size (by repeat (first | (with_reducible first | exact HB.out | apply below_alloc | apply pw_below_drewN | apply below_drew1) | exact HB.out)))); have n1_ := Aside0.mk (below_step (by repeat (first | (with_reducible first | exact HB.out | apply below_alloc | apply pw_below_drewN | apply below_drew1) | exact HB.out)) hb); clear HB; have HO243 := n0_; have HB := n1_; clear n0_ n1_; clear hb ho4) | ((with_reducible refine gate_dst (N := 6) rfl ?_); refine Kd.R_lit k29 _ 29 ?hg (N := 6) ?hd (xs := ([(⟨0, 1, 3⟩ : S29)] : List (S29))) (inner := [.int .i64 0, .int .i64 1, .int .i64 3]) (ok := fun _ => True) (okp := fun _ => True) ?hr ?hp (fun _ hk => hk) trivial (Below.refl _ _) (Nat.le_refl _) (by simp) ?_; (case hd => rfl); (case hg => rfl); (case hr => first | (go_simp; done) | (go_simp; rfl)); (case hp => exact (Reps.c3 (show Kd.M k29 _ _ _ (⟨0, 1, 3⟩ : S29) [.int .i64 0, .int .i64 1, .int .i64 3] from (k29_mkM _ _ _ (⟨0, 1, 3⟩ : S29) )) (Reps.none _ _))); intro v245 w5 ho6 hb hg_ hnew_; clear hg_ hnew_; (first | rw [← Ny244.out] at ho6 | (simp only [Int.reduceToNat] at ho6; rw [← Ny244.out] at ho6)); have n0_ := Aside0.mk (Kd.R_below (by (with_reducible repeat (first | apply Kd.R_alloc | apply Kd.R_drewN | apply Kd.R_drew)); exact HO243.out) hb); have n1_ := Aside0.mk (Kd.R_lower ho6 (below_size (by repeat (first | (with_reducible first | exact HB.out | apply below_alloc | apply pw_below_drewN | apply below_drew1) | exact HB.out)))); have n2_ := Aside0.mk (below_step (by repeat (first | (with_reducible first | exact HB.out | apply below_alloc | apply pw_below_drewN | apply below_drew1) | exact HB.out)) hb); clear HO243; clear HB; have HO243 := n0_; have HO246 := n1_; have HB := n2_; clear n0_ n1_ n2_; clear hb ho6; obtain ⟨Ao7, co7, eo7⟩ := Kd.R_slice HO246.out; subst eo7; obtain ⟨Ao8, co8, eo8⟩ := Kd.R_slice HO243.out; subst eo8) | ((with_reducible refine gate_callee (f := 9) rfl ?_); refine goesL_ (some 8) rfl rfl Tryz.func9 (by kernel_rfl) rfl #[.agg #[.bool true, .slice Ao8 y241.length co8, .slice Ao7 y244.length co7], .int .i64 0, .int .i64 1] rfl (by (try simp only [List.map_toArray, List.map_cons, List.map_nil]); first | done | rfl | (simp only [List.length_drop, List.length_take]; rfl)) ?_; (with_reducible refine (impl_MaxFlow.calls true _ _ y241 _ _ y244 0 1 t247 t248 _ ?side1 ?side2 ?side3 ?side4 A1.out).mono ?_); (case side1 => repeat (first | exact (Kd.R_reads' HO243.out).2.2 | (with_reducible refine Kd.C_alloc ?_ _) | (with_reducible refine Kd.C_drewN ?_ _) | (with_reducible refine Kd.C_drew ?_))); (case side2 => exact (Kd.R_reads' HO243.out).2.1); (case side3 => repeat (first | exact (Kd.R_reads' HO246.out).2.2 | (with_reducible refine Kd.C_alloc ?_ _) | (with_reducible refine Kd.C_drewN ?_ _) | (with_reducible refine Kd.C_drew ?_))); (case side4 => exact (Kd.R_reads' HO246.out).2.1); rintro e w9 ⟨rfl, hb⟩; refine ⟨_, rfl, ?_⟩; have n0_ := Aside0.mk (Kd.R_below (by (with_reducible repeat (first | apply Kd.R_alloc | apply Kd.R_drewN | apply Kd.R_drew)); exact HO243.out) hb); have n1_ := Aside0.mk (Kd.R_below (by (with_reducible repeat (first | apply Kd.R_alloc | apply Kd.R_drewN | apply Kd.R_drew)); exact HO246.out) hb); have n2_ := Aside0.mk (below_step (by repeat (first | (with_reducible first | exact HB.out | apply below_alloc | apply pw_below_drewN | apply below_drew1) | exact HB.out)) hb); clear HO243; clear HO246; clear HB; have HO243 := n0_; have HO246 := n1_; have HB := n2_; clear n0_ n1_ n2_; (try clear hb); (try clear hb2); (try clear hk); (try clear hi)))
  go_ret
  exact ⟨by first | rfl | (simp [errW_none, errW_some] <;> rfl) | (simp [*, errW_none, errW_some] <;> rfl), by repeat (first | (with_reducible first | exact HB.out | apply below_alloc | apply pw_below_drewN | apply below_drew1) | exact HB.out)⟩
 ·rw [if_neg c2] at H
  have c2b0 : (t247 == 3) = false := beq_eq_false_iff_ne.mpr c2
  have c2b1 : (t247 != 3) = true := bne_iff_ne.mpr c2
  obtain rfl := Option.some.inj H
  go_enter Tryz.func12, Tryz.ntmps12
  go_wp2_with (first | ((with_reducible refine gate_dst (N := 4) rfl ?_); refine Kd.R_lit (Kd.int .i64) _ 3 ?hg (N := 4) ?hd (xs := ([0, 1] : List Int)) (inner := [.int .i64 0, .int .i64 1]) (ok := fun _ => True) (okp := fun _ => True) ?hr ?hp (fun _ hk => hk) trivial (Below.refl _ _) (Nat.le_refl _) (by simp) ?_; (case hd => rfl); (case hg => rfl); (case hr => first | (go_simp; done) | (go_simp; rfl)); (case hp => exact (Reps.one (show Kd.M (Kd.int .i64) _ _ _ 0 [.int .i64 0] from rfl) (Reps.one (show Kd.M (Kd.int .i64) _ _ _ 1 [.int .i64 1] from rfl) (Reps.none _ _)))); intro v242 w10 ho11 hb hg_ hnew_; clear hg_ hnew_; (first | rw [← Ny241.out] at ho11 | (simp only [Int.reduceToNat] at ho11; rw [← Ny241.out] at ho11)); have n0_ := Aside0.mk (Kd.R_lower ho11 (below_size (by repeat (first | (with_reducible first | exact HB.out | apply below_alloc | apply pw_below_drewN | apply below_drew1) | exact HB.out)))); have n1_ := Aside0.mk (below_step (by repeat (first | (with_reducible first | exact HB.out | apply below_alloc | apply pw_below_drewN | apply below_drew1) | exact HB.out)) hb); clear HB; have HO243 := n0_; have HB := n1_; clear n0_ n1_; clear hb ho11) | ((with_reducible refine gate_dst (N := 6) rfl ?_); refine Kd.R_lit k29 _ 29 ?hg (N := 6) ?hd (xs := ([(⟨0, 1, 3⟩ : S29)] : List (S29))) (inner := [.int .i64 0, .int .i64 1, .int .i64 3]) (ok := fun _ => True) (okp := fun _ => True) ?hr ?hp (fun _ hk => hk) trivial (Below.refl _ _) (Nat.le_refl _) (by simp) ?_; (case hd => rfl); (case hg => rfl); (case hr => first | (go_simp; done) | (go_simp; rfl)); (case hp => exact (Reps.c3 (show Kd.M k29 _ _ _ (⟨0, 1, 3⟩ : S29) [.int .i64 0, .int .i64 1, .int .i64 3] from (k29_mkM _ _ _ (⟨0, 1, 3⟩ : S29) )) (Reps.none _ _))); intro v245 w12 ho13 hb hg_ hnew_; clear hg_ hnew_; (first | rw [← Ny244.out] at ho13 | (simp only [Int.reduceToNat] at ho13; rw [← Ny244.out] at ho13)); have n0_ := Aside0.mk (Kd.R_below (by (with_reducible repeat (first | apply Kd.R_alloc | apply Kd.R_drewN | apply Kd.R_drew)); exact HO243.out) hb); have n1_ := Aside0.mk (Kd.R_lower ho13 (below_size (by repeat (first | (with_reducible first | exact HB.out | apply below_alloc | apply pw_below_drewN | apply below_drew1) | exact HB.out)))); have n2_ := Aside0.mk (below_step (by repeat (first | (with_reducible first | exact HB.out | apply below_alloc | apply pw_below_drewN | apply below_drew1) | exact HB.out)) hb); clear HO243; clear HB; have HO243 := n0_; have HO246 := n1_; have HB := n2_; clear n0_ n1_ n2_; clear hb ho13; obtain ⟨Ao14, co14, eo14⟩ := Kd.R_slice HO246.out; subst eo14; obtain ⟨Ao15, co15, eo15⟩ := Kd.R_slice HO243.out; subst eo15) | ((with_reducible refine gate_callee (f := 9) rfl ?_); refine goesL_ (some 8) rfl rfl Tryz.func9 (by kernel_rfl) rfl #[.agg #[.bool true, .slice Ao15 y241.length co15, .slice Ao14 y244.length co14], .int .i64 0, .int .i64 1] rfl (by (try simp only [List.map_toArray, List.map_cons, List.map_nil]); first | done | rfl | (simp only [List.length_drop, List.length_take]; rfl)) ?_; (with_reducible refine (impl_MaxFlow.calls true _ _ y241 _ _ y244 0 1 t247 t248 _ ?side1 ?side2 ?side3 ?side4 A1.out).mono ?_); (case side1 => repeat (first | exact (Kd.R_reads' HO243.out).2.2 | (with_reducible refine Kd.C_alloc ?_ _) | (with_reducible refine Kd.C_drewN ?_ _) | (with_reducible refine Kd.C_drew ?_))); (case side2 => exact (Kd.R_reads' HO243.out).2.1); (case side3 => repeat (first | exact (Kd.R_reads' HO246.out).2.2 | (with_reducible refine Kd.C_alloc ?_ _) | (with_reducible refine Kd.C_drewN ?_ _) | (with_reducible refine Kd.C_drew ?_))); (case side4 => exact (Kd.R_reads' HO246.out).2.1); rintro e w16 ⟨rfl, hb⟩; refine ⟨_, rfl, ?_⟩; have n0_ := Aside0.mk (Kd.R_below (by (with_reducible repeat (first | apply Kd.R_alloc | apply Kd.R_drewN | apply Kd.R_drew)); exact HO243.out) hb); have n1_ := Aside0.mk (Kd.R_below (by (with_reducible repeat (first | apply Kd.R_alloc | apply Kd.R_drewN | apply Kd.R_drew)); exact HO246.out) hb); have n2_ := Aside0.mk (below_step (by repeat (first | (with_reducible first | exact HB.out | apply below_alloc | apply pw_below_drewN | apply below_drew1) | exact HB.out)) hb); clear HO243; clear HO246; clear HB; have HO243 := n0_; have HO246 := n1_; have HB := n2_; clear n0_ n1_ n2_; (try clear hb); (try clear hb2); (try clear hk); (try clear hi)))
  go_ret
  exact ⟨by first | rfl | (simp [errW_none, errW_some] <;> rfl) | (simp [*, errW_none, errW_some] <;> rfl), by repeat (first | (with_reducible first | exact HB.out | apply below_alloc | apply pw_below_drewN | apply below_drew1) | exact HB.out)⟩

/-! ### laws_zzFits1: function 13 -/
def laws_zzFits1.f (a0_0 : Bool) (l0_1 : List Int) (l0_2 : List (S29)) : Option (Bool) := if (l0_1.length : Int) > 2147483647 then (some false) else (if (l0_2.length : Int) > 2147483647 then (some false) else (some true))
set_option maxHeartbeats 8000000 in
set_option maxRecDepth 100000 in
theorem laws_zzFits1.calls (a0_0 : Bool) (A0_1 : Option Addr) (c0_1 : Nat) (l0_1 : List Int) (A0_2 : Option Addr) (c0_2 : Nat) (l0_2 : List (S29)) (r : Bool) (w : World) (hr0_1 : Kd.C (Kd.int .i64) w A0_1 l0_1.length l0_1) (hc0_1 : l0_1.length ≤ c0_1) (hr0_2 : Kd.C k29 w A0_2 l0_2.length l0_2) (hc0_2 : l0_2.length ≤ c0_2) (h : laws_zzFits1.f a0_0 l0_1 l0_2 = some r) :
  Calls Tryz.prog 13 #[.agg #[.bool a0_0, .slice A0_1 l0_1.length c0_1, .slice A0_2 l0_2.length c0_2]] w fun e w' => e = .returned (.bool r) ∧ Below w.heap.size w w' := by
 have hu26 := Tryz.underlying26
 have HR0_1 := Aside0.mk hr0_1
 have HC0_1 := Aside0.mk hc0_1
 clear hr0_1 hc0_1
 have HR0_2 := Aside0.mk hr0_2
 have HC0_2 := Aside0.mk hc0_2
 clear hr0_2 hc0_2
 have HB := Aside0.mk (Below.refl w.heap.size w)
 have H : (if (l0_1.length : Int) > 2147483647 then (some false) else (if (l0_2.length : Int) > 2147483647 then (some false) else (some true))) = some r := h
 clear h
 by_cases c2 : (l0_1.length : Int) > 2147483647
 ·rw [if_pos c2] at H
  have c2b0 : decide (2147483647 < (l0_1.length : Int)) = true := decide_eq_true c2
  have c2b1 : decide (2147483647 < l0_1.length) = true := decide_eq_true (by omega)
  clear c2
  obtain rfl := Option.some.inj H
  go_enter Tryz.func13, Tryz.ntmps13
  go_wp2_with (first | ((with_reducible refine gate_dst (N := 1) rfl ?_); refine box_event ?hg (N := 1) ?hd (cs := #[.bool a0_0, .slice A0_1 l0_1.length c0_1, .slice A0_2 l0_2.length c0_2]) (t := 26) ?hr ?_; (case hd => rfl); (case hg => rfl); (case hr => first | (go_simp; done) | (go_simp; rfl)); intro gb249 hg w3 hbox hb; have n0_ := Aside0.mk (below_step (by repeat (first | (with_reducible first | exact HB.out | apply below_alloc | apply pw_below_drewN | apply below_drew1) | exact HB.out)) hb); have n1_ := Aside0.mk (hbox); have n2_ := Aside0.mk ((by rw [hg]; exact (below_size (by repeat (first | (with_reducible first | exact HB.out | apply below_alloc | apply pw_below_drewN | apply below_drew1) | exact HB.out))) : w.heap.size ≤ gb249)); have n3_ := Aside0.mk ((by rw [hg]; exact (below_size (by repeat (first | (with_reducible first | exact HB.out | apply below_alloc | apply pw_below_drewN | apply below_drew1) | exact HB.out))) : w.heap.size ≤ gb249)); clear HB; have HB := n0_; have BK249 := n1_; have GW249 := n2_; have GE249 := n3_; clear n0_ n1_ n2_ n3_; clear hb hbox hg; have hcz4_0 : w3.cell? ⟨gb249, 0, none⟩ = some (.bool a0_0) := (blk_cell BK249.out 0).trans rfl; have hcz4_1 : w3.cell? ⟨gb249, 1, none⟩ = some (.slice A0_1 l0_1.length c0_1) := (blk_cell BK249.out 1).trans rfl; have hcz4_2 : w3.cell? ⟨gb249, 2, none⟩ = some (.slice A0_2 l0_2.length c0_2) := (blk_cell BK249.out 2).trans rfl; have hfz4_0 := blk_frozen BK249.out 0; have hfz4_1 := blk_frozen BK249.out 1; have hfz4_2 := blk_frozen BK249.out 2))
  go_ret
  exact ⟨by first | rfl | (simp [errW_none, errW_some] <;> rfl) | (simp [*, errW_none, errW_some] <;> rfl), by repeat (first | (with_reducible first | exact HB.out | apply below_alloc | apply pw_below_drewN | apply below_drew1 | refine below_set ?_ GE249.out) | exact HB.out)⟩
 ·rw [if_neg c2] at H
  have c2b0 : decide (2147483647 < (l0_1.length : Int)) = false := decide_eq_false c2
  have c2b1 : decide (2147483647 < l0_1.length) = false := decide_eq_false (by omega)
  clear c2
  by_cases c5 : (l0_2.length : Int) > 2147483647
  ·rw [if_pos c5] at H
   have c5b0 : decide (2147483647 < (l0_2.length : Int)) = true := decide_eq_true c5
   have c5b1 : decide (2147483647 < l0_2.length) = true := decide_eq_true (by omega)
   clear c5
   obtain rfl := Option.some.inj H
   go_enter Tryz.func13, Tryz.ntmps13
   go_wp2_with (first | ((with_reducible refine gate_dst (N := 1) rfl ?_); refine box_event ?hg (N := 1) ?hd (cs := #[.bool a0_0, .slice A0_1 l0_1.length c0_1, .slice A0_2 l0_2.length c0_2]) (t := 26) ?hr ?_; (case hd => rfl); (case hg => rfl); (case hr => first | (go_simp; done) | (go_simp; rfl)); intro gb249 hg w6 hbox hb; have n0_ := Aside0.mk (below_step (by repeat (first | (with_reducible first | exact HB.out | apply below_alloc | apply pw_below_drewN | apply below_drew1) | exact HB.out)) hb); have n1_ := Aside0.mk (hbox); have n2_ := Aside0.mk ((by rw [hg]; exact (below_size (by repeat (first | (with_reducible first | exact HB.out | apply below_alloc | apply pw_below_drewN | apply below_drew1) | exact HB.out))) : w.heap.size ≤ gb249)); have n3_ := Aside0.mk ((by rw [hg]; exact (below_size (by repeat (first | (with_reducible first | exact HB.out | apply below_alloc | apply pw_below_drewN | apply below_drew1) | exact HB.out))) : w.heap.size ≤ gb249)); clear HB; have HB := n0_; have BK249 := n1_; have GW249 := n2_; have GE249 := n3_; clear n0_ n1_ n2_ n3_; clear hb hbox hg; have hcz7_0 : w6.cell? ⟨gb249, 0, none⟩ = some (.bool a0_0) := (blk_cell BK249.out 0).trans rfl; have hcz7_1 : w6.cell? ⟨gb249, 1, none⟩ = some (.slice A0_1 l0_1.length c0_1) := (blk_cell BK249.out 1).trans rfl; have hcz7_2 : w6.cell? ⟨gb249, 2, none⟩ = some (.slice A0_2 l0_2.length c0_2) := (blk_cell BK249.out 2).trans rfl; have hfz7_0 := blk_frozen BK249.out 0; have hfz7_1 := blk_frozen BK249.out 1; have hfz7_2 := blk_frozen BK249.out 2))
   go_ret
   exact ⟨by first | rfl | (simp [errW_none, errW_some] <;> rfl) | (simp [*, errW_none, errW_some] <;> rfl), by repeat (first | (with_reducible first | exact HB.out | apply below_alloc | apply pw_below_drewN | apply below_drew1 | refine below_set ?_ GE249.out) | exact HB.out)⟩
  ·rw [if_neg c5] at H
   have c5b0 : decide (2147483647 < (l0_2.length : Int)) = false := decide_eq_false c5
   have c5b1 : decide (2147483647 < l0_2.length) = false := decide_eq_false (by omega)
   clear c5
   obtain rfl := Option.some.inj H
   go_enter Tryz.func13, Tryz.ntmps13
   go_wp2_with (first | ((with_reducible refine gate_dst (N := 1) rfl ?_); refine box_event ?hg (N := 1) ?hd (cs := #[.bool a0_0, .slice A0_1 l0_1.length c0_1, .slice A0_2 l0_2.length c0_2]) (t := 26) ?hr ?_; (case hd => rfl); (case hg => rfl); (case hr => first | (go_simp; done) | (go_simp; rfl)); intro gb249 hg w8 hbox hb; have n0_ := Aside0.mk (below_step (by repeat (first | (with_reducible first | exact HB.out | apply below_alloc | apply pw_below_drewN | apply below_drew1) | exact HB.out)) hb); have n1_ := Aside0.mk (hbox); have n2_ := Aside0.mk ((by rw [hg]; exact (below_size (by repeat (first | (with_reducible first | exact HB.out | apply below_alloc | apply pw_below_drewN | apply below_drew1) | exact HB.out))) : w.heap.size ≤ gb249)); have n3_ := Aside0.mk ((by rw [hg]; exact (below_size (by repeat (first | (with_reducible first | exact HB.out | apply below_alloc | apply pw_below_drewN | apply below_drew1) | exact HB.out))) : w.heap.size ≤ gb249)); clear HB; have HB := n0_; have BK249 := n1_; have GW249 := n2_; have GE249 := n3_; clear n0_ n1_ n2_ n3_; clear hb hbox hg; have hcz9_0 : w8.cell? ⟨gb249, 0, none⟩ = some (.bool a0_0) := (blk_cell BK249.out 0).trans rfl; have hcz9_1 : w8.cell? ⟨gb249, 1, none⟩ = some (.slice A0_1 l0_1.length c0_1) := (blk_cell BK249.out 1).trans rfl; have hcz9_2 : w8.cell? ⟨gb249, 2, none⟩ = some (.slice A0_2 l0_2.length c0_2) := (blk_cell BK249.out 2).trans rfl; have hfz9_0 := blk_frozen BK249.out 0; have hfz9_1 := blk_frozen BK249.out 1; have hfz9_2 := blk_frozen BK249.out 2))
   go_ret
   exact ⟨by first | rfl | (simp [errW_none, errW_some] <;> rfl) | (simp [*, errW_none, errW_some] <;> rfl), by repeat (first | (with_reducible first | exact HB.out | apply below_alloc | apply pw_below_drewN | apply below_drew1 | refine below_set ?_ GE249.out) | exact HB.out)⟩

/-! ### laws_sized: function 14 -/
mutual
def laws_sized.j0 : Nat → Bool → Bool → List Int → List (S29) → Option (Bool)
 | 0, _, _, _, _ => none
 | k + 1, x16, x251000, x251001, x251002 => if x16 = true then (some false) else (laws_sized.l0 k 0 x251000 x251001 x251002)
def laws_sized.l0 : Nat → Int → Bool → List Int → List (S29) → Option (Bool)
 | 0, _, _, _, _ => none
 | k + 1, x5, x251000, x251001, x251002 => if x5 < (x251002.length : Int) then (if 0 ≤ x5 then (if ((rd_T29 x251002 x5).f2) > 1099511627776 then (some false) else (if ((rd_T29 x251002 x5).f2) < (-1099511627776) then (some false) else (laws_sized.l0 k (wrap64 (x5 + 1)) x251000 x251001 x251002))) else (none)) else (some true)
end
def laws_sized.f (k : Nat) (a0_0 : Bool) (l0_1 : List Int) (l0_2 : List (S29)) (a1 : Int) : Option (Bool) := if (l0_1.length : Int) > a1 then (laws_sized.j0 k true a0_0 l0_1 l0_2) else (laws_sized.j0 k (decide ((l0_2.length : Int) > 200)) a0_0 l0_1 l0_2)
set_option maxHeartbeats 8000000 in
set_option maxRecDepth 100000 in
theorem laws_sized.calls (k : Nat) (a0_0 : Bool) (A0_1 : Option Addr) (c0_1 : Nat) (l0_1 : List Int) (A0_2 : Option Addr) (c0_2 : Nat) (l0_2 : List (S29)) (a1 : Int) (r : Bool) (w : World) (hr0_1 : Kd.C (Kd.int .i64) w A0_1 l0_1.length l0_1) (hc0_1 : l0_1.length ≤ c0_1) (hr0_2 : Kd.C k29 w A0_2 l0_2.length l0_2) (hc0_2 : l0_2.length ≤ c0_2) (h : laws_sized.f k a0_0 l0_1 l0_2 a1 = some r) :
  Calls Tryz.prog 14 #[.agg #[.bool a0_0, .slice A0_1 l0_1.length c0_1, .slice A0_2 l0_2.length c0_2], .int .i64 a1] w fun e w' => e = .returned (.bool r) ∧ Below w.heap.size w w' := by
 have hu26 := Tryz.underlying26
 have HR0_1 := Aside0.mk hr0_1
 have HC0_1 := Aside0.mk hc0_1
 clear hr0_1 hc0_1
 have HR0_2 := Aside0.mk hr0_2
 have HC0_2 := Aside0.mk hc0_2
 clear hr0_2 hc0_2
 have HB := Aside0.mk (Below.refl w.heap.size w)
 have H : (if (l0_1.length : Int) > a1 then (laws_sized.j0 k true a0_0 l0_1 l0_2) else (laws_sized.j0 k (decide ((l0_2.length : Int) > 200)) a0_0 l0_1 l0_2)) = some r := h
 clear h
 have HC3 := Aside0.mk H
 clear H
 go_enter Tryz.func14, Tryz.ntmps14
 go_upto_region 1 with (first | ((with_reducible refine gate_dst (N := 2) rfl ?_); (try (refine gate_guard (by rfl) ?_; dsimp only)); refine box_event ?hg (N := 2) ?hd (cs := #[.bool a0_0, .slice A0_1 l0_1.length c0_1, .slice A0_2 l0_2.length c0_2]) (t := 26) ?hr ?_; (case hd => rfl); (case hg => rfl); (case hr => first | (go_simp; done) | (go_simp; rfl)); intro gb250 hg w4 hbox hb; have n0_ := Aside0.mk (below_step (by repeat (first | (with_reducible first | exact HB.out | apply below_alloc | apply pw_below_drewN | apply below_drew1) | exact HB.out)) hb); have n1_ := Aside0.mk (hbox); have n2_ := Aside0.mk ((by rw [hg]; exact (below_size (by repeat (first | (with_reducible first | exact HB.out | apply below_alloc | apply pw_below_drewN | apply below_drew1) | exact HB.out))) : w.heap.size ≤ gb250)); have n3_ := Aside0.mk ((by rw [hg]; exact (below_size (by repeat (first | (with_reducible first | exact HB.out | apply below_alloc | apply pw_below_drewN | apply below_drew1) | exact HB.out))) : w.heap.size ≤ gb250)); clear HB; have HB := n0_; have BK250 := n1_; have GW250 := n2_; have GE250 := n3_; clear n0_ n1_ n2_ n3_; clear hb hbox hg))
 (try simp only [Act.put, List.setIfInBounds_toArray, List.set_cons_zero, List.set_cons_succ])
 go_cut [16] (fun v16 wc => ∃ (kq : Nat) (x16_2 : Bool), v16 = .bool x16_2 ∧ Aside0 (laws_sized.j0 kq x16_2 a0_0 l0_1 l0_2 = some r) ∧ Aside0 (kq ≤ k) ∧ Aside0 (wc.heap[gb250]? = some (.cells #[.bool a0_0, (.slice A0_1 l0_1.length c0_1), (.slice A0_2 l0_2.length c0_2)] 26 (0, 0))) ∧ Aside0 (Below w.heap.size w wc))
 case first =>
  have H := HC3.out
  clear HC3
  by_cases c5 : (l0_1.length : Int) > a1
  ·rw [if_pos c5] at H
   have c5b0 : decide (a1 < (l0_1.length : Int)) = true := decide_eq_true c5
   clear c5
   (first | rw [c5b0] | (simp only [i64_w, i32_w]; rw [c5b0]) | skip)
   have H' := Aside0.mk H
   clear H
   have hcz6_0 : w4.cell? ⟨gb250, 0, none⟩ = some (.bool a0_0) := (blk_cell BK250.out 0).trans rfl
   have hcz6_1 : w4.cell? ⟨gb250, 1, none⟩ = some (.slice A0_1 l0_1.length c0_1) := (blk_cell BK250.out 1).trans rfl
   have hcz6_2 : w4.cell? ⟨gb250, 2, none⟩ = some (.slice A0_2 l0_2.length c0_2) := (blk_cell BK250.out 2).trans rfl
   have hfz6_0 := blk_frozen BK250.out 0
   have hfz6_1 := blk_frozen BK250.out 1
   have hfz6_2 := blk_frozen BK250.out 2
   go_wp2
   go_meet
   case rel => exact ⟨_, (true), (by first | rfl | (simp; done) | (simp [*]; done)), H', ⟨by first | omega | exact Nat.le_refl _⟩, ⟨by (with_reducible repeat (first | refine blk_drewN ?_ _ | refine blk_drew ?_ | refine blk_alloc ?_ _)); exact BK250.out⟩, ⟨by repeat (first | (with_reducible first | exact HB.out | apply below_alloc | apply pw_below_drewN | apply below_drew1 | refine below_set ?_ GE250.out) | exact HB.out)⟩⟩
  ·rw [if_neg c5] at H
   have c5b0 : decide (a1 < (l0_1.length : Int)) = false := decide_eq_false c5
   clear c5
   (first | rw [c5b0] | (simp only [i64_w, i32_w]; rw [c5b0]) | skip)
   have H' := Aside0.mk H
   clear H
   have hcz7_0 : w4.cell? ⟨gb250, 0, none⟩ = some (.bool a0_0) := (blk_cell BK250.out 0).trans rfl
   have hcz7_1 : w4.cell? ⟨gb250, 1, none⟩ = some (.slice A0_1 l0_1.length c0_1) := (blk_cell BK250.out 1).trans rfl
   have hcz7_2 : w4.cell? ⟨gb250, 2, none⟩ = some (.slice A0_2 l0_2.length c0_2) := (blk_cell BK250.out 2).trans rfl
   have hfz7_0 := blk_frozen BK250.out 0
   have hfz7_1 := blk_frozen BK250.out 1
   have hfz7_2 := blk_frozen BK250.out 2
   go_wp2
   go_meet
   case rel => exact ⟨_, (decide ((l0_2.length : Int) > 200)), (by first | rfl | (simp; done) | (simp [*]; done)), H', ⟨by first | omega | exact Nat.le_refl _⟩, ⟨by (with_reducible repeat (first | refine blk_drewN ?_ _ | refine blk_drew ?_ | refine blk_alloc ?_ _)); exact BK250.out⟩, ⟨by repeat (first | (with_reducible first | exact HB.out | apply below_alloc | apply pw_below_drewN | apply below_drew1 | refine below_set ?_ GE250.out) | exact HB.out)⟩⟩
 case rest =>
  clear HC3
  try clear c1
  try clear p2
  try clear c5
  try clear c5b0
  try clear hcz6_0
  try clear hcz6_1
  try clear hcz6_2
  try clear hcz7_0
  try clear hcz7_1
  try clear hcz7_2
  try clear hfz6_0
  try clear hfz6_1
  try clear hfz6_2
  try clear hfz7_0
  try clear hfz7_1
  try clear hfz7_2
  obtain ⟨kq, x16_2, rfl, HA, HJ2, BK250, HB⟩ := hcut
  cases kq with
  | zero => exact absurd HA.out (by simp [laws_sized.j0])
  | succ kj2 =>
   have H := HA.out
   clear HA
   simp only [laws_sized.j0] at H
   by_cases c8 : x16_2 = true
   ·subst c8
    have H1 : (some false) = some r := by rw [if_pos rfl] at H; exact H
    clear H
    have H := H1
    clear H1
    obtain rfl := Option.some.inj H
    go_wp2
    go_ret
    exact ⟨by first | rfl | (simp [errW_none, errW_some] <;> rfl) | (simp [*, errW_none, errW_some] <;> rfl), by repeat (first | (with_reducible first | exact HB.out | apply below_alloc | apply pw_below_drewN | apply below_drew1 | refine below_set ?_ GE250.out) | exact HB.out)⟩
   ·replace c8 := Bool.eq_false_iff.mpr c8
    subst c8
    have H1 : (laws_sized.l0 kj2 0 a0_0 l0_1 l0_2) = some r := by rw [if_neg (show ¬ (false = true) by decide)] at H; exact H
    clear H
    have H := H1
    clear H1
    have H' := Aside0.mk H
    clear H
    go_wp2
    go_loopg [5] kj2 (fun kq v5 w' => ∃ (x5_2 : Int), v5 = .int .i64 x5_2 ∧ Aside0 (laws_sized.l0 kq x5_2 a0_0 l0_1 l0_2 = some r) ∧ Aside0 (kq ≤ kj2) ∧ Aside0 (w'.heap[gb250]? = some (.cells #[.bool a0_0, (.slice A0_1 l0_1.length c0_1), (.slice A0_2 l0_2.length c0_2)] 26 (0, 0))) ∧ Aside0 (Below w.heap.size w w'))
    case atStart => exact ⟨(0), (by first | rfl | (simp; done) | (simp [*]; done)), H', ⟨Nat.le_refl _⟩, ⟨by (with_reducible repeat (first | refine blk_drewN ?_ _ | refine blk_drew ?_ | refine blk_alloc ?_ _)); exact BK250.out⟩, ⟨by repeat (first | (with_reducible first | exact HB.out | apply below_alloc | apply pw_below_drewN | apply below_drew1 | refine below_set ?_ GE250.out) | exact HB.out)⟩⟩
    case round =>
     clear H'
     try clear c1
     try clear p2
     try clear c5
     try clear c5b0
     try clear c8
     try clear hcz6_0
     try clear hcz6_1
     try clear hcz6_2
     try clear hcz7_0
     try clear hcz7_1
     try clear hcz7_2
     try clear hfz6_0
     try clear hfz6_1
     try clear hfz6_2
     try clear hfz7_0
     try clear hfz7_1
     try clear hfz7_2
     try clear p2
     obtain ⟨x5_2, rfl, HA, HK2, BK250, HB⟩ := hrel
     cases gk with
     | zero => exact absurd HA.out (by simp [laws_sized.l0])
     | succ k2 =>
      have H := HA.out
      clear HA
      simp only [laws_sized.l0] at H
      by_cases c9 : x5_2 < (l0_2.length : Int)
      ·rw [if_pos c9] at H
       have c9b0 : decide (x5_2 < (l0_2.length : Int)) = true := decide_eq_true c9
       clear c9
       by_cases c10 : 0 ≤ x5_2
       ·rw [if_pos c10] at H
        have c10b0 : decide (0 ≤ x5_2) = true := decide_eq_true c10
        clear c10
        by_cases c11 : ((rd_T29 l0_2 x5_2).f2) > 1099511627776
        ·rw [if_pos c11] at H
         have c11b0 : decide (1099511627776 < ((rd_T29 l0_2 x5_2).f2)) = true := decide_eq_true c11
         clear c11
         obtain rfl := Option.some.inj H
         have hcz12_0 : wr.cell? ⟨gb250, 0, none⟩ = some (.bool a0_0) := (blk_cell BK250.out 0).trans rfl
         have hcz12_1 : wr.cell? ⟨gb250, 1, none⟩ = some (.slice A0_1 l0_1.length c0_1) := (blk_cell BK250.out 1).trans rfl
         have hcz12_2 : wr.cell? ⟨gb250, 2, none⟩ = some (.slice A0_2 l0_2.length c0_2) := (blk_cell BK250.out 2).trans rfl
         have hfz12_0 := blk_frozen BK250.out 0
         have hfz12_1 := blk_frozen BK250.out 1
         have hfz12_2 := blk_frozen BK250.out 2
         have p251 : 0 ≤ (x5_2 : Int) := of_decide_eq_true (by first | (with_reducible assumption) | assumption)
         have q251 : x5_2 < (l0_2.length : Int) := of_decide_eq_true (by first | (with_reducible assumption) | assumption)
         obtain ⟨ad251, e251, hx251_0, hx251_1, hx251_2⟩ := at_T29 HR0_2.out x5_2 p251 q251
         cases e251
         replace hx251_0 := (HB.out.cell (World.block_lt_of_cell? w _ hx251_0)).trans hx251_0
         replace hx251_1 := (HB.out.cell (World.block_lt_of_cell? w _ hx251_1)).trans hx251_1
         replace hx251_2 := (HB.out.cell (World.block_lt_of_cell? w _ hx251_2)).trans hx251_2
         replace p251 := eq_true p251
         replace q251 := eq_true q251
         go_wp2
         go_ret
         exact ⟨by first | rfl | (simp [errW_none, errW_some] <;> rfl) | (simp [*, errW_none, errW_some] <;> rfl), by repeat (first | (with_reducible first | exact HB.out | apply below_alloc | apply pw_below_drewN | apply below_drew1 | refine below_set ?_ GE250.out) | exact HB.out)⟩
        ·rw [if_neg c11] at H
         have c11b0 : decide (1099511627776 < ((rd_T29 l0_2 x5_2).f2)) = false := decide_eq_false c11
         clear c11
         by_cases c13 : ((rd_T29 l0_2 x5_2).f2) < (-1099511627776)
         ·rw [if_pos c13] at H
          have c13b0 : decide (((rd_T29 l0_2 x5_2).f2) < (-1099511627776)) = true := decide_eq_true c13
          clear c13
          obtain rfl := Option.some.inj H
          have hcz14_0 : wr.cell? ⟨gb250, 0, none⟩ = some (.bool a0_0) := (blk_cell BK250.out 0).trans rfl
          have hcz14_1 : wr.cell? ⟨gb250, 1, none⟩ = some (.slice A0_1 l0_1.length c0_1) := (blk_cell BK250.out 1).trans rfl
          have hcz14_2 : wr.cell? ⟨gb250, 2, none⟩ = some (.slice A0_2 l0_2.length c0_2) := (blk_cell BK250.out 2).trans rfl
          have hfz14_0 := blk_frozen BK250.out 0
          have hfz14_1 := blk_frozen BK250.out 1
          have hfz14_2 := blk_frozen BK250.out 2
          have p251 : 0 ≤ (x5_2 : Int) := of_decide_eq_true (by first | (with_reducible assumption) | assumption)
          have q251 : x5_2 < (l0_2.length : Int) := of_decide_eq_true (by first | (with_reducible assumption) | assumption)
          obtain ⟨ad251, e251, hx251_0, hx251_1, hx251_2⟩ := at_T29 HR0_2.out x5_2 p251 q251
          cases e251
          replace hx251_0 := (HB.out.cell (World.block_lt_of_cell? w _ hx251_0)).trans hx251_0
          replace hx251_1 := (HB.out.cell (World.block_lt_of_cell? w _ hx251_1)).trans hx251_1
          replace hx251_2 := (HB.out.cell (World.block_lt_of_cell? w _ hx251_2)).trans hx251_2
          replace p251 := eq_true p251
          replace q251 := eq_true q251
          have p252 : 0 ≤ (x5_2 : Int) := of_decide_eq_true (by first | (with_reducible assumption) | assumption)
          have q252 : x5_2 < (l0_2.length : Int) := of_decide_eq_true (by first | (with_reducible assumption) | assumption)
          obtain ⟨ad252, e252, hx252_0, hx252_1, hx252_2⟩ := at_T29 HR0_2.out x5_2 p252 q252
          obtain rfl : ad251 = ad252 := (by injection e252)
          replace hx252_0 := (HB.out.cell (World.block_lt_of_cell? w _ hx252_0)).trans hx252_0
          replace hx252_1 := (HB.out.cell (World.block_lt_of_cell? w _ hx252_1)).trans hx252_1
          replace hx252_2 := (HB.out.cell (World.block_lt_of_cell? w _ hx252_2)).trans hx252_2
          replace p252 := eq_true p252
          replace q252 := eq_true q252
          go_wp2
          go_ret
          exact ⟨by first | rfl | (simp [errW_none, errW_some] <;> rfl) | (simp [*, errW_none, errW_some] <;> rfl), by repeat (first | (with_reducible first | exact HB.out | apply below_alloc | apply pw_below_drewN | apply below_drew1 | refine below_set ?_ GE250.out) | exact HB.out)⟩
         ·rw [if_neg c13] at H
          have c13b0 : decide (((rd_T29 l0_2 x5_2).f2) < (-1099511627776)) = false := decide_eq_false c13
          clear c13
          have H' := Aside0.mk H
          clear H
          have hcz15_0 : wr.cell? ⟨gb250, 0, none⟩ = some (.bool a0_0) := (blk_cell BK250.out 0).trans rfl
          have hcz15_1 : wr.cell? ⟨gb250, 1, none⟩ = some (.slice A0_1 l0_1.length c0_1) := (blk_cell BK250.out 1).trans rfl
          have hcz15_2 : wr.cell? ⟨gb250, 2, none⟩ = some (.slice A0_2 l0_2.length c0_2) := (blk_cell BK250.out 2).trans rfl
          have hfz15_0 := blk_frozen BK250.out 0
          have hfz15_1 := blk_frozen BK250.out 1
          have hfz15_2 := blk_frozen BK250.out 2
          have p251 : 0 ≤ (x5_2 : Int) := of_decide_eq_true (by first | (with_reducible assumption) | assumption)
          have q251 : x5_2 < (l0_2.length : Int) := of_decide_eq_true (by first | (with_reducible assumption) | assumption)
          obtain ⟨ad251, e251, hx251_0, hx251_1, hx251_2⟩ := at_T29 HR0_2.out x5_2 p251 q251
          cases e251
          replace hx251_0 := (HB.out.cell (World.block_lt_of_cell? w _ hx251_0)).trans hx251_0
          replace hx251_1 := (HB.out.cell (World.block_lt_of_cell? w _ hx251_1)).trans hx251_1
          replace hx251_2 := (HB.out.cell (World.block_lt_of_cell? w _ hx251_2)).trans hx251_2
          replace p251 := eq_true p251
          replace q251 := eq_true q251
          have p252 : 0 ≤ (x5_2 : Int) := of_decide_eq_true (by first | (with_reducible assumption) | assumption)
          have q252 : x5_2 < (l0_2.length : Int) := of_decide_eq_true (by first | (with_reducible assumption) | assumption)
          obtain ⟨ad252, e252, hx252_0, hx252_1, hx252_2⟩ := at_T29 HR0_2.out x5_2 p252 q252
          obtain rfl : ad251 = ad252 := (by injection e252)
          replace hx252_0 := (HB.out.cell (World.block_lt_of_cell? w _ hx252_0)).trans hx252_0
          replace hx252_1 := (HB.out.cell (World.block_lt_of_cell? w _ hx252_1)).trans hx252_1
          replace hx252_2 := (HB.out.cell (World.block_lt_of_cell? w _ hx252_2)).trans hx252_2
          replace p252 := eq_true p252
          replace q252 := eq_true q252
          go_wp2
          go_roundg k2
          case measure => have := HJ2.out; have := HK2.out; omega
          case rel => exact ⟨(wrap64 (x5_2 + 1)), (by first | rfl | (simp; done) | (simp [*]; done)), H', ⟨by have := HJ2.out; have := HK2.out; omega⟩, ⟨by (with_reducible repeat (first | refine blk_drewN ?_ _ | refine blk_drew ?_ | refine blk_alloc ?_ _)); exact BK250.out⟩, ⟨by repeat (first | (with_reducible first | exact HB.out | apply below_alloc | apply pw_below_drewN | apply below_drew1 | refine below_set ?_ GE250.out) | exact HB.out)⟩⟩
       ·rw [if_neg c10] at H
        exact absurd H (by simp)
      ·rw [if_neg c9] at H
       have c9b0 : decide (x5_2 < (l0_2.length : Int)) = false := decide_eq_false c9
       clear c9
       obtain rfl := Option.some.inj H
       have hcz16_0 : wr.cell? ⟨gb250, 0, none⟩ = some (.bool a0_0) := (blk_cell BK250.out 0).trans rfl
       have hcz16_1 : wr.cell? ⟨gb250, 1, none⟩ = some (.slice A0_1 l0_1.length c0_1) := (blk_cell BK250.out 1).trans rfl
       have hcz16_2 : wr.cell? ⟨gb250, 2, none⟩ = some (.slice A0_2 l0_2.length c0_2) := (blk_cell BK250.out 2).trans rfl
       have hfz16_0 := blk_frozen BK250.out 0
       have hfz16_1 := blk_frozen BK250.out 1
       have hfz16_2 := blk_frozen BK250.out 2
       go_wp2
       go_ret
       exact ⟨by first | rfl | (simp [errW_none, errW_some] <;> rfl) | (simp [*, errW_none, errW_some] <;> rfl), by repeat (first | (with_reducible first | exact HB.out | apply below_alloc | apply pw_below_drewN | apply below_drew1 | refine below_set ?_ GE250.out) | exact HB.out)⟩

/-! ### slices_Index_int_int: function 30 -/
def slices_Index_int_int.l0 : Nat → List Int → Int → Int → Int → Option (Int)
 | 0, _, _, _, _ => none
 | k + 1, x0, x1, x7, x8 => if x8 < x7 then (if 0 ≤ x8 then (if x8 < (x0.length : Int) then (if x1 = (rd x0 x8) then (some x8) else (slices_Index_int_int.l0 k x0 x1 x7 (wrap64 (x8 + 1)))) else (none)) else (none)) else (some (-1))
def slices_Index_int_int.f (k : Nat) (l0 : List Int) (a1 : Int) : Option (Int) := slices_Index_int_int.l0 k l0 a1 (l0.length : Int) 0
set_option maxHeartbeats 8000000 in
set_option maxRecDepth 100000 in
theorem slices_Index_int_int.calls (k : Nat) (A0 : Option Addr) (c0 : Nat) (l0 : List Int) (a1 : Int) (r : Int) (w : World) (hr0 : Kd.C (Kd.int .i64) w A0 l0.length l0) (hc0 : l0.length ≤ c0) (h : slices_Index_int_int.f k l0 a1 = some r) :
  Calls Tryz.prog 30 #[.slice A0 l0.length c0, .int .i64 a1] w fun e w' => e = .returned (.int .i64 r) ∧ Drawn0 w w' := by
 have HR0 := Aside0.mk hr0
 have HC0 := Aside0.mk hc0
 clear hr0 hc0
 have H : (slices_Index_int_int.l0 k l0 a1 (l0.length : Int) 0) = some r := h
 clear h
 have H' := Aside0.mk H
 clear H
 go_enter Tryz.func30, Tryz.ntmps30
 go_wp2
 go_loopg [8] k (fun kq v8 w' => ∃ (x8_1 : Int), v8 = .int .i64 x8_1 ∧ Aside0 (slices_Index_int_int.l0 kq l0 a1 (l0.length : Int) x8_1 = some r) ∧ Aside0 (kq ≤ k) ∧ Drawn0 w w')
 case atStart => exact ⟨(0), (by first | rfl | (simp; done) | (simp [*]; done)), H', ⟨Nat.le_refl _⟩, by repeat (first | exact Drawn0.refl _ | apply Drawn0.step)⟩
 case round =>
  clear H'
  try clear p2
  obtain ⟨x8_1, rfl, HA, HK1, ⟨m1, rfl⟩⟩ := hrel
  cases gk with
  | zero => exact absurd HA.out (by simp [slices_Index_int_int.l0])
  | succ k1 =>
   have H := HA.out
   clear HA
   simp only [slices_Index_int_int.l0] at H
   by_cases c3 : x8_1 < (l0.length : Int)
   ·rw [if_pos c3] at H
    have c3b0 : decide (x8_1 < (l0.length : Int)) = true := decide_eq_true c3
    clear c3
    by_cases c4 : 0 ≤ x8_1
    ·rw [if_pos c4] at H
     have c4b0 : decide (0 ≤ x8_1) = true := decide_eq_true c4
     clear c4
     by_cases c5 : x8_1 < (l0.length : Int)
     ·rw [if_pos c5] at H
      have c5b0 : decide (x8_1 < (l0.length : Int)) = true := decide_eq_true c5
      clear c5
      by_cases c6 : a1 = (rd l0 x8_1)
      ·rw [if_pos c6] at H
       have c6b0 : (a1 == (rd l0 x8_1)) = true := beq_iff_eq.mpr c6
       have c6b1 : (a1 != (rd l0 x8_1)) = false := bne_eq_false_iff_eq.mpr c6
       clear c6
       obtain rfl := Option.some.inj H
       have p253 : 0 ≤ (x8_1 : Int) := of_decide_eq_true (by first | (with_reducible assumption) | assumption)
       have q253 : x8_1 < (l0.length : Int) := of_decide_eq_true (by first | (with_reducible assumption) | assumption)
       obtain ⟨ad253, e253, hx253_0⟩ := Kd.at_int HR0.out x8_1 p253 q253
       cases e253
       replace p253 := eq_true p253
       replace q253 := eq_true q253
       go_wp2
       go_ret
       exact ⟨by first | rfl | (simp; done) | (simp [*]; done), by repeat (first | exact Drawn0.refl _ | apply Drawn0.step)⟩
      ·rw [if_neg c6] at H
       have c6b0 : (a1 == (rd l0 x8_1)) = false := beq_eq_false_iff_ne.mpr c6
       have c6b1 : (a1 != (rd l0 x8_1)) = true := bne_iff_ne.mpr c6
       have H' := Aside0.mk H
       clear H
       have p253 : 0 ≤ (x8_1 : Int) := of_decide_eq_true (by first | (with_reducible assumption) | assumption)
       have q253 : x8_1 < (l0.length : Int) := of_decide_eq_true (by first | (with_reducible assumption) | assumption)
       obtain ⟨ad253, e253, hx253_0⟩ := Kd.at_int HR0.out x8_1 p253 q253
       cases e253
       replace p253 := eq_true p253
       replace q253 := eq_true q253
       go_wp2
       go_roundg k1
       case measure => have := HK1.out; omega
       case rel => exact ⟨(wrap64 (x8_1 + 1)), (by first | rfl | (simp; done) | (simp [*]; done)), H', ⟨by have := HK1.out; omega⟩, by repeat (first | exact Drawn0.refl _ | apply Drawn0.step)⟩
     ·rw [if_neg c5] at H
      exact absurd H (by simp)
    ·rw [if_neg c4] at H
     exact absurd H (by simp)
   ·rw [if_neg c3] at H
    have c3b0 : decide (x8_1 < (l0.length : Int)) = false := decide_eq_false c3
    clear c3
    obtain rfl := Option.some.inj H
    go_wp2
    go_ret
    exact ⟨by first | rfl | (simp; done) | (simp [*]; done), by repeat (first | exact Drawn0.refl _ | apply Drawn0.step)⟩

/-! ### slices_Contains_int_int: function 17 -/
def slices_Contains_int_int.f (k : Nat) (l0 : List Int) (a1 : Int) : Option (Bool) := (slices_Index_int_int.f k l0 a1).bind fun t254 => (some (decide (t254 ≥ 0)))
set_option maxHeartbeats 8000000 in
set_option maxRecDepth 100000 in
theorem slices_Contains_int_int.calls (k : Nat) (A0 : Option Addr) (c0 : Nat) (l0 : List Int) (a1 : Int) (r : Bool) (w : World) (hr0 : Kd.C (Kd.int .i64) w A0 l0.length l0) (hc0 : l0.length ≤ c0) (h : slices_Contains_int_int.f k l0 a1 = some r) :
  Calls Tryz.prog 17 #[.slice A0 l0.length c0, .int .i64 a1] w fun e w' => e = .returned (.bool r) ∧ Drawn0 w w' := by
 have HR0 := Aside0.mk hr0
 have HC0 := Aside0.mk hc0
 clear hr0 hc0
 have H : ((slices_Index_int_int.f k l0 a1).bind fun t254 => (some (decide (t254 ≥ 0)))) = some r := h
 clear h
 replace H := Option.bind_eq_some_iff.mp H
 obtain ⟨t254, A30, H⟩ := H
 replace H : (some (decide (t254 ≥ 0))) = some r := H
 have A3 := Aside0.mk A30
 clear A30
 obtain rfl := Option.some.inj H
 go_enter Tryz.func17, Tryz.ntmps17
 go_wp2_with (first | ((with_reducible refine gate_callee (f := 30) rfl ?_); refine goesL_ (some 7) rfl rfl Tryz.func30 (by kernel_rfl) rfl #[.slice A0 l0.length c0, .int .i64 a1] rfl (by (try simp only [List.map_toArray, List.map_cons, List.map_nil]); first | done | rfl | (simp only [List.length_drop, List.length_take]; rfl)) ?_; (with_reducible refine (slices_Index_int_int.calls k _ _ l0 a1 t254 _ ?side1 ?side2 A3.out).mono ?_); (case side1 => repeat (first | exact HR0.out | (with_reducible refine Kd.C_alloc ?_ _) | (with_reducible refine Kd.C_drewN ?_ _) | (with_reducible refine Kd.C_drew ?_))); (case side2 => exact HC0.out); rintro e w' ⟨rfl, ⟨nd, rfl⟩⟩; refine ⟨_, rfl, ?_⟩))
 go_ret
 exact ⟨by first | rfl | (simp; done) | (simp [*]; done), by repeat (first | exact Drawn0.refl _ | apply Drawn0.step)⟩


end Go.Proofs.YthkmblgehdofmaaGreat.PL
