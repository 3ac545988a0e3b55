/- Printed by a program (the kit's printer, run over contracts that were proved by hand). -/
import Derived.Test.YthkmblgehdofmaaGreatAG8
set_option linter.unusedVariables false
set_option linter.unusedSimpArgs false
namespace Go.Proofs.YthkmblgehdofmaaGreat.PL
open Go.RowKit Go.Proofs.YthkmblgehdofmaaGreatW.PrintWords Go.Proofs.YthkmblgehdofmaaGreatW.PrintLast Go.Proofs.YthkmblgehdofmaaGreatW.PrintMore
attribute [local go_sem] max2_int min2_int max_two min_two max_three min_three max_four min_four   -- for this text's walks alone
/-! ### laws_flowNumbers: function 16 -/
def laws_flowNumbers.l0 : Nat → List Int → Int → Bool → List Int → List (S29) → Option (Bool)
 | 0, _, _, _, _, _ => none
 | k + 1, x3, x4, x339000, x339001, x339002 => if x4 < (x3.length : Int) then (if 0 ≤ x4 then (if (rd x3 x4) = x4 then (laws_flowNumbers.l0 k x3 (wrap64 (x4 + 1)) x339000 x339001 x339002) else (some false)) else (none)) else (if x339000 = true then ((laws_sunk.f x339000 x339001 x339002).bind fun t343 => (some (!t343))) else (some false))
def laws_flowNumbers.f (k : Nat) (a0_0 : Bool) (l0_1 : List Int) (l0_2 : List (S29)) : Option (Bool) := (laws_nodesOf.f a0_0 l0_1 l0_2).bind fun t339 => (laws_flowNumbers.l0 k t339 0 a0_0 l0_1 l0_2)
set_option maxHeartbeats 8000000 in
set_option maxRecDepth 100000 in
theorem laws_flowNumbers.calls (k : Nat) (a0_0 : Bool) (A0_1 : Option Addr) (c0_1 : Nat) (l0_1 : List Int) (A0_2 : Option Addr) (c0_2 : Nat) (l0_2 : List (S29)) (r : Bool) (w : World) (hr0_1 : Kd.C (Kd.int .i64) w A0_1 l0_1.length l0_1) (hc0_1 : l0_1.length ≤ c0_1) (hr0_2 : Kd.C k29 w A0_2 l0_2.length l0_2) (hc0_2 : l0_2.length ≤ c0_2) (h : laws_flowNumbers.f k a0_0 l0_1 l0_2 = some r) :
  Calls Tryz.prog 16 #[.agg #[.bool a0_0, .slice A0_1 l0_1.length c0_1, .slice A0_2 l0_2.length c0_2]] w fun e w' => e = .returned (.bool r) ∧ Below w.heap.size w w' := by
 have hu26 := Tryz.underlying26
 have HR0_1 := Aside0.mk hr0_1
 have HC0_1 := Aside0.mk hc0_1
 clear hr0_1 hc0_1
 have HR0_2 := Aside0.mk hr0_2
 have HC0_2 := Aside0.mk hc0_2
 clear hr0_2 hc0_2
 have HB := Aside0.mk (Below.refl w.heap.size w)
 have H : ((laws_nodesOf.f a0_0 l0_1 l0_2).bind fun t339 => (laws_flowNumbers.l0 k t339 0 a0_0 l0_1 l0_2)) = some r := h
 clear h
 replace H := Option.bind_eq_some_iff.mp H
 obtain ⟨t339, A20, H⟩ := H
 replace H : (laws_flowNumbers.l0 k t339 0 a0_0 l0_1 l0_2) = some r := H
 have A2 := Aside0.mk A20
 clear A20
 have H' := Aside0.mk H
 clear H
 go_enter Tryz.func16, Tryz.ntmps16
 go_wp2_with (first | ((with_reducible refine gate_dst (N := 1) rfl ?_); refine box_event ?hg (N := 1) ?hd (cs := #[.bool a0_0, .slice A0_1 l0_1.length c0_1, .slice A0_2 l0_2.length c0_2]) (t := 26) ?hr ?_; (case hd => rfl); (case hg => rfl); (case hr => first | (go_simp; done) | (go_simp; rfl)); intro gb338 hg w3 hbox hb; have n0_ := Aside0.mk (below_step (by repeat (first | (with_reducible first | exact HB.out | apply below_alloc | apply pw_below_drewN | apply below_drew1) | exact HB.out)) hb); have n1_ := Aside0.mk (hbox); have n2_ := Aside0.mk ((by rw [hg]; exact (below_size (by repeat (first | (with_reducible first | exact HB.out | apply below_alloc | apply pw_below_drewN | apply below_drew1) | exact HB.out))) : w.heap.size ≤ gb338)); have n3_ := Aside0.mk ((by rw [hg]; exact (below_size (by repeat (first | (with_reducible first | exact HB.out | apply below_alloc | apply pw_below_drewN | apply below_drew1) | exact HB.out))) : w.heap.size ≤ gb338)); clear HB; have HB := n0_; have BK338 := n1_; have GW338 := n2_; have GE338 := n3_; clear n0_ n1_ n2_ n3_; clear hb hbox hg; have hcz4_0 : w3.cell? ⟨gb338, 0, none⟩ = some (.bool a0_0) := (blk_cell BK338.out 0).trans rfl; have hcz4_1 : w3.cell? ⟨gb338, 1, none⟩ = some (.slice A0_1 l0_1.length c0_1) := (blk_cell BK338.out 1).trans rfl; have hcz4_2 : w3.cell? ⟨gb338, 2, none⟩ = some (.slice A0_2 l0_2.length c0_2) := (blk_cell BK338.out 2).trans rfl; have hfz4_0 := blk_frozen BK338.out 0; have hfz4_1 := blk_frozen BK338.out 1; have hfz4_2 := blk_frozen BK338.out 2) | ((with_reducible refine gate_callee (f := 27) rfl ?_); refine goesL_ (some 6) rfl rfl Tryz.func27 (by kernel_rfl) rfl #[.agg #[.bool a0_0, .slice A0_1 l0_1.length c0_1, .slice A0_2 l0_2.length c0_2]] rfl (by (try simp only [List.map_toArray, List.map_cons, List.map_nil]); first | done | rfl | (simp only [List.length_drop, List.length_take]; rfl)) ?_; (with_reducible refine (laws_nodesOf.calls a0_0 _ _ l0_1 _ _ l0_2 t339 _ ?side1 ?side2 ?side3 ?side4 A2.out).mono ?_); (case side1 => repeat (first | exact (Kd.C_below HR0_1.out HB.out) | (with_reducible refine Kd.C_alloc ?_ _) | (with_reducible refine Kd.C_drewN ?_ _) | (with_reducible refine Kd.C_drew ?_))); (case side2 => exact HC0_1.out); (case side3 => repeat (first | exact (Kd.C_below HR0_2.out HB.out) | (with_reducible refine Kd.C_alloc ?_ _) | (with_reducible refine Kd.C_drewN ?_ _) | (with_reducible refine Kd.C_drew ?_))); (case side4 => exact HC0_2.out); rintro e w5 ⟨v340, rfl, ho0, hb⟩; refine ⟨_, rfl, ?_⟩; have n0_ := Aside0.mk (Kd.R_lower ho0 (below_size (by repeat (first | (with_reducible first | exact HB.out | apply below_alloc | apply pw_below_drewN | apply below_drew1 | refine below_set ?_ GE338.out) | exact HB.out)))); have n1_ := Aside0.mk (blk_below (g := gb338) (o := .cells #[.bool a0_0, .slice A0_1 l0_1.length c0_1, .slice A0_2 l0_2.length c0_2] 26 (0, 0)) (by (with_reducible repeat (first | refine blk_drewN ?_ _ | refine blk_drew ?_ | refine blk_alloc ?_ _)); exact BK338.out) hb); have n2_ := Aside0.mk (below_step (by repeat (first | (with_reducible first | exact HB.out | apply below_alloc | apply pw_below_drewN | apply below_drew1 | refine below_set ?_ GE338.out) | exact HB.out)) hb); clear BK338; clear HB; have HO341 := n0_; have BK338 := n1_; have HB := n2_; clear n0_ n1_ n2_; (try clear hb); (try clear hb2); (try clear hk); (try clear hi); (try clear ho0)))
 go_loopg [4] k (fun kq v4 w' => ∃ (x4_1 : Int), v4 = .int .i64 x4_1 ∧ Aside0 (laws_flowNumbers.l0 kq t339 x4_1 a0_0 l0_1 l0_2 = some r) ∧ Aside0 (kq ≤ k) ∧ Aside0 (Kd.R (Kd.int .i64) 3 w' w.heap.size (fun _ => True) v340 t339) ∧ Aside0 (w'.heap[gb338]? = some (.cells #[.bool a0_0, (.slice A0_1 l0_1.length c0_1), (.slice A0_2 l0_2.length c0_2)] 26 (0, 0))) ∧ Aside0 (Below w.heap.size w w'))
 case atStart => exact ⟨(0), (by first | rfl | (simp; done) | (simp [*]; done)), H', ⟨Nat.le_refl _⟩, ⟨by (with_reducible repeat (first | apply Kd.R_alloc | apply Kd.R_drewN | apply Kd.R_drew)); exact HO341.out⟩, ⟨by (with_reducible repeat (first | refine blk_drewN ?_ _ | refine blk_drew ?_ | refine blk_alloc ?_ _)); exact BK338.out⟩, ⟨by repeat (first | (with_reducible first | exact HB.out | apply below_alloc | apply pw_below_drewN | apply below_drew1 | refine below_set ?_ GE338.out) | exact HB.out)⟩⟩
 case round =>
  clear H'
  try clear c1
  try clear c2
  try clear p2
  try clear hcz4_0
  try clear hcz4_1
  try clear hcz4_2
  try clear hfz4_0
  try clear hfz4_1
  try clear hfz4_2
  obtain ⟨x4_1, rfl, HA, HK1, HO_3, BK338, HB⟩ := hrel
  cases gk with
  | zero => exact absurd HA.out (by simp [laws_flowNumbers.l0])
  | succ k1 =>
   have H := HA.out
   clear HA
   simp only [laws_flowNumbers.l0] at H
   by_cases c6 : x4_1 < (t339.length : Int)
   ·rw [if_pos c6] at H
    have c6b0 : decide (x4_1 < (t339.length : Int)) = true := decide_eq_true c6
    clear c6
    by_cases c7 : 0 ≤ x4_1
    ·rw [if_pos c7] at H
     have c7b0 : decide (0 ≤ x4_1) = true := decide_eq_true c7
     clear c7
     by_cases c8 : (rd t339 x4_1) = x4_1
     ·rw [if_pos c8] at H
      have c8b0 : ((rd t339 x4_1) == x4_1) = true := beq_iff_eq.mpr c8
      have c8b1 : ((rd t339 x4_1) != x4_1) = false := bne_eq_false_iff_eq.mpr c8
      clear c8
      have H' := Aside0.mk H
      clear H
      obtain ⟨Ao9, co9, eo9⟩ := Kd.R_slice HO_3.out
      subst eo9
      have p342 : 0 ≤ (x4_1 : Int) := of_decide_eq_true (by first | (with_reducible assumption) | assumption)
      have q342 : x4_1 < (t339.length : Int) := of_decide_eq_true (by first | (with_reducible assumption) | assumption)
      obtain ⟨ad342, e342, hx342_0⟩ := Kd.at_int (Kd.R_reads' HO_3.out).2.2 x4_1 p342 q342
      cases e342
      replace p342 := eq_true p342
      replace q342 := eq_true q342
      go_wp2
      go_roundg k1
      case measure => have := HK1.out; omega
      case rel => exact ⟨(wrap64 (x4_1 + 1)), (by first | rfl | (simp; done) | (simp [*]; done)), H', ⟨by have := HK1.out; omega⟩, ⟨by (with_reducible repeat (first | apply Kd.R_alloc | apply Kd.R_drewN | apply Kd.R_drew)); exact HO_3.out⟩, ⟨by (with_reducible repeat (first | refine blk_drewN ?_ _ | refine blk_drew ?_ | refine blk_alloc ?_ _)); exact BK338.out⟩, ⟨by repeat (first | (with_reducible first | exact HB.out | apply below_alloc | apply pw_below_drewN | apply below_drew1 | refine below_set ?_ GE338.out) | exact HB.out)⟩⟩
     ·rw [if_neg c8] at H
      have c8b0 : ((rd t339 x4_1) == x4_1) = false := beq_eq_false_iff_ne.mpr c8
      have c8b1 : ((rd t339 x4_1) != x4_1) = true := bne_iff_ne.mpr c8
      obtain rfl := Option.some.inj H
      obtain ⟨Ao10, co10, eo10⟩ := Kd.R_slice HO_3.out
      subst eo10
      have p342 : 0 ≤ (x4_1 : Int) := of_decide_eq_true (by first | (with_reducible assumption) | assumption)
      have q342 : x4_1 < (t339.length : Int) := of_decide_eq_true (by first | (with_reducible assumption) | assumption)
      obtain ⟨ad342, e342, hx342_0⟩ := Kd.at_int (Kd.R_reads' HO_3.out).2.2 x4_1 p342 q342
      cases e342
      replace p342 := eq_true p342
      replace q342 := eq_true q342
      go_wp2
      go_ret
      exact ⟨by first | rfl | (simp [errW_none, errW_some] <;> rfl) | (simp [*, errW_none, errW_some] <;> rfl), by repeat (first | (with_reducible first | exact HB.out | apply below_alloc | apply pw_below_drewN | apply below_drew1 | refine below_set ?_ GE338.out) | exact HB.out)⟩
    ·rw [if_neg c7] at H
     exact absurd H (by simp)
   ·rw [if_neg c6] at H
    have c6b0 : decide (x4_1 < (t339.length : Int)) = false := decide_eq_false c6
    clear c6
    by_cases c11 : a0_0 = true
    ·subst c11
     have H1 : ((laws_sunk.f true l0_1 l0_2).bind fun t343 => (some (!t343))) = some r := by rw [if_pos rfl] at H; exact H
     clear H
     have H := H1
     clear H1
     replace H := Option.bind_eq_some_iff.mp H
     obtain ⟨t343, A120, H⟩ := H
     replace H : (some (!t343)) = some r := H
     have A12 := Aside0.mk A120
     clear A120
     obtain rfl := Option.some.inj H
     obtain ⟨Ao13, co13, eo13⟩ := Kd.R_slice HO_3.out
     subst eo13
     have hcz14_0 : wr.cell? ⟨gb338, 0, none⟩ = some (.bool true) := (blk_cell BK338.out 0).trans rfl
     have hcz14_1 : wr.cell? ⟨gb338, 1, none⟩ = some (.slice A0_1 l0_1.length c0_1) := (blk_cell BK338.out 1).trans rfl
     have hcz14_2 : wr.cell? ⟨gb338, 2, none⟩ = some (.slice A0_2 l0_2.length c0_2) := (blk_cell BK338.out 2).trans rfl
     have hfz14_0 := blk_frozen BK338.out 0
     have hfz14_1 := blk_frozen BK338.out 1
     have hfz14_2 := blk_frozen BK338.out 2
     go_wp2_with (first | (go_at_call 35; (with_reducible refine (laws_sunk.calls true _ _ l0_1 _ _ l0_2 t343 _ ?side1 ?side2 ?side3 ?side4 A12.out).mono ?_); (case side1 => repeat (first | exact (Kd.C_below HR0_1.out HB.out) | (with_reducible refine Kd.C_alloc ?_ _) | (with_reducible refine Kd.C_drewN ?_ _) | (with_reducible refine Kd.C_drew ?_))); (case side2 => exact HC0_1.out); (case side3 => repeat (first | exact (Kd.C_below HR0_2.out HB.out) | (with_reducible refine Kd.C_alloc ?_ _) | (with_reducible refine Kd.C_drewN ?_ _) | (with_reducible refine Kd.C_drew ?_))); (case side4 => exact HC0_2.out); rintro e w15 ⟨rfl, hb⟩; have n0_ := Aside0.mk (Kd.R_below (by (with_reducible repeat (first | apply Kd.R_alloc | apply Kd.R_drewN | apply Kd.R_drew)); exact HO_3.out) hb); have n1_ := Aside0.mk (blk_below (g := gb338) (o := .cells #[.bool true, .slice A0_1 l0_1.length c0_1, .slice A0_2 l0_2.length c0_2] 26 (0, 0)) (by (with_reducible repeat (first | refine blk_drewN ?_ _ | refine blk_drew ?_ | refine blk_alloc ?_ _)); exact BK338.out) hb); have n2_ := Aside0.mk (below_step (by repeat (first | (with_reducible first | exact HB.out | apply below_alloc | apply pw_below_drewN | apply below_drew1 | refine below_set ?_ GE338.out) | exact HB.out)) hb); clear HO_3; clear BK338; clear HB; have HO_3 := n0_; have BK338 := n1_; have HB := n2_; clear n0_ n1_ n2_; (try clear hb); (try clear hb2); (try clear hk); (try clear hi)))
     go_ret
     exact ⟨by first | rfl | (simp [errW_none, errW_some] <;> rfl) | (simp [*, errW_none, errW_some] <;> rfl), by repeat (first | (with_reducible first | exact HB.out | apply below_alloc | apply pw_below_drewN | apply below_drew1 | refine below_set ?_ GE338.out) | exact HB.out)⟩
    ·replace c11 := Bool.eq_false_iff.mpr c11
     subst c11
     have H1 : (some false) = some r := by rw [if_neg (show ¬ (false = true) by decide)] at H; exact H
     clear H
     have H := H1
     clear H1
     obtain rfl := Option.some.inj H
     obtain ⟨Ao16, co16, eo16⟩ := Kd.R_slice HO_3.out
     subst eo16
     have hcz17_0 : wr.cell? ⟨gb338, 0, none⟩ = some (.bool false) := (blk_cell BK338.out 0).trans rfl
     have hcz17_1 : wr.cell? ⟨gb338, 1, none⟩ = some (.slice A0_1 l0_1.length c0_1) := (blk_cell BK338.out 1).trans rfl
     have hcz17_2 : wr.cell? ⟨gb338, 2, none⟩ = some (.slice A0_2 l0_2.length c0_2) := (blk_cell BK338.out 2).trans rfl
     have hfz17_0 := blk_frozen BK338.out 0
     have hfz17_1 := blk_frozen BK338.out 1
     have hfz17_2 := blk_frozen BK338.out 2
     go_wp2
     go_ret
     exact ⟨by first | rfl | (simp [errW_none, errW_some] <;> rfl) | (simp [*, errW_none, errW_some] <;> rfl), by repeat (first | (with_reducible first | exact HB.out | apply below_alloc | apply pw_below_drewN | apply below_drew1 | refine below_set ?_ GE338.out) | exact HB.out)⟩

/-! ### laws_hops: function 18 -/
mutual
def laws_hops.l0 : Nat → List (S54) → Int → Bool → List Int → List (S29) → Option ((List (S54)))
 | 0, _, _, _, _, _ => none
 | k + 1, x3, x4, x345000, x345001, x345002 => if x4 < (x345002.length : Int) then (if 0 ≤ x4 then (laws_hops.l1 k x3 x4 true (wrap64 (x4 + 1)) x345000 x345001 x345002 ((rd_T29 x345002 x4).f0) ((rd_T29 x345002 x4).f1) ((rd_T29 x345002 x4).f2)) else (none)) else (some x3)
def laws_hops.l1 : Nat → List (S54) → Int → Bool → Int → Bool → List Int → List (S29) → Int → Int → Int → Option ((List (S54)))
 | 0, _, _, _, _, _, _, _, _, _, _ => none
 | k + 1, x3, x4, x6, x7, x345000, x345001, x345002, x347000, x347001, x347002 => if x7 < (x345002.length : Int) then (if 0 ≤ x7 then (if ((rd_T29 x345002 x7).f0) = x347000 then (if ((rd_T29 x345002 x7).f1) = x347001 then (laws_hops.l1 k x3 x4 false (wrap64 (x7 + 1)) x345000 x345001 x345002 x347000 x347001 x347002) else (if x345000 = true then (laws_hops.l1 k x3 x4 x6 (wrap64 (x7 + 1)) x345000 x345001 x345002 x347000 x347001 x347002) else (if ((rd_T29 x345002 x7).f0) = x347001 then (if ((rd_T29 x345002 x7).f1) = x347000 then (laws_hops.l1 k x3 x4 false (wrap64 (x7 + 1)) x345000 x345001 x345002 x347000 x347001 x347002) else (laws_hops.l1 k x3 x4 x6 (wrap64 (x7 + 1)) x345000 x345001 x345002 x347000 x347001 x347002)) else (laws_hops.l1 k x3 x4 x6 (wrap64 (x7 + 1)) x345000 x345001 x345002 x347000 x347001 x347002)))) else (if x345000 = true then (laws_hops.l1 k x3 x4 x6 (wrap64 (x7 + 1)) x345000 x345001 x345002 x347000 x347001 x347002) else (if ((rd_T29 x345002 x7).f0) = x347001 then (if ((rd_T29 x345002 x7).f1) = x347000 then (laws_hops.l1 k x3 x4 false (wrap64 (x7 + 1)) x345000 x345001 x345002 x347000 x347001 x347002) else (laws_hops.l1 k x3 x4 x6 (wrap64 (x7 + 1)) x345000 x345001 x345002 x347000 x347001 x347002)) else (laws_hops.l1 k x3 x4 x6 (wrap64 (x7 + 1)) x345000 x345001 x345002 x347000 x347001 x347002)))) else (none)) else (if x6 = true then (if x3.length < 5864062014805 then ((some (x3 ++ [(⟨x347000, x347001, x347002⟩ : S54)] : List (S54))).bind fun y349 => (if x345000 = true then (laws_hops.l0 k y349 (wrap64 (x4 + 1)) x345000 x345001 x345002) else (if y349.length < 5864062014805 then (laws_hops.l0 k (y349 ++ [(⟨x347001, x347000, x347002⟩ : S54)]) (wrap64 (x4 + 1)) x345000 x345001 x345002) else (none)))) else (none)) else (laws_hops.l0 k x3 (wrap64 (x4 + 1)) x345000 x345001 x345002))
end
def laws_hops.f (k : Nat) (a0_0 : Bool) (l0_1 : List Int) (l0_2 : List (S29)) : Option ((List (S54))) := laws_hops.l0 k ([] : List (S54)) 0 a0_0 l0_1 l0_2
set_option maxHeartbeats 8000000 in
set_option maxRecDepth 100000 in
theorem laws_hops.calls (k : Nat) (a0_0 : Bool) (A0_1 : Option Addr) (c0_1 : Nat) (l0_1 : List Int) (A0_2 : Option Addr) (c0_2 : Nat) (l0_2 : List (S29)) (r : List (S54)) (w : World) (hr0_1 : Kd.C (Kd.int .i64) w A0_1 l0_1.length l0_1) (hc0_1 : l0_1.length ≤ c0_1) (hr0_2 : Kd.C k29 w A0_2 l0_2.length l0_2) (hc0_2 : l0_2.length ≤ c0_2) (h : laws_hops.f k a0_0 l0_1 l0_2 = some r) :
  Calls Tryz.prog 18 #[.agg #[.bool a0_0, .slice A0_1 l0_1.length c0_1, .slice A0_2 l0_2.length c0_2]] w fun e w' => ∃ v0_ : Value, e = .returned (v0_) ∧ Kd.R k54 54 w' w.heap.size (fun _ => True) v0_ r ∧ Below w.heap.size w w' := by
 have hu26 := Tryz.underlying26
 have hu29 := Tryz.underlying29
 have hu54 := Tryz.underlying54
 have HR0_1 := Aside0.mk hr0_1
 have HC0_1 := Aside0.mk hc0_1
 clear hr0_1 hc0_1
 have HR0_2 := Aside0.mk hr0_2
 have HC0_2 := Aside0.mk hc0_2
 clear hr0_2 hc0_2
 have HB := Aside0.mk (Below.refl w.heap.size w)
 have H : (laws_hops.l0 k ([] : List (S54)) 0 a0_0 l0_1 l0_2) = some r := h
 clear h
 have H' := Aside0.mk H
 clear H
 go_enter Tryz.func18, Tryz.ntmps18
 go_wp2_with (first | ((with_reducible refine gate_dst (N := 1) rfl ?_); refine box_event ?hg (N := 1) ?hd (cs := #[.bool a0_0, .slice A0_1 l0_1.length c0_1, .slice A0_2 l0_2.length c0_2]) (t := 26) ?hr ?_; (case hd => rfl); (case hg => rfl); (case hr => first | (go_simp; done) | (go_simp; rfl)); intro gb344 hg w2 hbox hb; have n0_ := Aside0.mk (below_step (by repeat (first | (with_reducible first | exact HB.out | apply below_alloc | apply pw_below_drewN | apply below_drew1) | exact HB.out)) hb); have n1_ := Aside0.mk (hbox); have n2_ := Aside0.mk ((by rw [hg]; exact (below_size (by repeat (first | (with_reducible first | exact HB.out | apply below_alloc | apply pw_below_drewN | apply below_drew1) | exact HB.out))) : w.heap.size ≤ gb344)); have n3_ := Aside0.mk ((by rw [hg]; exact (below_size (by repeat (first | (with_reducible first | exact HB.out | apply below_alloc | apply pw_below_drewN | apply below_drew1) | exact HB.out))) : w.heap.size ≤ gb344)); clear HB; have HB := n0_; have BK344 := n1_; have GW344 := n2_; have GE344 := n3_; clear n0_ n1_ n2_ n3_; clear hb hbox hg))
 go_loopg [3, 4] k (fun kq v3 v4 w' => ∃ (x3_1 : List (S54)) (x4_1 : Int), v4 = .int .i64 x4_1 ∧ Aside0 (laws_hops.l0 kq x3_1 x4_1 a0_0 l0_1 l0_2 = some r) ∧ Aside0 (kq ≤ k) ∧ Aside0 (Kd.R k54 54 w' w.heap.size (fun _ => True) v3 x3_1) ∧ Aside0 (w'.heap[gb344]? = some (.cells #[.bool a0_0, (.slice A0_1 l0_1.length c0_1), (.slice A0_2 l0_2.length c0_2)] 26 (0, 0))) ∧ Aside0 (Below w.heap.size w w'))
 case atStart => exact ⟨(([] : List (S54))), (0), (by first | rfl | (simp; done) | (simp [*]; done)), H', ⟨Nat.le_refl _⟩, ⟨by first | exact Kd.R_nil _ _ _ _ _ | exact Kd.N_nil _ _ _ _ _ | exact Kd.V_nil _ _ _ _ _ | exact Kd.Q_nil _ _ _ _ _ | exact Kd.S_nil _ _ _ _ _⟩, ⟨by (with_reducible repeat (first | refine blk_drewN ?_ _ | refine blk_drew ?_ | refine blk_alloc ?_ _)); exact BK344.out⟩, ⟨by repeat (first | (with_reducible first | exact HB.out | apply below_alloc | apply pw_below_drewN | apply below_drew1 | refine below_set ?_ GE344.out) | exact HB.out)⟩⟩
 case round =>
  clear H'
  try clear c1
  try clear p2
  obtain ⟨x3_1, x4_1, rfl, HA, HK1, HO_3, BK344, HB⟩ := hrel
  cases gk with
  | zero => exact absurd HA.out (by simp [laws_hops.l0])
  | succ k1 =>
   have H := HA.out
   clear HA
   simp only [laws_hops.l0] at H
   by_cases c3 : x4_1 < (l0_2.length : Int)
   ·rw [if_pos c3] at H
    have c3b0 : decide (x4_1 < (l0_2.length : Int)) = true := decide_eq_true c3
    clear c3
    by_cases c4 : 0 ≤ x4_1
    ·rw [if_pos c4] at H
     have c4b0 : decide (0 ≤ x4_1) = true := decide_eq_true c4
     clear c4
     have H' := Aside0.mk H
     clear H
     have hcz5_0 : wr.cell? ⟨gb344, 0, none⟩ = some (.bool a0_0) := (blk_cell BK344.out 0).trans rfl
     have hcz5_1 : wr.cell? ⟨gb344, 1, none⟩ = some (.slice A0_1 l0_1.length c0_1) := (blk_cell BK344.out 1).trans rfl
     have hcz5_2 : wr.cell? ⟨gb344, 2, none⟩ = some (.slice A0_2 l0_2.length c0_2) := (blk_cell BK344.out 2).trans rfl
     have hfz5_0 := blk_frozen BK344.out 0
     have hfz5_1 := blk_frozen BK344.out 1
     have hfz5_2 := blk_frozen BK344.out 2
     have p345 : 0 ≤ (x4_1 : Int) := of_decide_eq_true (by first | (with_reducible assumption) | assumption)
     have q345 : x4_1 < (l0_2.length : Int) := of_decide_eq_true (by first | (with_reducible assumption) | assumption)
     obtain ⟨ad345, e345, hx345_0, hx345_1, hx345_2⟩ := at_T29 HR0_2.out x4_1 p345 q345
     cases e345
     replace hx345_0 := (HB.out.cell (World.block_lt_of_cell? w _ hx345_0)).trans hx345_0
     replace hx345_1 := (HB.out.cell (World.block_lt_of_cell? w _ hx345_1)).trans hx345_1
     replace hx345_2 := (HB.out.cell (World.block_lt_of_cell? w _ hx345_2)).trans hx345_2
     replace p345 := eq_true p345
     replace q345 := eq_true q345
     go_wp2_with (first | ((with_reducible refine gate_dst (N := 5) rfl ?_); refine box_event ?hg (N := 5) ?hd (cs := #[.int .i64 0, .int .i64 0, .int .i64 0]) (t := 29) ?hr ?_; (case hd => rfl); (case hg => rfl); (case hr => first | (go_simp; done) | (go_simp; rfl)); intro gb346 hg w6 hbox hb; have n0_ := Aside0.mk (Kd.R_below (by (with_reducible repeat (first | apply Kd.R_alloc | apply Kd.R_drewN | apply Kd.R_drew)); exact HO_3.out) hb); have n1_ := Aside0.mk (blk_below (g := gb344) (o := .cells #[.bool a0_0, .slice A0_1 l0_1.length c0_1, .slice (some ad345) l0_2.length c0_2] 26 (0, 0)) (by (with_reducible repeat (first | refine blk_drewN ?_ _ | refine blk_drew ?_ | refine blk_alloc ?_ _)); exact BK344.out) hb); have n2_ := Aside0.mk (below_step (by repeat (first | (with_reducible first | exact HB.out | apply below_alloc | apply pw_below_drewN | apply below_drew1 | refine below_set ?_ GE344.out) | exact HB.out)) hb); have n3_ := Aside0.mk (hbox); have n4_ := Aside0.mk ((by rw [hg]; exact (below_size (by repeat (first | (with_reducible first | exact HB.out | apply below_alloc | apply pw_below_drewN | apply below_drew1 | refine below_set ?_ GE344.out) | exact HB.out))) : w.heap.size ≤ gb346)); have n5_ := Aside0.mk ((by rw [hg]; exact (below_size (by repeat (first | (with_reducible first | exact HB.out | apply below_alloc | apply pw_below_drewN | apply below_drew1 | refine below_set ?_ GE344.out) | exact HB.out))) : w.heap.size ≤ gb346)); have n6_ := Aside0.mk ((by rw [hg]; exact Nat.ne_of_lt (blk_lt (g := gb344) (o := .cells #[.bool a0_0, .slice A0_1 l0_1.length c0_1, .slice (some ad345) l0_2.length c0_2] 26 (0, 0)) (by (with_reducible repeat (first | refine blk_drewN ?_ _ | refine blk_drew ?_ | refine blk_alloc ?_ _)); exact BK344.out)) : gb344 ≠ gb346)); have n7_ := Aside0.mk ((by rw [hg]; exact Nat.ne_of_gt (blk_lt (g := gb344) (o := .cells #[.bool a0_0, .slice A0_1 l0_1.length c0_1, .slice (some ad345) l0_2.length c0_2] 26 (0, 0)) (by (with_reducible repeat (first | refine blk_drewN ?_ _ | refine blk_drew ?_ | refine blk_alloc ?_ _)); exact BK344.out)) : gb346 ≠ gb344)); clear HO_3; clear BK344; clear HB; have HO_3 := n0_; have BK344 := n1_; have HB := n2_; have BK346 := n3_; have GW346 := n4_; have GE346 := n5_; have NB344_346 := n6_; have NB346_344 := n7_; clear n0_ n1_ n2_ n3_ n4_ n5_ n6_ n7_; clear hb hbox hg; have hnb7 := NB346_344.out; have hnc7 := NB344_346.out; have hcz8_0 : w6.cell? ⟨gb346, 0, none⟩ = some (.int .i64 0) := (blk_cell BK346.out 0).trans rfl; have hcz8_1 : w6.cell? ⟨gb346, 1, none⟩ = some (.int .i64 0) := (blk_cell BK346.out 1).trans rfl; have hcz8_2 : w6.cell? ⟨gb346, 2, none⟩ = some (.int .i64 0) := (blk_cell BK346.out 2).trans rfl; have hfz8_0 := blk_frozen BK346.out 0; have hfz8_1 := blk_frozen BK346.out 1; have hfz8_2 := blk_frozen BK346.out 2))
     go_loopg [6, 7] k1 (fun kq v6 v7 w' => ∃ (x6_2 : Bool) (x7_2 : Int), v6 = .bool x6_2 ∧ v7 = .int .i64 x7_2 ∧ Aside0 (laws_hops.l1 kq x3_1 x4_1 x6_2 x7_2 a0_0 l0_1 l0_2 ((rd_T29 l0_2 x4_1).f0) ((rd_T29 l0_2 x4_1).f1) ((rd_T29 l0_2 x4_1).f2) = some r) ∧ Aside0 (kq ≤ k1) ∧ Aside0 (Kd.R k54 54 w' w.heap.size (fun _ => True) u3 x3_1) ∧ Aside0 (w'.heap[gb344]? = some (.cells #[.bool a0_0, (.slice A0_1 l0_1.length c0_1), (.slice (some ad345) l0_2.length c0_2)] 26 (0, 0))) ∧ Aside0 (w'.heap[gb346]? = some (.cells #[.int .i64 ((rd_T29 l0_2 x4_1).f0), .int .i64 ((rd_T29 l0_2 x4_1).f1), .int .i64 ((rd_T29 l0_2 x4_1).f2)] 29 (0, 0))) ∧ Aside0 (Below w.heap.size w w'))
     case atStart => exact ⟨(true), (wrap64 (x4_1 + 1)), (by first | rfl | (simp; done) | (simp [*]; done)), (by first | rfl | (simp; done) | (simp [*]; done)), H', ⟨Nat.le_refl _⟩, ⟨by (with_reducible repeat (first | apply Kd.R_alloc | apply Kd.R_drewN | apply Kd.R_drew)); exact Kd.R_mono (Kd.R_far (p := ⟨gb346, 2, none⟩) (Kd.R_far (p := ⟨gb346, 1, none⟩) (Kd.R_far (p := ⟨gb346, 0, none⟩) (Kd.R_types HO_3.out BK346.out (by decide)) (fun _ hk => hk.2) (.int .i64 ((rd_T29 l0_2 x4_1).f0))) (fun _ hk => hk.2) (.int .i64 ((rd_T29 l0_2 x4_1).f1))) (fun _ hk => hk.2) (.int .i64 ((rd_T29 l0_2 x4_1).f2))) (fun _ hk => trivial)⟩, ⟨by (with_reducible repeat (first | refine blk_drewN ?_ _ | refine blk_drew ?_ | refine blk_alloc ?_ _)); refine blk_far ?_ NB344_346.out _; (with_reducible repeat (first | refine blk_drewN ?_ _ | refine blk_drew ?_ | refine blk_alloc ?_ _)); refine blk_far ?_ NB344_346.out _; (with_reducible repeat (first | refine blk_drewN ?_ _ | refine blk_drew ?_ | refine blk_alloc ?_ _)); refine blk_far ?_ NB344_346.out _; (with_reducible repeat (first | refine blk_drewN ?_ _ | refine blk_drew ?_ | refine blk_alloc ?_ _)); exact BK344.out⟩, ⟨by (with_reducible repeat (first | refine blk_drewN ?_ _ | refine blk_drew ?_ | refine blk_alloc ?_ _)); refine blk_put (cs := #[.int .i64 ((rd_T29 l0_2 x4_1).f0), .int .i64 ((rd_T29 l0_2 x4_1).f1), .int .i64 0]) ?_ 2 _ rfl; (with_reducible repeat (first | refine blk_drewN ?_ _ | refine blk_drew ?_ | refine blk_alloc ?_ _)); refine blk_put (cs := #[.int .i64 ((rd_T29 l0_2 x4_1).f0), .int .i64 0, .int .i64 0]) ?_ 1 _ rfl; (with_reducible repeat (first | refine blk_drewN ?_ _ | refine blk_drew ?_ | refine blk_alloc ?_ _)); refine blk_put (cs := #[.int .i64 0, .int .i64 0, .int .i64 0]) ?_ 0 _ rfl; (with_reducible repeat (first | refine blk_drewN ?_ _ | refine blk_drew ?_ | refine blk_alloc ?_ _)); exact BK346.out⟩, ⟨by repeat (first | (with_reducible first | exact HB.out | apply below_alloc | apply pw_below_drewN | apply below_drew1 | refine below_set ?_ GE344.out | refine below_set ?_ GE346.out) | exact HB.out)⟩⟩
     case round =>
      clear H'
      try clear c1
      try clear p2
      try clear c3
      try clear c3b0
      try clear p3
      try clear q3
      try clear hx3
      try clear c4
      try clear c4b0
      try clear p6
      try clear c7
      try clear hcz5_0
      try clear hcz5_1
      try clear hcz5_2
      try clear hcz8_0
      try clear hcz8_1
      try clear hcz8_2
      try clear hfz5_0
      try clear hfz5_1
      try clear hfz5_2
      try clear hfz8_0
      try clear hfz8_1
      try clear hfz8_2
      try clear hx345_0
      try clear hx345_1
      try clear hx345_2
      try clear p2
      try clear p345
      try clear q345
      obtain ⟨x6_2, x7_2, rfl, rfl, HA, HK2, HO_3, BK344, BK346, HB⟩ := hrel
      cases gk with
      | zero => exact absurd HA.out (by simp [laws_hops.l1])
      | succ k2 =>
       have H := HA.out
       clear HA
       simp only [laws_hops.l1] at H
       by_cases c9 : x7_2 < (l0_2.length : Int)
       ·rw [if_pos c9] at H
        have c9b0 : decide (x7_2 < (l0_2.length : Int)) = true := decide_eq_true c9
        clear c9
        by_cases c10 : 0 ≤ x7_2
        ·rw [if_pos c10] at H
         have c10b0 : decide (0 ≤ x7_2) = true := decide_eq_true c10
         clear c10
         by_cases c11 : ((rd_T29 l0_2 x7_2).f0) = ((rd_T29 l0_2 x4_1).f0)
         ·rw [if_pos c11] at H
          have c11b0 : (((rd_T29 l0_2 x7_2).f0) == ((rd_T29 l0_2 x4_1).f0)) = true := beq_iff_eq.mpr c11
          have c11b1 : (((rd_T29 l0_2 x7_2).f0) != ((rd_T29 l0_2 x4_1).f0)) = false := bne_eq_false_iff_eq.mpr c11
          clear c11
          by_cases c12 : ((rd_T29 l0_2 x7_2).f1) = ((rd_T29 l0_2 x4_1).f1)
          ·rw [if_pos c12] at H
           have c12b0 : (((rd_T29 l0_2 x7_2).f1) == ((rd_T29 l0_2 x4_1).f1)) = true := beq_iff_eq.mpr c12
           have c12b1 : (((rd_T29 l0_2 x7_2).f1) != ((rd_T29 l0_2 x4_1).f1)) = false := bne_eq_false_iff_eq.mpr c12
           clear c12
           have H' := Aside0.mk H
           clear H
           have hnb13 := NB344_346.out
           have hnc13 := NB346_344.out
           have hcz14_0 : wr.cell? ⟨gb344, 0, none⟩ = some (.bool a0_0) := (blk_cell BK344.out 0).trans rfl
           have hcz14_1 : wr.cell? ⟨gb344, 1, none⟩ = some (.slice A0_1 l0_1.length c0_1) := (blk_cell BK344.out 1).trans rfl
           have hcz14_2 : wr.cell? ⟨gb344, 2, none⟩ = some (.slice (some ad345) l0_2.length c0_2) := (blk_cell BK344.out 2).trans rfl
           have hfz14_0 := blk_frozen BK344.out 0
           have hfz14_1 := blk_frozen BK344.out 1
           have hfz14_2 := blk_frozen BK344.out 2
           have p347 : 0 ≤ (x7_2 : Int) := of_decide_eq_true (by first | (with_reducible assumption) | assumption)
           have q347 : x7_2 < (l0_2.length : Int) := of_decide_eq_true (by first | (with_reducible assumption) | assumption)
           obtain ⟨ad347, e347, hx347_0, hx347_1, hx347_2⟩ := at_T29 HR0_2.out x7_2 p347 q347
           obtain rfl : ad345 = ad347 := (by injection e347)
           replace hx347_0 := (HB.out.cell (World.block_lt_of_cell? w _ hx347_0)).trans hx347_0
           replace hx347_1 := (HB.out.cell (World.block_lt_of_cell? w _ hx347_1)).trans hx347_1
           replace hx347_2 := (HB.out.cell (World.block_lt_of_cell? w _ hx347_2)).trans hx347_2
           replace p347 := eq_true p347
           replace q347 := eq_true q347
           go_wp2_with (first | ((with_reducible refine gate_dst (N := 8) rfl ?_); refine box_event ?hg (N := 8) ?hd (cs := #[.int .i64 0, .int .i64 0, .int .i64 0]) (t := 29) ?hr ?_; (case hd => rfl); (case hg => rfl); (case hr => first | (go_simp; done) | (go_simp; rfl)); intro gb348 hg w15 hbox hb; have n0_ := Aside0.mk (Kd.R_below (by (with_reducible repeat (first | apply Kd.R_alloc | apply Kd.R_drewN | apply Kd.R_drew)); exact HO_3.out) hb); have n1_ := Aside0.mk (blk_below (g := gb344) (o := .cells #[.bool a0_0, .slice A0_1 l0_1.length c0_1, .slice (some ad345) l0_2.length c0_2] 26 (0, 0)) (by (with_reducible repeat (first | refine blk_drewN ?_ _ | refine blk_drew ?_ | refine blk_alloc ?_ _)); exact BK344.out) hb); have n2_ := Aside0.mk (blk_below (g := gb346) (o := .cells #[.int .i64 ((rd_T29 l0_2 x4_1).f0), .int .i64 ((rd_T29 l0_2 x4_1).f1), .int .i64 ((rd_T29 l0_2 x4_1).f2)] 29 (0, 0)) (by (with_reducible repeat (first | refine blk_drewN ?_ _ | refine blk_drew ?_ | refine blk_alloc ?_ _)); exact BK346.out) hb); have n3_ := Aside0.mk (below_step (by repeat (first | (with_reducible first | exact HB.out | apply below_alloc | apply pw_below_drewN | apply below_drew1 | refine below_set ?_ GE344.out | refine below_set ?_ GE346.out) | exact HB.out)) hb); have n4_ := Aside0.mk (hbox); have n5_ := Aside0.mk ((by rw [hg]; exact (below_size (by repeat (first | (with_reducible first | exact HB.out | apply below_alloc | apply pw_below_drewN | apply below_drew1 | refine below_set ?_ GE344.out | refine below_set ?_ GE346.out) | exact HB.out))) : w.heap.size ≤ gb348)); have n6_ := Aside0.mk ((by rw [hg]; exact (below_size (by repeat (first | (with_reducible first | exact HB.out | apply below_alloc | apply pw_below_drewN | apply below_drew1 | refine below_set ?_ GE344.out | refine below_set ?_ GE346.out) | exact HB.out))) : w.heap.size ≤ gb348)); have n7_ := Aside0.mk ((by rw [hg]; exact Nat.ne_of_lt (blk_lt (g := gb344) (o := .cells #[.bool a0_0, .slice A0_1 l0_1.length c0_1, .slice (some ad345) l0_2.length c0_2] 26 (0, 0)) (by (with_reducible repeat (first | refine blk_drewN ?_ _ | refine blk_drew ?_ | refine blk_alloc ?_ _)); exact BK344.out)) : gb344 ≠ gb348)); have n8_ := Aside0.mk ((by rw [hg]; exact Nat.ne_of_gt (blk_lt (g := gb344) (o := .cells #[.bool a0_0, .slice A0_1 l0_1.length c0_1, .slice (some ad345) l0_2.length c0_2] 26 (0, 0)) (by (with_reducible repeat (first | refine blk_drewN ?_ _ | refine blk_drew ?_ | refine blk_alloc ?_ _)); exact BK344.out)) : gb348 ≠ gb344)); have n9_ := Aside0.mk ((by rw [hg]; exact Nat.ne_of_lt (blk_lt (g := gb346) (o := .cells #[.int .i64 ((rd_T29 l0_2 x4_1).f0), .int .i64 ((rd_T29 l0_2 x4_1).f1), .int .i64 ((rd_T29 l0_2 x4_1).f2)] 29 (0, 0)) (by (with_reducible repeat (first | refine blk_drewN ?_ _ | refine blk_drew ?_ | refine blk_alloc ?_ _)); exact BK346.out)) : gb346 ≠ gb348)); have n10_ := Aside0.mk ((by rw [hg]; exact Nat.ne_of_gt (blk_lt (g := gb346) (o := .cells #[.int .i64 ((rd_T29 l0_2 x4_1).f0), .int .i64 ((rd_T29 l0_2 x4_1).f1), .int .i64 ((rd_T29 l0_2 x4_1).f2)] 29 (0, 0)) (by (with_reducible repeat (first | refine blk_drewN ?_ _ | refine blk_drew ?_ | refine blk_alloc ?_ _)); exact BK346.out)) : gb348 ≠ gb346)); clear HO_3; clear BK344; clear BK346; clear HB; have HO_3 := n0_; have BK344 := n1_; have BK346 := n2_; have HB := n3_; have BK348 := n4_; have GW348 := n5_; have GE348 := n6_; have NB344_348 := n7_; have NB348_344 := n8_; have NB346_348 := n9_; have NB348_346 := n10_; clear n0_ n1_ n2_ n3_ n4_ n5_ n6_ n7_ n8_ n9_ n10_; clear hb hbox hg; have hnb16 := NB348_344.out; have hnc16 := NB344_348.out; have hnb17 := NB348_346.out; have hnc17 := NB346_348.out; have hcz18_0 : w15.cell? ⟨gb348, 0, none⟩ = some (.int .i64 0) := (blk_cell BK348.out 0).trans rfl; have hcz18_1 : w15.cell? ⟨gb348, 1, none⟩ = some (.int .i64 0) := (blk_cell BK348.out 1).trans rfl; have hcz18_2 : w15.cell? ⟨gb348, 2, none⟩ = some (.int .i64 0) := (blk_cell BK348.out 2).trans rfl; have hfz18_0 := blk_frozen BK348.out 0; have hfz18_1 := blk_frozen BK348.out 1; have hfz18_2 := blk_frozen BK348.out 2; have hcz19_0 : w15.cell? ⟨gb346, 0, none⟩ = some (.int .i64 ((rd_T29 l0_2 x4_1).f0)) := (blk_cell BK346.out 0).trans rfl; have hcz19_1 : w15.cell? ⟨gb346, 1, none⟩ = some (.int .i64 ((rd_T29 l0_2 x4_1).f1)) := (blk_cell BK346.out 1).trans rfl; have hcz19_2 : w15.cell? ⟨gb346, 2, none⟩ = some (.int .i64 ((rd_T29 l0_2 x4_1).f2)) := (blk_cell BK346.out 2).trans rfl; have hfz19_0 := blk_frozen BK346.out 0; have hfz19_1 := blk_frozen BK346.out 1; have hfz19_2 := blk_frozen BK346.out 2))
           go_roundg k2
           case measure => have := HK1.out; have := HK2.out; omega
           case rel => exact ⟨(false), (wrap64 (x7_2 + 1)), (by first | rfl | (simp; done) | (simp [*]; done)), (by first | rfl | (simp; done) | (simp [*]; done)), H', ⟨by have := HK1.out; have := HK2.out; omega⟩, ⟨by (with_reducible repeat (first | apply Kd.R_alloc | apply Kd.R_drewN | apply Kd.R_drew)); exact Kd.R_mono (Kd.R_far (p := ⟨gb348, 2, none⟩) (Kd.R_far (p := ⟨gb348, 1, none⟩) (Kd.R_far (p := ⟨gb348, 0, none⟩) (Kd.R_types HO_3.out BK348.out (by decide)) (fun _ hk => hk.2) (.int .i64 ((rd_T29 l0_2 x7_2).f0))) (fun _ hk => hk.2) (.int .i64 ((rd_T29 l0_2 x7_2).f1))) (fun _ hk => hk.2) (.int .i64 ((rd_T29 l0_2 x7_2).f2))) (fun _ hk => trivial)⟩, ⟨by (with_reducible repeat (first | refine blk_drewN ?_ _ | refine blk_drew ?_ | refine blk_alloc ?_ _)); refine blk_far ?_ NB344_348.out _; (with_reducible repeat (first | refine blk_drewN ?_ _ | refine blk_drew ?_ | refine blk_alloc ?_ _)); refine blk_far ?_ NB344_348.out _; (with_reducible repeat (first | refine blk_drewN ?_ _ | refine blk_drew ?_ | refine blk_alloc ?_ _)); refine blk_far ?_ NB344_348.out _; (with_reducible repeat (first | refine blk_drewN ?_ _ | refine blk_drew ?_ | refine blk_alloc ?_ _)); exact BK344.out⟩, ⟨by (with_reducible repeat (first | refine blk_drewN ?_ _ | refine blk_drew ?_ | refine blk_alloc ?_ _)); refine blk_far ?_ NB346_348.out _; (with_reducible repeat (first | refine blk_drewN ?_ _ | refine blk_drew ?_ | refine blk_alloc ?_ _)); refine blk_far ?_ NB346_348.out _; (with_reducible repeat (first | refine blk_drewN ?_ _ | refine blk_drew ?_ | refine blk_alloc ?_ _)); refine blk_far ?_ NB346_348.out _; (with_reducible repeat (first | refine blk_drewN ?_ _ | refine blk_drew ?_ | refine blk_alloc ?_ _)); exact BK346.out⟩, ⟨by repeat (first | (with_reducible first | exact HB.out | apply below_alloc | apply pw_below_drewN | apply below_drew1 | refine below_set ?_ GE344.out | refine below_set ?_ GE346.out | refine below_set ?_ GE348.out) | exact HB.out)⟩⟩
          ·rw [if_neg c12] at H
           have c12b0 : (((rd_T29 l0_2 x7_2).f1) == ((rd_T29 l0_2 x4_1).f1)) = false := beq_eq_false_iff_ne.mpr c12
           have c12b1 : (((rd_T29 l0_2 x7_2).f1) != ((rd_T29 l0_2 x4_1).f1)) = true := bne_iff_ne.mpr c12
           by_cases c20 : a0_0 = true
           ·subst c20
            have H1 : (laws_hops.l1 k2 x3_1 x4_1 x6_2 (wrap64 (x7_2 + 1)) true l0_1 l0_2 ((rd_T29 l0_2 x4_1).f0) ((rd_T29 l0_2 x4_1).f1) ((rd_T29 l0_2 x4_1).f2)) = some r := by rw [if_pos rfl] at H; exact H
            clear H
            have H := H1
            clear H1
            have H' := Aside0.mk H
            clear H
            have hnb21 := NB344_346.out
            have hnc21 := NB346_344.out
            have hcz22_0 : wr.cell? ⟨gb344, 0, none⟩ = some (.bool true) := (blk_cell BK344.out 0).trans rfl
            have hcz22_1 : wr.cell? ⟨gb344, 1, none⟩ = some (.slice A0_1 l0_1.length c0_1) := (blk_cell BK344.out 1).trans rfl
            have hcz22_2 : wr.cell? ⟨gb344, 2, none⟩ = some (.slice (some ad345) l0_2.length c0_2) := (blk_cell BK344.out 2).trans rfl
            have hfz22_0 := blk_frozen BK344.out 0
            have hfz22_1 := blk_frozen BK344.out 1
            have hfz22_2 := blk_frozen BK344.out 2
            have p347 : 0 ≤ (x7_2 : Int) := of_decide_eq_true (by first | (with_reducible assumption) | assumption)
            have q347 : x7_2 < (l0_2.length : Int) := of_decide_eq_true (by first | (with_reducible assumption) | assumption)
            obtain ⟨ad347, e347, hx347_0, hx347_1, hx347_2⟩ := at_T29 HR0_2.out x7_2 p347 q347
            obtain rfl : ad345 = ad347 := (by injection e347)
            replace hx347_0 := (HB.out.cell (World.block_lt_of_cell? w _ hx347_0)).trans hx347_0
            replace hx347_1 := (HB.out.cell (World.block_lt_of_cell? w _ hx347_1)).trans hx347_1
            replace hx347_2 := (HB.out.cell (World.block_lt_of_cell? w _ hx347_2)).trans hx347_2
            replace p347 := eq_true p347
            replace q347 := eq_true q347
            go_wp2_with (first | ((with_reducible refine gate_dst (N := 8) rfl ?_); refine box_event ?hg (N := 8) ?hd (cs := #[.int .i64 0, .int .i64 0, .int .i64 0]) (t := 29) ?hr ?_; (case hd => rfl); (case hg => rfl); (case hr => first | (go_simp; done) | (go_simp; rfl)); intro gb348 hg w23 hbox hb; have n0_ := Aside0.mk (Kd.R_below (by (with_reducible repeat (first | apply Kd.R_alloc | apply Kd.R_drewN | apply Kd.R_drew)); exact HO_3.out) hb); have n1_ := Aside0.mk (blk_below (g := gb344) (o := .cells #[.bool true, .slice A0_1 l0_1.length c0_1, .slice (some ad345) l0_2.length c0_2] 26 (0, 0)) (by (with_reducible repeat (first | refine blk_drewN ?_ _ | refine blk_drew ?_ | refine blk_alloc ?_ _)); exact BK344.out) hb); have n2_ := Aside0.mk (blk_below (g := gb346) (o := .cells #[.int .i64 ((rd_T29 l0_2 x4_1).f0), .int .i64 ((rd_T29 l0_2 x4_1).f1), .int .i64 ((rd_T29 l0_2 x4_1).f2)] 29 (0, 0)) (by (with_reducible repeat (first | refine blk_drewN ?_ _ | refine blk_drew ?_ | refine blk_alloc ?_ _)); exact BK346.out) hb); have n3_ := Aside0.mk (below_step (by repeat (first | (with_reducible first | exact HB.out | apply below_alloc | apply pw_below_drewN | apply below_drew1 | refine below_set ?_ GE344.out | refine below_set ?_ GE346.out) | exact HB.out)) hb); have n4_ := Aside0.mk (hbox); have n5_ := Aside0.mk ((by rw [hg]; exact (below_size (by repeat (first | (with_reducible first | exact HB.out | apply below_alloc | apply pw_below_drewN | apply below_drew1 | refine below_set ?_ GE344.out | refine below_set ?_ GE346.out) | exact HB.out))) : w.heap.size ≤ gb348)); have n6_ := Aside0.mk ((by rw [hg]; exact (below_size (by repeat (first | (with_reducible first | exact HB.out | apply below_alloc | apply pw_below_drewN | apply below_drew1 | refine below_set ?_ GE344.out | refine below_set ?_ GE346.out) | exact HB.out))) : w.heap.size ≤ gb348)); have n7_ := Aside0.mk ((by rw [hg]; exact Nat.ne_of_lt (blk_lt (g := gb344) (o := .cells #[.bool true, .slice A0_1 l0_1.length c0_1, .slice (some ad345) l0_2.length c0_2] 26 (0, 0)) (by (with_reducible repeat (first | refine blk_drewN ?_ _ | refine blk_drew ?_ | refine blk_alloc ?_ _)); exact BK344.out)) : gb344 ≠ gb348)); have n8_ := Aside0.mk ((by rw [hg]; exact Nat.ne_of_gt (blk_lt (g := gb344) (o := .cells #[.bool true, .slice A0_1 l0_1.length c0_1, .slice (some ad345) l0_2.length c0_2] 26 (0, 0)) (by (with_reducible repeat (first | refine blk_drewN ?_ _ | refine blk_drew ?_ | refine blk_alloc ?_ _)); exact BK344.out)) : gb348 ≠ gb344)); have n9_ := Aside0.mk ((by rw [hg]; exact Nat.ne_of_lt (blk_lt (g := gb346) (o := .cells #[.int .i64 ((rd_T29 l0_2 x4_1).f0), .int .i64 ((rd_T29 l0_2 x4_1).f1), .int .i64 ((rd_T29 l0_2 x4_1).f2)] 29 (0, 0)) (by (with_reducible repeat (first | refine blk_drewN ?_ _ | refine blk_drew ?_ | refine blk_alloc ?_ _)); exact BK346.out)) : gb346 ≠ gb348)); have n10_ := Aside0.mk ((by rw [hg]; exact Nat.ne_of_gt (blk_lt (g := gb346) (o := .cells #[.int .i64 ((rd_T29 l0_2 x4_1).f0), .int .i64 ((rd_T29 l0_2 x4_1).f1), .int .i64 ((rd_T29 l0_2 x4_1).f2)] 29 (0, 0)) (by (with_reducible repeat (first | refine blk_drewN ?_ _ | refine blk_drew ?_ | refine blk_alloc ?_ _)); exact BK346.out)) : gb348 ≠ gb346)); clear HO_3; clear BK344; clear BK346; clear HB; have HO_3 := n0_; have BK344 := n1_; have BK346 := n2_; have HB := n3_; have BK348 := n4_; have GW348 := n5_; have GE348 := n6_; have NB344_348 := n7_; have NB348_344 := n8_; have NB346_348 := n9_; have NB348_346 := n10_; clear n0_ n1_ n2_ n3_ n4_ n5_ n6_ n7_ n8_ n9_ n10_; clear hb hbox hg; have hnb24 := NB348_344.out; have hnc24 := NB344_348.out; have hnb25 := NB348_346.out; have hnc25 := NB346_348.out; have hcz26_0 : w23.cell? ⟨gb348, 0, none⟩ = some (.int .i64 0) := (blk_cell BK348.out 0).trans rfl; have hcz26_1 : w23.cell? ⟨gb348, 1, none⟩ = some (.int .i64 0) := (blk_cell BK348.out 1).trans rfl; have hcz26_2 : w23.cell? ⟨gb348, 2, none⟩ = some (.int .i64 0) := (blk_cell BK348.out 2).trans rfl; have hfz26_0 := blk_frozen BK348.out 0; have hfz26_1 := blk_frozen BK348.out 1; have hfz26_2 := blk_frozen BK348.out 2; have hcz27_0 : w23.cell? ⟨gb346, 0, none⟩ = some (.int .i64 ((rd_T29 l0_2 x4_1).f0)) := (blk_cell BK346.out 0).trans rfl; have hcz27_1 : w23.cell? ⟨gb346, 1, none⟩ = some (.int .i64 ((rd_T29 l0_2 x4_1).f1)) := (blk_cell BK346.out 1).trans rfl; have hcz27_2 : w23.cell? ⟨gb346, 2, none⟩ = some (.int .i64 ((rd_T29 l0_2 x4_1).f2)) := (blk_cell BK346.out 2).trans rfl; have hfz27_0 := blk_frozen BK346.out 0; have hfz27_1 := blk_frozen BK346.out 1; have hfz27_2 := blk_frozen BK346.out 2; have hcz28_0 : w23.cell? ⟨gb344, 0, none⟩ = some (.bool true) := (blk_cell BK344.out 0).trans rfl; have hcz28_1 : w23.cell? ⟨gb344, 1, none⟩ = some (.slice A0_1 l0_1.length c0_1) := (blk_cell BK344.out 1).trans rfl; have hcz28_2 : w23.cell? ⟨gb344, 2, none⟩ = some (.slice (some ad345) l0_2.length c0_2) := (blk_cell BK344.out 2).trans rfl; have hfz28_0 := blk_frozen BK344.out 0; have hfz28_1 := blk_frozen BK344.out 1; have hfz28_2 := blk_frozen BK344.out 2))
            go_roundg k2
            case measure => have := HK1.out; have := HK2.out; omega
            case rel => exact ⟨(x6_2), (wrap64 (x7_2 + 1)), (by first | rfl | (simp; done) | (simp [*]; done)), (by first | rfl | (simp; done) | (simp [*]; done)), H', ⟨by have := HK1.out; have := HK2.out; omega⟩, ⟨by (with_reducible repeat (first | apply Kd.R_alloc | apply Kd.R_drewN | apply Kd.R_drew)); exact Kd.R_mono (Kd.R_far (p := ⟨gb348, 2, none⟩) (Kd.R_far (p := ⟨gb348, 1, none⟩) (Kd.R_far (p := ⟨gb348, 0, none⟩) (Kd.R_types HO_3.out BK348.out (by decide)) (fun _ hk => hk.2) (.int .i64 ((rd_T29 l0_2 x7_2).f0))) (fun _ hk => hk.2) (.int .i64 ((rd_T29 l0_2 x7_2).f1))) (fun _ hk => hk.2) (.int .i64 ((rd_T29 l0_2 x7_2).f2))) (fun _ hk => trivial)⟩, ⟨by (with_reducible repeat (first | refine blk_drewN ?_ _ | refine blk_drew ?_ | refine blk_alloc ?_ _)); refine blk_far ?_ NB344_348.out _; (with_reducible repeat (first | refine blk_drewN ?_ _ | refine blk_drew ?_ | refine blk_alloc ?_ _)); refine blk_far ?_ NB344_348.out _; (with_reducible repeat (first | refine blk_drewN ?_ _ | refine blk_drew ?_ | refine blk_alloc ?_ _)); refine blk_far ?_ NB344_348.out _; (with_reducible repeat (first | refine blk_drewN ?_ _ | refine blk_drew ?_ | refine blk_alloc ?_ _)); exact BK344.out⟩, ⟨by (with_reducible repeat (first | refine blk_drewN ?_ _ | refine blk_drew ?_ | refine blk_alloc ?_ _)); refine blk_far ?_ NB346_348.out _; (with_reducible repeat (first | refine blk_drewN ?_ _ | refine blk_drew ?_ | refine blk_alloc ?_ _)); refine blk_far ?_ NB346_348.out _; (with_reducible repeat (first | refine blk_drewN ?_ _ | refine blk_drew ?_ | refine blk_alloc ?_ _)); refine blk_far ?_ NB346_348.out _; (with_reducible repeat (first | refine blk_drewN ?_ _ | refine blk_drew ?_ | refine blk_alloc ?_ _)); exact BK346.out⟩, ⟨by repeat (first | (with_reducible first | exact HB.out | apply below_alloc | apply pw_below_drewN | apply below_drew1 | refine below_set ?_ GE344.out | refine below_set ?_ GE346.out | refine below_set ?_ GE348.out) | exact HB.out)⟩⟩
           ·replace c20 := Bool.eq_false_iff.mpr c20
            subst c20
            have H1 : (if ((rd_T29 l0_2 x7_2).f0) = ((rd_T29 l0_2 x4_1).f1) then (if ((rd_T29 l0_2 x7_2).f1) = ((rd_T29 l0_2 x4_1).f0) then (laws_hops.l1 k2 x3_1 x4_1 false (wrap64 (x7_2 + 1)) false l0_1 l0_2 ((rd_T29 l0_2 x4_1).f0) ((rd_T29 l0_2 x4_1).f1) ((rd_T29 l0_2 x4_1).f2)) else (laws_hops.l1 k2 x3_1 x4_1 x6_2 (wrap64 (x7_2 + 1)) false l0_1 l0_2 ((rd_T29 l0_2 x4_1).f0) ((rd_T29 l0_2 x4_1).f1) ((rd_T29 l0_2 x4_1).f2))) else (laws_hops.l1 k2 x3_1 x4_1 x6_2 (wrap64 (x7_2 + 1)) false l0_1 l0_2 ((rd_T29 l0_2 x4_1).f0) ((rd_T29 l0_2 x4_1).f1) ((rd_T29 l0_2 x4_1).f2))) = some r := by rw [if_neg (show ¬ (false = true) by decide)] at H; exact H
            clear H
            have H := H1
            clear H1
            by_cases c29 : ((rd_T29 l0_2 x7_2).f0) = ((rd_T29 l0_2 x4_1).f1)
            ·rw [if_pos c29] at H
             have c29b0 : (((rd_T29 l0_2 x7_2).f0) == ((rd_T29 l0_2 x4_1).f1)) = true := beq_iff_eq.mpr c29
             have c29b1 : (((rd_T29 l0_2 x7_2).f0) != ((rd_T29 l0_2 x4_1).f1)) = false := bne_eq_false_iff_eq.mpr c29
             clear c29
             by_cases c30 : ((rd_T29 l0_2 x7_2).f1) = ((rd_T29 l0_2 x4_1).f0)
             ·rw [if_pos c30] at H
              have c30b0 : (((rd_T29 l0_2 x7_2).f1) == ((rd_T29 l0_2 x4_1).f0)) = true := beq_iff_eq.mpr c30
              have c30b1 : (((rd_T29 l0_2 x7_2).f1) != ((rd_T29 l0_2 x4_1).f0)) = false := bne_eq_false_iff_eq.mpr c30
              clear c30
              have H' := Aside0.mk H
              clear H
              have hnb31 := NB344_346.out
              have hnc31 := NB346_344.out
              have hcz32_0 : wr.cell? ⟨gb344, 0, none⟩ = some (.bool false) := (blk_cell BK344.out 0).trans rfl
              have hcz32_1 : wr.cell? ⟨gb344, 1, none⟩ = some (.slice A0_1 l0_1.length c0_1) := (blk_cell BK344.out 1).trans rfl
              have hcz32_2 : wr.cell? ⟨gb344, 2, none⟩ = some (.slice (some ad345) l0_2.length c0_2) := (blk_cell BK344.out 2).trans rfl
              have hfz32_0 := blk_frozen BK344.out 0
              have hfz32_1 := blk_frozen BK344.out 1
              have hfz32_2 := blk_frozen BK344.out 2
              have p347 : 0 ≤ (x7_2 : Int) := of_decide_eq_true (by first | (with_reducible assumption) | assumption)
              have q347 : x7_2 < (l0_2.length : Int) := of_decide_eq_true (by first | (with_reducible assumption) | assumption)
              obtain ⟨ad347, e347, hx347_0, hx347_1, hx347_2⟩ := at_T29 HR0_2.out x7_2 p347 q347
              obtain rfl : ad345 = ad347 := (by injection e347)
              replace hx347_0 := (HB.out.cell (World.block_lt_of_cell? w _ hx347_0)).trans hx347_0
              replace hx347_1 := (HB.out.cell (World.block_lt_of_cell? w _ hx347_1)).trans hx347_1
              replace hx347_2 := (HB.out.cell (World.block_lt_of_cell? w _ hx347_2)).trans hx347_2
              replace p347 := eq_true p347
              replace q347 := eq_true q347
              go_wp2_with (first | ((with_reducible refine gate_dst (N := 8) rfl ?_); refine box_event ?hg (N := 8) ?hd (cs := #[.int .i64 0, .int .i64 0, .int .i64 0]) (t := 29) ?hr ?_; (case hd => rfl); (case hg => rfl); (case hr => first | (go_simp; done) | (go_simp; rfl)); intro gb348 hg w33 hbox hb; have n0_ := Aside0.mk (Kd.R_below (by (with_reducible repeat (first | apply Kd.R_alloc | apply Kd.R_drewN | apply Kd.R_drew)); exact HO_3.out) hb); have n1_ := Aside0.mk (blk_below (g := gb344) (o := .cells #[.bool false, .slice A0_1 l0_1.length c0_1, .slice (some ad345) l0_2.length c0_2] 26 (0, 0)) (by (with_reducible repeat (first | refine blk_drewN ?_ _ | refine blk_drew ?_ | refine blk_alloc ?_ _)); exact BK344.out) hb); have n2_ := Aside0.mk (blk_below (g := gb346) (o := .cells #[.int .i64 ((rd_T29 l0_2 x4_1).f0), .int .i64 ((rd_T29 l0_2 x4_1).f1), .int .i64 ((rd_T29 l0_2 x4_1).f2)] 29 (0, 0)) (by (with_reducible repeat (first | refine blk_drewN ?_ _ | refine blk_drew ?_ | refine blk_alloc ?_ _)); exact BK346.out) hb); have n3_ := Aside0.mk (below_step (by repeat (first | (with_reducible first | exact HB.out | apply below_alloc | apply pw_below_drewN | apply below_drew1 | refine below_set ?_ GE344.out | refine below_set ?_ GE346.out) | exact HB.out)) hb); have n4_ := Aside0.mk (hbox); have n5_ := Aside0.mk ((by rw [hg]; exact (below_size (by repeat (first | (with_reducible first | exact HB.out | apply below_alloc | apply pw_below_drewN | apply below_drew1 | refine below_set ?_ GE344.out | refine below_set ?_ GE346.out) | exact HB.out))) : w.heap.size ≤ gb348)); have n6_ := Aside0.mk ((by rw [hg]; exact (below_size (by repeat (first | (with_reducible first | exact HB.out | apply below_alloc | apply pw_below_drewN | apply below_drew1 | refine below_set ?_ GE344.out | refine below_set ?_ GE346.out) | exact HB.out))) : w.heap.size ≤ gb348)); have n7_ := Aside0.mk ((by rw [hg]; exact Nat.ne_of_lt (blk_lt (g := gb344) (o := .cells #[.bool false, .slice A0_1 l0_1.length c0_1, .slice (some ad345) l0_2.length c0_2] 26 (0, 0)) (by (with_reducible repeat (first | refine blk_drewN ?_ _ | refine blk_drew ?_ | refine blk_alloc ?_ _)); exact BK344.out)) : gb344 ≠ gb348)); have n8_ := Aside0.mk ((by rw [hg]; exact Nat.ne_of_gt (blk_lt (g := gb344) (o := .cells #[.bool false, .slice A0_1 l0_1.length c0_1, .slice (some ad345) l0_2.length c0_2] 26 (0, 0)) (by (with_reducible repeat (first | refine blk_drewN ?_ _ | refine blk_drew ?_ | refine blk_alloc ?_ _)); exact BK344.out)) : gb348 ≠ gb344)); have n9_ := Aside0.mk ((by rw [hg]; exact Nat.ne_of_lt (blk_lt (g := gb346) (o := .cells #[.int .i64 ((rd_T29 l0_2 x4_1).f0), .int .i64 ((rd_T29 l0_2 x4_1).f1), .int .i64 ((rd_T29 l0_2 x4_1).f2)] 29 (0, 0)) (by (with_reducible repeat (first | refine blk_drewN ?_ _ | refine blk_drew ?_ | refine blk_alloc ?_ _)); exact BK346.out)) : gb346 ≠ gb348)); have n10_ := Aside0.mk ((by rw [hg]; exact Nat.ne_of_gt (blk_lt (g := gb346) (o := .cells #[.int .i64 ((rd_T29 l0_2 x4_1).f0), .int .i64 ((rd_T29 l0_2 x4_1).f1), .int .i64 ((rd_T29 l0_2 x4_1).f2)] 29 (0, 0)) (by (with_reducible repeat (first | refine blk_drewN ?_ _ | refine blk_drew ?_ | refine blk_alloc ?_ _)); exact BK346.out)) : gb348 ≠ gb346)); clear HO_3; clear BK344; clear BK346; clear HB; have HO_3 := n0_; have BK344 := n1_; have BK346 := n2_; have HB := n3_; have BK348 := n4_; have GW348 := n5_; have GE348 := n6_; have NB344_348 := n7_; have NB348_344 := n8_; have NB346_348 := n9_; have NB348_346 := n10_; clear n0_ n1_ n2_ n3_ n4_ n5_ n6_ n7_ n8_ n9_ n10_; clear hb hbox hg; have hnb34 := NB348_344.out; have hnc34 := NB344_348.out; have hnb35 := NB348_346.out; have hnc35 := NB346_348.out; have hcz36_0 : w33.cell? ⟨gb348, 0, none⟩ = some (.int .i64 0) := (blk_cell BK348.out 0).trans rfl; have hcz36_1 : w33.cell? ⟨gb348, 1, none⟩ = some (.int .i64 0) := (blk_cell BK348.out 1).trans rfl; have hcz36_2 : w33.cell? ⟨gb348, 2, none⟩ = some (.int .i64 0) := (blk_cell BK348.out 2).trans rfl; have hfz36_0 := blk_frozen BK348.out 0; have hfz36_1 := blk_frozen BK348.out 1; have hfz36_2 := blk_frozen BK348.out 2; have hcz37_0 : w33.cell? ⟨gb346, 0, none⟩ = some (.int .i64 ((rd_T29 l0_2 x4_1).f0)) := (blk_cell BK346.out 0).trans rfl; have hcz37_1 : w33.cell? ⟨gb346, 1, none⟩ = some (.int .i64 ((rd_T29 l0_2 x4_1).f1)) := (blk_cell BK346.out 1).trans rfl; have hcz37_2 : w33.cell? ⟨gb346, 2, none⟩ = some (.int .i64 ((rd_T29 l0_2 x4_1).f2)) := (blk_cell BK346.out 2).trans rfl; have hfz37_0 := blk_frozen BK346.out 0; have hfz37_1 := blk_frozen BK346.out 1; have hfz37_2 := blk_frozen BK346.out 2; have hcz38_0 : w33.cell? ⟨gb344, 0, none⟩ = some (.bool false) := (blk_cell BK344.out 0).trans rfl; have hcz38_1 : w33.cell? ⟨gb344, 1, none⟩ = some (.slice A0_1 l0_1.length c0_1) := (blk_cell BK344.out 1).trans rfl; have hcz38_2 : w33.cell? ⟨gb344, 2, none⟩ = some (.slice (some ad345) l0_2.length c0_2) := (blk_cell BK344.out 2).trans rfl; have hfz38_0 := blk_frozen BK344.out 0; have hfz38_1 := blk_frozen BK344.out 1; have hfz38_2 := blk_frozen BK344.out 2))
              go_roundg k2
              case measure => have := HK1.out; have := HK2.out; omega
              case rel => exact ⟨(false), (wrap64 (x7_2 + 1)), (by first | rfl | (simp; done) | (simp [*]; done)), (by first | rfl | (simp; done) | (simp [*]; done)), H', ⟨by have := HK1.out; have := HK2.out; omega⟩, ⟨by (with_reducible repeat (first | apply Kd.R_alloc | apply Kd.R_drewN | apply Kd.R_drew)); exact Kd.R_mono (Kd.R_far (p := ⟨gb348, 2, none⟩) (Kd.R_far (p := ⟨gb348, 1, none⟩) (Kd.R_far (p := ⟨gb348, 0, none⟩) (Kd.R_types HO_3.out BK348.out (by decide)) (fun _ hk => hk.2) (.int .i64 ((rd_T29 l0_2 x7_2).f0))) (fun _ hk => hk.2) (.int .i64 ((rd_T29 l0_2 x7_2).f1))) (fun _ hk => hk.2) (.int .i64 ((rd_T29 l0_2 x7_2).f2))) (fun _ hk => trivial)⟩, ⟨by (with_reducible repeat (first | refine blk_drewN ?_ _ | refine blk_drew ?_ | refine blk_alloc ?_ _)); refine blk_far ?_ NB344_348.out _; (with_reducible repeat (first | refine blk_drewN ?_ _ | refine blk_drew ?_ | refine blk_alloc ?_ _)); refine blk_far ?_ NB344_348.out _; (with_reducible repeat (first | refine blk_drewN ?_ _ | refine blk_drew ?_ | refine blk_alloc ?_ _)); refine blk_far ?_ NB344_348.out _; (with_reducible repeat (first | refine blk_drewN ?_ _ | refine blk_drew ?_ | refine blk_alloc ?_ _)); exact BK344.out⟩, ⟨by (with_reducible repeat (first | refine blk_drewN ?_ _ | refine blk_drew ?_ | refine blk_alloc ?_ _)); refine blk_far ?_ NB346_348.out _; (with_reducible repeat (first | refine blk_drewN ?_ _ | refine blk_drew ?_ | refine blk_alloc ?_ _)); refine blk_far ?_ NB346_348.out _; (with_reducible repeat (first | refine blk_drewN ?_ _ | refine blk_drew ?_ | refine blk_alloc ?_ _)); refine blk_far ?_ NB346_348.out _; (with_reducible repeat (first | refine blk_drewN ?_ _ | refine blk_drew ?_ | refine blk_alloc ?_ _)); exact BK346.out⟩, ⟨by repeat (first | (with_reducible first | exact HB.out | apply below_alloc | apply pw_below_drewN | apply below_drew1 | refine below_set ?_ GE344.out | refine below_set ?_ GE346.out | refine below_set ?_ GE348.out) | exact HB.out)⟩⟩
             ·rw [if_neg c30] at H
              have c30b0 : (((rd_T29 l0_2 x7_2).f1) == ((rd_T29 l0_2 x4_1).f0)) = false := beq_eq_false_iff_ne.mpr c30
              have c30b1 : (((rd_T29 l0_2 x7_2).f1) != ((rd_T29 l0_2 x4_1).f0)) = true := bne_iff_ne.mpr c30
              have H' := Aside0.mk H
              clear H
              have hnb39 := NB344_346.out
              have hnc39 := NB346_344.out
              have hcz40_0 : wr.cell? ⟨gb344, 0, none⟩ = some (.bool false) := (blk_cell BK344.out 0).trans rfl
              have hcz40_1 : wr.cell? ⟨gb344, 1, none⟩ = some (.slice A0_1 l0_1.length c0_1) := (blk_cell BK344.out 1).trans rfl
              have hcz40_2 : wr.cell? ⟨gb344, 2, none⟩ = some (.slice (some ad345) l0_2.length c0_2) := (blk_cell BK344.out 2).trans rfl
              have hfz40_0 := blk_frozen BK344.out 0
              have hfz40_1 := blk_frozen BK344.out 1
              have hfz40_2 := blk_frozen BK344.out 2
              have p347 : 0 ≤ (x7_2 : Int) := of_decide_eq_true (by first | (with_reducible assumption) | assumption)
              have q347 : x7_2 < (l0_2.length : Int) := of_decide_eq_true (by first | (with_reducible assumption) | assumption)
              obtain ⟨ad347, e347, hx347_0, hx347_1, hx347_2⟩ := at_T29 HR0_2.out x7_2 p347 q347
              obtain rfl : ad345 = ad347 := (by injection e347)
              replace hx347_0 := (HB.out.cell (World.block_lt_of_cell? w _ hx347_0)).trans hx347_0
              replace hx347_1 := (HB.out.cell (World.block_lt_of_cell? w _ hx347_1)).trans hx347_1
              replace hx347_2 := (HB.out.cell (World.block_lt_of_cell? w _ hx347_2)).trans hx347_2
              replace p347 := eq_true p347
              replace q347 := eq_true q347
              go_wp2_with (first | ((with_reducible refine gate_dst (N := 8) rfl ?_); refine box_event ?hg (N := 8) ?hd (cs := #[.int .i64 0, .int .i64 0, .int .i64 0]) (t := 29) ?hr ?_; (case hd => rfl); (case hg => rfl); (case hr => first | (go_simp; done) | (go_simp; rfl)); intro gb348 hg w41 hbox hb; have n0_ := Aside0.mk (Kd.R_below (by (with_reducible repeat (first | apply Kd.R_alloc | apply Kd.R_drewN | apply Kd.R_drew)); exact HO_3.out) hb); have n1_ := Aside0.mk (blk_below (g := gb344) (o := .cells #[.bool false, .slice A0_1 l0_1.length c0_1, .slice (some ad345) l0_2.length c0_2] 26 (0, 0)) (by (with_reducible repeat (first | refine blk_drewN ?_ _ | refine blk_drew ?_ | refine blk_alloc ?_ _)); exact BK344.out) hb); have n2_ := Aside0.mk (blk_below (g := gb346) (o := .cells #[.int .i64 ((rd_T29 l0_2 x4_1).f0), .int .i64 ((rd_T29 l0_2 x4_1).f1), .int .i64 ((rd_T29 l0_2 x4_1).f2)] 29 (0, 0)) (by (with_reducible repeat (first | refine blk_drewN ?_ _ | refine blk_drew ?_ | refine blk_alloc ?_ _)); exact BK346.out) hb); have n3_ := Aside0.mk (below_step (by repeat (first | (with_reducible first | exact HB.out | apply below_alloc | apply pw_below_drewN | apply below_drew1 | refine below_set ?_ GE344.out | refine below_set ?_ GE346.out) | exact HB.out)) hb); have n4_ := Aside0.mk (hbox); have n5_ := Aside0.mk ((by rw [hg]; exact (below_size (by repeat (first | (with_reducible first | exact HB.out | apply below_alloc | apply pw_below_drewN | apply below_drew1 | refine below_set ?_ GE344.out | refine below_set ?_ GE346.out) | exact HB.out))) : w.heap.size ≤ gb348)); have n6_ := Aside0.mk ((by rw [hg]; exact (below_size (by repeat (first | (with_reducible first | exact HB.out | apply below_alloc | apply pw_below_drewN | apply below_drew1 | refine below_set ?_ GE344.out | refine below_set ?_ GE346.out) | exact HB.out))) : w.heap.size ≤ gb348)); have n7_ := Aside0.mk ((by rw [hg]; exact Nat.ne_of_lt (blk_lt (g := gb344) (o := .cells #[.bool false, .slice A0_1 l0_1.length c0_1, .slice (some ad345) l0_2.length c0_2] 26 (0, 0)) (by (with_reducible repeat (first | refine blk_drewN ?_ _ | refine blk_drew ?_ | refine blk_alloc ?_ _)); exact BK344.out)) : gb344 ≠ gb348)); have n8_ := Aside0.mk ((by rw [hg]; exact Nat.ne_of_gt (blk_lt (g := gb344) (o := .cells #[.bool false, .slice A0_1 l0_1.length c0_1, .slice (some ad345) l0_2.length c0_2] 26 (0, 0)) (by (with_reducible repeat (first | refine blk_drewN ?_ _ | refine blk_drew ?_ | refine blk_alloc ?_ _)); exact BK344.out)) : gb348 ≠ gb344)); have n9_ := Aside0.mk ((by rw [hg]; exact Nat.ne_of_lt (blk_lt (g := gb346) (o := .cells #[.int .i64 ((rd_T29 l0_2 x4_1).f0), .int .i64 ((rd_T29 l0_2 x4_1).f1), .int .i64 ((rd_T29 l0_2 x4_1).f2)] 29 (0, 0)) (by (with_reducible repeat (first | refine blk_drewN ?_ _ | refine blk_drew ?_ | refine blk_alloc ?_ _)); exact BK346.out)) : gb346 ≠ gb348)); have n10_ := Aside0.mk ((by rw [hg]; exact Nat.ne_of_gt (blk_lt (g := gb346) (o := .cells #[.int .i64 ((rd_T29 l0_2 x4_1).f0), .int .i64 ((rd_T29 l0_2 x4_1).f1), .int .i64 ((rd_T29 l0_2 x4_1).f2)] 29 (0, 0)) (by (with_reducible repeat (first | refine blk_drewN ?_ _ | refine blk_drew ?_ | refine blk_alloc ?_ _)); exact BK346.out)) : gb348 ≠ gb346)); clear HO_3; clear BK344; clear BK346; clear HB; have HO_3 := n0_; have BK344 := n1_; have BK346 := n2_; have HB := n3_; have BK348 := n4_; have GW348 := n5_; have GE348 := n6_; have NB344_348 := n7_; have NB348_344 := n8_; have NB346_348 := n9_; have NB348_346 := n10_; clear n0_ n1_ n2_ n3_ n4_ n5_ n6_ n7_ n8_ n9_ n10_; clear hb hbox hg; have hnb42 := NB348_344.out; have hnc42 := NB344_348.out; have hnb43 := NB348_346.out; have hnc43 := NB346_348.out; have hcz44_0 : w41.cell? ⟨gb348, 0, none⟩ = some (.int .i64 0) := (blk_cell BK348.out 0).trans rfl; have hcz44_1 : w41.cell? ⟨gb348, 1, none⟩ = some (.int .i64 0) := (blk_cell BK348.out 1).trans rfl; have hcz44_2 : w41.cell? ⟨gb348, 2, none⟩ = some (.int .i64 0) := (blk_cell BK348.out 2).trans rfl; have hfz44_0 := blk_frozen BK348.out 0; have hfz44_1 := blk_frozen BK348.out 1; have hfz44_2 := blk_frozen BK348.out 2; have hcz45_0 : w41.cell? ⟨gb346, 0, none⟩ = some (.int .i64 ((rd_T29 l0_2 x4_1).f0)) := (blk_cell BK346.out 0).trans rfl; have hcz45_1 : w41.cell? ⟨gb346, 1, none⟩ = some (.int .i64 ((rd_T29 l0_2 x4_1).f1)) := (blk_cell BK346.out 1).trans rfl; have hcz45_2 : w41.cell? ⟨gb346, 2, none⟩ = some (.int .i64 ((rd_T29 l0_2 x4_1).f2)) := (blk_cell BK346.out 2).trans rfl; have hfz45_0 := blk_frozen BK346.out 0; have hfz45_1 := blk_frozen BK346.out 1; have hfz45_2 := blk_frozen BK346.out 2; have hcz46_0 : w41.cell? ⟨gb344, 0, none⟩ = some (.bool false) := (blk_cell BK344.out 0).trans rfl; have hcz46_1 : w41.cell? ⟨gb344, 1, none⟩ = some (.slice A0_1 l0_1.length c0_1) := (blk_cell BK344.out 1).trans rfl; have hcz46_2 : w41.cell? ⟨gb344, 2, none⟩ = some (.slice (some ad345) l0_2.length c0_2) := (blk_cell BK344.out 2).trans rfl; have hfz46_0 := blk_frozen BK344.out 0; have hfz46_1 := blk_frozen BK344.out 1; have hfz46_2 := blk_frozen BK344.out 2))
              go_roundg k2
              case measure => have := HK1.out; have := HK2.out; omega
              case rel => exact ⟨(x6_2), (wrap64 (x7_2 + 1)), (by first | rfl | (simp; done) | (simp [*]; done)), (by first | rfl | (simp; done) | (simp [*]; done)), H', ⟨by have := HK1.out; have := HK2.out; omega⟩, ⟨by (with_reducible repeat (first | apply Kd.R_alloc | apply Kd.R_drewN | apply Kd.R_drew)); exact Kd.R_mono (Kd.R_far (p := ⟨gb348, 2, none⟩) (Kd.R_far (p := ⟨gb348, 1, none⟩) (Kd.R_far (p := ⟨gb348, 0, none⟩) (Kd.R_types HO_3.out BK348.out (by decide)) (fun _ hk => hk.2) (.int .i64 ((rd_T29 l0_2 x7_2).f0))) (fun _ hk => hk.2) (.int .i64 ((rd_T29 l0_2 x7_2).f1))) (fun _ hk => hk.2) (.int .i64 ((rd_T29 l0_2 x7_2).f2))) (fun _ hk => trivial)⟩, ⟨by (with_reducible repeat (first | refine blk_drewN ?_ _ | refine blk_drew ?_ | refine blk_alloc ?_ _)); refine blk_far ?_ NB344_348.out _; (with_reducible repeat (first | refine blk_drewN ?_ _ | refine blk_drew ?_ | refine blk_alloc ?_ _)); refine blk_far ?_ NB344_348.out _; (with_reducible repeat (first | refine blk_drewN ?_ _ | refine blk_drew ?_ | refine blk_alloc ?_ _)); refine blk_far ?_ NB344_348.out _; (with_reducible repeat (first | refine blk_drewN ?_ _ | refine blk_drew ?_ | refine blk_alloc ?_ _)); exact BK344.out⟩, ⟨by (with_reducible repeat (first | refine blk_drewN ?_ _ | refine blk_drew ?_ | refine blk_alloc ?_ _)); refine blk_far ?_ NB346_348.out _; (with_reducible repeat (first | refine blk_drewN ?_ _ | refine blk_drew ?_ | refine blk_alloc ?_ _)); refine blk_far ?_ NB346_348.out _; (with_reducible repeat (first | refine blk_drewN ?_ _ | refine blk_drew ?_ | refine blk_alloc ?_ _)); refine blk_far ?_ NB346_348.out _; (with_reducible repeat (first | refine blk_drewN ?_ _ | refine blk_drew ?_ | refine blk_alloc ?_ _)); exact BK346.out⟩, ⟨by repeat (first | (with_reducible first | exact HB.out | apply below_alloc | apply pw_below_drewN | apply below_drew1 | refine below_set ?_ GE344.out | refine below_set ?_ GE346.out | refine below_set ?_ GE348.out) | exact HB.out)⟩⟩
            ·rw [if_neg c29] at H
             have c29b0 : (((rd_T29 l0_2 x7_2).f0) == ((rd_T29 l0_2 x4_1).f1)) = false := beq_eq_false_iff_ne.mpr c29
             have c29b1 : (((rd_T29 l0_2 x7_2).f0) != ((rd_T29 l0_2 x4_1).f1)) = true := bne_iff_ne.mpr c29
             have H' := Aside0.mk H
             clear H
             have hnb47 := NB344_346.out
             have hnc47 := NB346_344.out
             have hcz48_0 : wr.cell? ⟨gb344, 0, none⟩ = some (.bool false) := (blk_cell BK344.out 0).trans rfl
             have hcz48_1 : wr.cell? ⟨gb344, 1, none⟩ = some (.slice A0_1 l0_1.length c0_1) := (blk_cell BK344.out 1).trans rfl
             have hcz48_2 : wr.cell? ⟨gb344, 2, none⟩ = some (.slice (some ad345) l0_2.length c0_2) := (blk_cell BK344.out 2).trans rfl
             have hfz48_0 := blk_frozen BK344.out 0
             have hfz48_1 := blk_frozen BK344.out 1
             have hfz48_2 := blk_frozen BK344.out 2
             have p347 : 0 ≤ (x7_2 : Int) := of_decide_eq_true (by first | (with_reducible assumption) | assumption)
             have q347 : x7_2 < (l0_2.length : Int) := of_decide_eq_true (by first | (with_reducible assumption) | assumption)
             obtain ⟨ad347, e347, hx347_0, hx347_1, hx347_2⟩ := at_T29 HR0_2.out x7_2 p347 q347
             obtain rfl : ad345 = ad347 := (by injection e347)
             replace hx347_0 := (HB.out.cell (World.block_lt_of_cell? w _ hx347_0)).trans hx347_0
             replace hx347_1 := (HB.out.cell (World.block_lt_of_cell? w _ hx347_1)).trans hx347_1
             replace hx347_2 := (HB.out.cell (World.block_lt_of_cell? w _ hx347_2)).trans hx347_2
             replace p347 := eq_true p347
             replace q347 := eq_true q347
             go_wp2_with (first | ((with_reducible refine gate_dst (N := 8) rfl ?_); refine box_event ?hg (N := 8) ?hd (cs := #[.int .i64 0, .int .i64 0, .int .i64 0]) (t := 29) ?hr ?_; (case hd => rfl); (case hg => rfl); (case hr => first | (go_simp; done) | (go_simp; rfl)); intro gb348 hg w49 hbox hb; have n0_ := Aside0.mk (Kd.R_below (by (with_reducible repeat (first | apply Kd.R_alloc | apply Kd.R_drewN | apply Kd.R_drew)); exact HO_3.out) hb); have n1_ := Aside0.mk (blk_below (g := gb344) (o := .cells #[.bool false, .slice A0_1 l0_1.length c0_1, .slice (some ad345) l0_2.length c0_2] 26 (0, 0)) (by (with_reducible repeat (first | refine blk_drewN ?_ _ | refine blk_drew ?_ | refine blk_alloc ?_ _)); exact BK344.out) hb); have n2_ := Aside0.mk (blk_below (g := gb346) (o := .cells #[.int .i64 ((rd_T29 l0_2 x4_1).f0), .int .i64 ((rd_T29 l0_2 x4_1).f1), .int .i64 ((rd_T29 l0_2 x4_1).f2)] 29 (0, 0)) (by (with_reducible repeat (first | refine blk_drewN ?_ _ | refine blk_drew ?_ | refine blk_alloc ?_ _)); exact BK346.out) hb); have n3_ := Aside0.mk (below_step (by repeat (first | (with_reducible first | exact HB.out | apply below_alloc | apply pw_below_drewN | apply below_drew1 | refine below_set ?_ GE344.out | refine below_set ?_ GE346.out) | exact HB.out)) hb); have n4_ := Aside0.mk (hbox); have n5_ := Aside0.mk ((by rw [hg]; exact (below_size (by repeat (first | (with_reducible first | exact HB.out | apply below_alloc | apply pw_below_drewN | apply below_drew1 | refine below_set ?_ GE344.out | refine below_set ?_ GE346.out) | exact HB.out))) : w.heap.size ≤ gb348)); have n6_ := Aside0.mk ((by rw [hg]; exact (below_size (by repeat (first | (with_reducible first | exact HB.out | apply below_alloc | apply pw_below_drewN | apply below_drew1 | refine below_set ?_ GE344.out | refine below_set ?_ GE346.out) | exact HB.out))) : w.heap.size ≤ gb348)); have n7_ := Aside0.mk ((by rw [hg]; exact Nat.ne_of_lt (blk_lt (g := gb344) (o := .cells #[.bool false, .slice A0_1 l0_1.length c0_1, .slice (some ad345) l0_2.length c0_2] 26 (0, 0)) (by (with_reducible repeat (first | refine blk_drewN ?_ _ | refine blk_drew ?_ | refine blk_alloc ?_ _)); exact BK344.out)) : gb344 ≠ gb348)); have n8_ := Aside0.mk ((by rw [hg]; exact Nat.ne_of_gt (blk_lt (g := gb344) (o := .cells #[.bool false, .slice A0_1 l0_1.length c0_1, .slice (some ad345) l0_2.length c0_2] 26 (0, 0)) (by (with_reducible repeat (first | refine blk_drewN ?_ _ | refine blk_drew ?_ | refine blk_alloc ?_ _)); exact BK344.out)) : gb348 ≠ gb344)); have n9_ := Aside0.mk ((by rw [hg]; exact Nat.ne_of_lt (blk_lt (g := gb346) (o := .cells #[.int .i64 ((rd_T29 l0_2 x4_1).f0), .int .i64 ((rd_T29 l0_2 x4_1).f1), .int .i64 ((rd_T29 l0_2 x4_1).f2)] 29 (0, 0)) (by (with_reducible repeat (first | refine blk_drewN ?_ _ | refine blk_drew ?_ | refine blk_alloc ?_ _)); exact BK346.out)) : gb346 ≠ gb348)); have n10_ := Aside0.mk ((by rw [hg]; exact Nat.ne_of_gt (blk_lt (g := gb346) (o := .cells #[.int .i64 ((rd_T29 l0_2 x4_1).f0), .int .i64 ((rd_T29 l0_2 x4_1).f1), .int .i64 ((rd_T29 l0_2 x4_1).f2)] 29 (0, 0)) (by (with_reducible repeat (first | refine blk_drewN ?_ _ | refine blk_drew ?_ | refine blk_alloc ?_ _)); exact BK346.out)) : gb348 ≠ gb346)); clear HO_3; clear BK344; clear BK346; clear HB; have HO_3 := n0_; have BK344 := n1_; have BK346 := n2_; have HB := n3_; have BK348 := n4_; have GW348 := n5_; have GE348 := n6_; have NB344_348 := n7_; have NB348_344 := n8_; have NB346_348 := n9_; have NB348_346 := n10_; clear n0_ n1_ n2_ n3_ n4_ n5_ n6_ n7_ n8_ n9_ n10_; clear hb hbox hg; have hnb50 := NB348_344.out; have hnc50 := NB344_348.out; have hnb51 := NB348_346.out; have hnc51 := NB346_348.out; have hcz52_0 : w49.cell? ⟨gb348, 0, none⟩ = some (.int .i64 0) := (blk_cell BK348.out 0).trans rfl; have hcz52_1 : w49.cell? ⟨gb348, 1, none⟩ = some (.int .i64 0) := (blk_cell BK348.out 1).trans rfl; have hcz52_2 : w49.cell? ⟨gb348, 2, none⟩ = some (.int .i64 0) := (blk_cell BK348.out 2).trans rfl; have hfz52_0 := blk_frozen BK348.out 0; have hfz52_1 := blk_frozen BK348.out 1; have hfz52_2 := blk_frozen BK348.out 2; have hcz53_0 : w49.cell? ⟨gb346, 0, none⟩ = some (.int .i64 ((rd_T29 l0_2 x4_1).f0)) := (blk_cell BK346.out 0).trans rfl; have hcz53_1 : w49.cell? ⟨gb346, 1, none⟩ = some (.int .i64 ((rd_T29 l0_2 x4_1).f1)) := (blk_cell BK346.out 1).trans rfl; have hcz53_2 : w49.cell? ⟨gb346, 2, none⟩ = some (.int .i64 ((rd_T29 l0_2 x4_1).f2)) := (blk_cell BK346.out 2).trans rfl; have hfz53_0 := blk_frozen BK346.out 0; have hfz53_1 := blk_frozen BK346.out 1; have hfz53_2 := blk_frozen BK346.out 2; have hcz54_0 : w49.cell? ⟨gb344, 0, none⟩ = some (.bool false) := (blk_cell BK344.out 0).trans rfl; have hcz54_1 : w49.cell? ⟨gb344, 1, none⟩ = some (.slice A0_1 l0_1.length c0_1) := (blk_cell BK344.out 1).trans rfl; have hcz54_2 : w49.cell? ⟨gb344, 2, none⟩ = some (.slice (some ad345) l0_2.length c0_2) := (blk_cell BK344.out 2).trans rfl; have hfz54_0 := blk_frozen BK344.out 0; have hfz54_1 := blk_frozen BK344.out 1; have hfz54_2 := blk_frozen BK344.out 2))
             go_roundg k2
             case measure => have := HK1.out; have := HK2.out; omega
             case rel => exact ⟨(x6_2), (wrap64 (x7_2 + 1)), (by first | rfl | (simp; done) | (simp [*]; done)), (by first | rfl | (simp; done) | (simp [*]; done)), H', ⟨by have := HK1.out; have := HK2.out; omega⟩, ⟨by (with_reducible repeat (first | apply Kd.R_alloc | apply Kd.R_drewN | apply Kd.R_drew)); exact Kd.R_mono (Kd.R_far (p := ⟨gb348, 2, none⟩) (Kd.R_far (p := ⟨gb348, 1, none⟩) (Kd.R_far (p := ⟨gb348, 0, none⟩) (Kd.R_types HO_3.out BK348.out (by decide)) (fun _ hk => hk.2) (.int .i64 ((rd_T29 l0_2 x7_2).f0))) (fun _ hk => hk.2) (.int .i64 ((rd_T29 l0_2 x7_2).f1))) (fun _ hk => hk.2) (.int .i64 ((rd_T29 l0_2 x7_2).f2))) (fun _ hk => trivial)⟩, ⟨by (with_reducible repeat (first | refine blk_drewN ?_ _ | refine blk_drew ?_ | refine blk_alloc ?_ _)); refine blk_far ?_ NB344_348.out _; (with_reducible repeat (first | refine blk_drewN ?_ _ | refine blk_drew ?_ | refine blk_alloc ?_ _)); refine blk_far ?_ NB344_348.out _; (with_reducible repeat (first | refine blk_drewN ?_ _ | refine blk_drew ?_ | refine blk_alloc ?_ _)); refine blk_far ?_ NB344_348.out _; (with_reducible repeat (first | refine blk_drewN ?_ _ | refine blk_drew ?_ | refine blk_alloc ?_ _)); exact BK344.out⟩, ⟨by (with_reducible repeat (first | refine blk_drewN ?_ _ | refine blk_drew ?_ | refine blk_alloc ?_ _)); refine blk_far ?_ NB346_348.out _; (with_reducible repeat (first | refine blk_drewN ?_ _ | refine blk_drew ?_ | refine blk_alloc ?_ _)); refine blk_far ?_ NB346_348.out _; (with_reducible repeat (first | refine blk_drewN ?_ _ | refine blk_drew ?_ | refine blk_alloc ?_ _)); refine blk_far ?_ NB346_348.out _; (with_reducible repeat (first | refine blk_drewN ?_ _ | refine blk_drew ?_ | refine blk_alloc ?_ _)); exact BK346.out⟩, ⟨by repeat (first | (with_reducible first | exact HB.out | apply below_alloc | apply pw_below_drewN | apply below_drew1 | refine below_set ?_ GE344.out | refine below_set ?_ GE346.out | refine below_set ?_ GE348.out) | exact HB.out)⟩⟩
         ·rw [if_neg c11] at H
          have c11b0 : (((rd_T29 l0_2 x7_2).f0) == ((rd_T29 l0_2 x4_1).f0)) = false := beq_eq_false_iff_ne.mpr c11
          have c11b1 : (((rd_T29 l0_2 x7_2).f0) != ((rd_T29 l0_2 x4_1).f0)) = true := bne_iff_ne.mpr c11
          by_cases c55 : a0_0 = true
          ·subst c55
           have H1 : (laws_hops.l1 k2 x3_1 x4_1 x6_2 (wrap64 (x7_2 + 1)) true l0_1 l0_2 ((rd_T29 l0_2 x4_1).f0) ((rd_T29 l0_2 x4_1).f1) ((rd_T29 l0_2 x4_1).f2)) = some r := by rw [if_pos rfl] at H; exact H
           clear H
           have H := H1
           clear H1
           have H' := Aside0.mk H
           clear H
           have hnb56 := NB344_346.out
           have hnc56 := NB346_344.out
           have hcz57_0 : wr.cell? ⟨gb344, 0, none⟩ = some (.bool true) := (blk_cell BK344.out 0).trans rfl
           have hcz57_1 : wr.cell? ⟨gb344, 1, none⟩ = some (.slice A0_1 l0_1.length c0_1) := (blk_cell BK344.out 1).trans rfl
           have hcz57_2 : wr.cell? ⟨gb344, 2, none⟩ = some (.slice (some ad345) l0_2.length c0_2) := (blk_cell BK344.out 2).trans rfl
           have hfz57_0 := blk_frozen BK344.out 0
           have hfz57_1 := blk_frozen BK344.out 1
           have hfz57_2 := blk_frozen BK344.out 2
           have p347 : 0 ≤ (x7_2 : Int) := of_decide_eq_true (by first | (with_reducible assumption) | assumption)
           have q347 : x7_2 < (l0_2.length : Int) := of_decide_eq_true (by first | (with_reducible assumption) | assumption)
           obtain ⟨ad347, e347, hx347_0, hx347_1, hx347_2⟩ := at_T29 HR0_2.out x7_2 p347 q347
           obtain rfl : ad345 = ad347 := (by injection e347)
           replace hx347_0 := (HB.out.cell (World.block_lt_of_cell? w _ hx347_0)).trans hx347_0
           replace hx347_1 := (HB.out.cell (World.block_lt_of_cell? w _ hx347_1)).trans hx347_1
           replace hx347_2 := (HB.out.cell (World.block_lt_of_cell? w _ hx347_2)).trans hx347_2
           replace p347 := eq_true p347
           replace q347 := eq_true q347
           go_wp2_with (first | ((with_reducible refine gate_dst (N := 8) rfl ?_); refine box_event ?hg (N := 8) ?hd (cs := #[.int .i64 0, .int .i64 0, .int .i64 0]) (t := 29) ?hr ?_; (case hd => rfl); (case hg => rfl); (case hr => first | (go_simp; done) | (go_simp; rfl)); intro gb348 hg w58 hbox hb; have n0_ := Aside0.mk (Kd.R_below (by (with_reducible repeat (first | apply Kd.R_alloc | apply Kd.R_drewN | apply Kd.R_drew)); exact HO_3.out) hb); have n1_ := Aside0.mk (blk_below (g := gb344) (o := .cells #[.bool true, .slice A0_1 l0_1.length c0_1, .slice (some ad345) l0_2.length c0_2] 26 (0, 0)) (by (with_reducible repeat (first | refine blk_drewN ?_ _ | refine blk_drew ?_ | refine blk_alloc ?_ _)); exact BK344.out) hb); have n2_ := Aside0.mk (blk_below (g := gb346) (o := .cells #[.int .i64 ((rd_T29 l0_2 x4_1).f0), .int .i64 ((rd_T29 l0_2 x4_1).f1), .int .i64 ((rd_T29 l0_2 x4_1).f2)] 29 (0, 0)) (by (with_reducible repeat (first | refine blk_drewN ?_ _ | refine blk_drew ?_ | refine blk_alloc ?_ _)); exact BK346.out) hb); have n3_ := Aside0.mk (below_step (by repeat (first | (with_reducible first | exact HB.out | apply below_alloc | apply pw_below_drewN | apply below_drew1 | refine below_set ?_ GE344.out | refine below_set ?_ GE346.out) | exact HB.out)) hb); have n4_ := Aside0.mk (hbox); have n5_ := Aside0.mk ((by rw [hg]; exact (below_size (by repeat (first | (with_reducible first | exact HB.out | apply below_alloc | apply pw_below_drewN | apply below_drew1 | refine below_set ?_ GE344.out | refine below_set ?_ GE346.out) | exact HB.out))) : w.heap.size ≤ gb348)); have n6_ := Aside0.mk ((by rw [hg]; exact (below_size (by repeat (first | (with_reducible first | exact HB.out | apply below_alloc | apply pw_below_drewN | apply below_drew1 | refine below_set ?_ GE344.out | refine below_set ?_ GE346.out) | exact HB.out))) : w.heap.size ≤ gb348)); have n7_ := Aside0.mk ((by rw [hg]; exact Nat.ne_of_lt (blk_lt (g := gb344) (o := .cells #[.bool true, .slice A0_1 l0_1.length c0_1, .slice (some ad345) l0_2.length c0_2] 26 (0, 0)) (by (with_reducible repeat (first | refine blk_drewN ?_ _ | refine blk_drew ?_ | refine blk_alloc ?_ _)); exact BK344.out)) : gb344 ≠ gb348)); have n8_ := Aside0.mk ((by rw [hg]; exact Nat.ne_of_gt (blk_lt (g := gb344) (o := .cells #[.bool true, .slice A0_1 l0_1.length c0_1, .slice (some ad345) l0_2.length c0_2] 26 (0, 0)) (by (with_reducible repeat (first | refine blk_drewN ?_ _ | refine blk_drew ?_ | refine blk_alloc ?_ _)); exact BK344.out)) : gb348 ≠ gb344)); have n9_ := Aside0.mk ((by rw [hg]; exact Nat.ne_of_lt (blk_lt (g := gb346) (o := .cells #[.int .i64 ((rd_T29 l0_2 x4_1).f0), .int .i64 ((rd_T29 l0_2 x4_1).f1), .int .i64 ((rd_T29 l0_2 x4_1).f2)] 29 (0, 0)) (by (with_reducible repeat (first | refine blk_drewN ?_ _ | refine blk_drew ?_ | refine blk_alloc ?_ _)); exact BK346.out)) : gb346 ≠ gb348)); have n10_ := Aside0.mk ((by rw [hg]; exact Nat.ne_of_gt (blk_lt (g := gb346) (o := .cells #[.int .i64 ((rd_T29 l0_2 x4_1).f0), .int .i64 ((rd_T29 l0_2 x4_1).f1), .int .i64 ((rd_T29 l0_2 x4_1).f2)] 29 (0, 0)) (by (with_reducible repeat (first | refine blk_drewN ?_ _ | refine blk_drew ?_ | refine blk_alloc ?_ _)); exact BK346.out)) : gb348 ≠ gb346)); clear HO_3; clear BK344; clear BK346; clear HB; have HO_3 := n0_; have BK344 := n1_; have BK346 := n2_; have HB := n3_; have BK348 := n4_; have GW348 := n5_; have GE348 := n6_; have NB344_348 := n7_; have NB348_344 := n8_; have NB346_348 := n9_; have NB348_346 := n10_; clear n0_ n1_ n2_ n3_ n4_ n5_ n6_ n7_ n8_ n9_ n10_; clear hb hbox hg; have hnb59 := NB348_344.out; have hnc59 := NB344_348.out; have hnb60 := NB348_346.out; have hnc60 := NB346_348.out; have hcz61_0 : w58.cell? ⟨gb348, 0, none⟩ = some (.int .i64 0) := (blk_cell BK348.out 0).trans rfl; have hcz61_1 : w58.cell? ⟨gb348, 1, none⟩ = some (.int .i64 0) := (blk_cell BK348.out 1).trans rfl; have hcz61_2 : w58.cell? ⟨gb348, 2, none⟩ = some (.int .i64 0) := (blk_cell BK348.out 2).trans rfl; have hfz61_0 := blk_frozen BK348.out 0; have hfz61_1 := blk_frozen BK348.out 1; have hfz61_2 := blk_frozen BK348.out 2; have hcz62_0 : w58.cell? ⟨gb346, 0, none⟩ = some (.int .i64 ((rd_T29 l0_2 x4_1).f0)) := (blk_cell BK346.out 0).trans rfl; have hcz62_1 : w58.cell? ⟨gb346, 1, none⟩ = some (.int .i64 ((rd_T29 l0_2 x4_1).f1)) := (blk_cell BK346.out 1).trans rfl; have hcz62_2 : w58.cell? ⟨gb346, 2, none⟩ = some (.int .i64 ((rd_T29 l0_2 x4_1).f2)) := (blk_cell BK346.out 2).trans rfl; have hfz62_0 := blk_frozen BK346.out 0; have hfz62_1 := blk_frozen BK346.out 1; have hfz62_2 := blk_frozen BK346.out 2; have hcz63_0 : w58.cell? ⟨gb344, 0, none⟩ = some (.bool true) := (blk_cell BK344.out 0).trans rfl; have hcz63_1 : w58.cell? ⟨gb344, 1, none⟩ = some (.slice A0_1 l0_1.length c0_1) := (blk_cell BK344.out 1).trans rfl; have hcz63_2 : w58.cell? ⟨gb344, 2, none⟩ = some (.slice (some ad345) l0_2.length c0_2) := (blk_cell BK344.out 2).trans rfl; have hfz63_0 := blk_frozen BK344.out 0; have hfz63_1 := blk_frozen BK344.out 1; have hfz63_2 := blk_frozen BK344.out 2))
           go_roundg k2
           case measure => have := HK1.out; have := HK2.out; omega
           case rel => exact ⟨(x6_2), (wrap64 (x7_2 + 1)), (by first | rfl | (simp; done) | (simp [*]; done)), (by first | rfl | (simp; done) | (simp [*]; done)), H', ⟨by have := HK1.out; have := HK2.out; omega⟩, ⟨by (with_reducible repeat (first | apply Kd.R_alloc | apply Kd.R_drewN | apply Kd.R_drew)); exact Kd.R_mono (Kd.R_far (p := ⟨gb348, 2, none⟩) (Kd.R_far (p := ⟨gb348, 1, none⟩) (Kd.R_far (p := ⟨gb348, 0, none⟩) (Kd.R_types HO_3.out BK348.out (by decide)) (fun _ hk => hk.2) (.int .i64 ((rd_T29 l0_2 x7_2).f0))) (fun _ hk => hk.2) (.int .i64 ((rd_T29 l0_2 x7_2).f1))) (fun _ hk => hk.2) (.int .i64 ((rd_T29 l0_2 x7_2).f2))) (fun _ hk => trivial)⟩, ⟨by (with_reducible repeat (first | refine blk_drewN ?_ _ | refine blk_drew ?_ | refine blk_alloc ?_ _)); refine blk_far ?_ NB344_348.out _; (with_reducible repeat (first | refine blk_drewN ?_ _ | refine blk_drew ?_ | refine blk_alloc ?_ _)); refine blk_far ?_ NB344_348.out _; (with_reducible repeat (first | refine blk_drewN ?_ _ | refine blk_drew ?_ | refine blk_alloc ?_ _)); refine blk_far ?_ NB344_348.out _; (with_reducible repeat (first | refine blk_drewN ?_ _ | refine blk_drew ?_ | refine blk_alloc ?_ _)); exact BK344.out⟩, ⟨by (with_reducible repeat (first | refine blk_drewN ?_ _ | refine blk_drew ?_ | refine blk_alloc ?_ _)); refine blk_far ?_ NB346_348.out _; (with_reducible repeat (first | refine blk_drewN ?_ _ | refine blk_drew ?_ | refine blk_alloc ?_ _)); refine blk_far ?_ NB346_348.out _; (with_reducible repeat (first | refine blk_drewN ?_ _ | refine blk_drew ?_ | refine blk_alloc ?_ _)); refine blk_far ?_ NB346_348.out _; (with_reducible repeat (first | refine blk_drewN ?_ _ | refine blk_drew ?_ | refine blk_alloc ?_ _)); exact BK346.out⟩, ⟨by repeat (first | (with_reducible first | exact HB.out | apply below_alloc | apply pw_below_drewN | apply below_drew1 | refine below_set ?_ GE344.out | refine below_set ?_ GE346.out | refine below_set ?_ GE348.out) | exact HB.out)⟩⟩
          ·replace c55 := Bool.eq_false_iff.mpr c55
           subst c55
           have H1 : (if ((rd_T29 l0_2 x7_2).f0) = ((rd_T29 l0_2 x4_1).f1) then (if ((rd_T29 l0_2 x7_2).f1) = ((rd_T29 l0_2 x4_1).f0) then (laws_hops.l1 k2 x3_1 x4_1 false (wrap64 (x7_2 + 1)) false l0_1 l0_2 ((rd_T29 l0_2 x4_1).f0) ((rd_T29 l0_2 x4_1).f1) ((rd_T29 l0_2 x4_1).f2)) else (laws_hops.l1 k2 x3_1 x4_1 x6_2 (wrap64 (x7_2 + 1)) false l0_1 l0_2 ((rd_T29 l0_2 x4_1).f0) ((rd_T29 l0_2 x4_1).f1) ((rd_T29 l0_2 x4_1).f2))) else (laws_hops.l1 k2 x3_1 x4_1 x6_2 (wrap64 (x7_2 + 1)) false l0_1 l0_2 ((rd_T29 l0_2 x4_1).f0) ((rd_T29 l0_2 x4_1).f1) ((rd_T29 l0_2 x4_1).f2))) = some r := by rw [if_neg (show ¬ (false = true) by decide)] at H; exact H
           clear H
           have H := H1
           clear H1
           by_cases c64 : ((rd_T29 l0_2 x7_2).f0) = ((rd_T29 l0_2 x4_1).f1)
           ·rw [if_pos c64] at H
            have c64b0 : (((rd_T29 l0_2 x7_2).f0) == ((rd_T29 l0_2 x4_1).f1)) = true := beq_iff_eq.mpr c64
            have c64b1 : (((rd_T29 l0_2 x7_2).f0) != ((rd_T29 l0_2 x4_1).f1)) = false := bne_eq_false_iff_eq.mpr c64
            clear c64
            by_cases c65 : ((rd_T29 l0_2 x7_2).f1) = ((rd_T29 l0_2 x4_1).f0)
            ·rw [if_pos c65] at H
             have c65b0 : (((rd_T29 l0_2 x7_2).f1) == ((rd_T29 l0_2 x4_1).f0)) = true := beq_iff_eq.mpr c65
             have c65b1 : (((rd_T29 l0_2 x7_2).f1) != ((rd_T29 l0_2 x4_1).f0)) = false := bne_eq_false_iff_eq.mpr c65
             clear c65
             have H' := Aside0.mk H
             clear H
             have hnb66 := NB344_346.out
             have hnc66 := NB346_344.out
             have hcz67_0 : wr.cell? ⟨gb344, 0, none⟩ = some (.bool false) := (blk_cell BK344.out 0).trans rfl
             have hcz67_1 : wr.cell? ⟨gb344, 1, none⟩ = some (.slice A0_1 l0_1.length c0_1) := (blk_cell BK344.out 1).trans rfl
             have hcz67_2 : wr.cell? ⟨gb344, 2, none⟩ = some (.slice (some ad345) l0_2.length c0_2) := (blk_cell BK344.out 2).trans rfl
             have hfz67_0 := blk_frozen BK344.out 0
             have hfz67_1 := blk_frozen BK344.out 1
             have hfz67_2 := blk_frozen BK344.out 2
             have p347 : 0 ≤ (x7_2 : Int) := of_decide_eq_true (by first | (with_reducible assumption) | assumption)
             have q347 : x7_2 < (l0_2.length : Int) := of_decide_eq_true (by first | (with_reducible assumption) | assumption)
             obtain ⟨ad347, e347, hx347_0, hx347_1, hx347_2⟩ := at_T29 HR0_2.out x7_2 p347 q347
             obtain rfl : ad345 = ad347 := (by injection e347)
             replace hx347_0 := (HB.out.cell (World.block_lt_of_cell? w _ hx347_0)).trans hx347_0
             replace hx347_1 := (HB.out.cell (World.block_lt_of_cell? w _ hx347_1)).trans hx347_1
             replace hx347_2 := (HB.out.cell (World.block_lt_of_cell? w _ hx347_2)).trans hx347_2
             replace p347 := eq_true p347
             replace q347 := eq_true q347
             go_wp2_with (first | ((with_reducible refine gate_dst (N := 8) rfl ?_); refine box_event ?hg (N := 8) ?hd (cs := #[.int .i64 0, .int .i64 0, .int .i64 0]) (t := 29) ?hr ?_; (case hd => rfl); (case hg => rfl); (case hr => first | (go_simp; done) | (go_simp; rfl)); intro gb348 hg w68 hbox hb; have n0_ := Aside0.mk (Kd.R_below (by (with_reducible repeat (first | apply Kd.R_alloc | apply Kd.R_drewN | apply Kd.R_drew)); exact HO_3.out) hb); have n1_ := Aside0.mk (blk_below (g := gb344) (o := .cells #[.bool false, .slice A0_1 l0_1.length c0_1, .slice (some ad345) l0_2.length c0_2] 26 (0, 0)) (by (with_reducible repeat (first | refine blk_drewN ?_ _ | refine blk_drew ?_ | refine blk_alloc ?_ _)); exact BK344.out) hb); have n2_ := Aside0.mk (blk_below (g := gb346) (o := .cells #[.int .i64 ((rd_T29 l0_2 x4_1).f0), .int .i64 ((rd_T29 l0_2 x4_1).f1), .int .i64 ((rd_T29 l0_2 x4_1).f2)] 29 (0, 0)) (by (with_reducible repeat (first | refine blk_drewN ?_ _ | refine blk_drew ?_ | refine blk_alloc ?_ _)); exact BK346.out) hb); have n3_ := Aside0.mk (below_step (by repeat (first | (with_reducible first | exact HB.out | apply below_alloc | apply pw_below_drewN | apply below_drew1 | refine below_set ?_ GE344.out | refine below_set ?_ GE346.out) | exact HB.out)) hb); have n4_ := Aside0.mk (hbox); have n5_ := Aside0.mk ((by rw [hg]; exact (below_size (by repeat (first | (with_reducible first | exact HB.out | apply below_alloc | apply pw_below_drewN | apply below_drew1 | refine below_set ?_ GE344.out | refine below_set ?_ GE346.out) | exact HB.out))) : w.heap.size ≤ gb348)); have n6_ := Aside0.mk ((by rw [hg]; exact (below_size (by repeat (first | (with_reducible first | exact HB.out | apply below_alloc | apply pw_below_drewN | apply below_drew1 | refine below_set ?_ GE344.out | refine below_set ?_ GE346.out) | exact HB.out))) : w.heap.size ≤ gb348)); have n7_ := Aside0.mk ((by rw [hg]; exact Nat.ne_of_lt (blk_lt (g := gb344) (o := .cells #[.bool false, .slice A0_1 l0_1.length c0_1, .slice (some ad345) l0_2.length c0_2] 26 (0, 0)) (by (with_reducible repeat (first | refine blk_drewN ?_ _ | refine blk_drew ?_ | refine blk_alloc ?_ _)); exact BK344.out)) : gb344 ≠ gb348)); have n8_ := Aside0.mk ((by rw [hg]; exact Nat.ne_of_gt (blk_lt (g := gb344) (o := .cells #[.bool false, .slice A0_1 l0_1.length c0_1, .slice (some ad345) l0_2.length c0_2] 26 (0, 0)) (by (with_reducible repeat (first | refine blk_drewN ?_ _ | refine blk_drew ?_ | refine blk_alloc ?_ _)); exact BK344.out)) : gb348 ≠ gb344)); have n9_ := Aside0.mk ((by rw [hg]; exact Nat.ne_of_lt (blk_lt (g := gb346) (o := .cells #[.int .i64 ((rd_T29 l0_2 x4_1).f0), .int .i64 ((rd_T29 l0_2 x4_1).f1), .int .i64 ((rd_T29 l0_2 x4_1).f2)] 29 (0, 0)) (by (with_reducible repeat (first | refine blk_drewN ?_ _ | refine blk_drew ?_ | refine blk_alloc ?_ _)); exact BK346.out)) : gb346 ≠ gb348)); have n10_ := Aside0.mk ((by rw [hg]; exact Nat.ne_of_gt (blk_lt (g := gb346) (o := .cells #[.int .i64 ((rd_T29 l0_2 x4_1).f0), .int .i64 ((rd_T29 l0_2 x4_1).f1), .int .i64 ((rd_T29 l0_2 x4_1).f2)] 29 (0, 0)) (by (with_reducible repeat (first | refine blk_drewN ?_ _ | refine blk_drew ?_ | refine blk_alloc ?_ _)); exact BK346.out)) : gb348 ≠ gb346)); clear HO_3; clear BK344; clear BK346; clear HB; have HO_3 := n0_; have BK344 := n1_; have BK346 := n2_; have HB := n3_; have BK348 := n4_; have GW348 := n5_; have GE348 := n6_; have NB344_348 := n7_; have NB348_344 := n8_; have NB346_348 := n9_; have NB348_346 := n10_; clear n0_ n1_ n2_ n3_ n4_ n5_ n6_ n7_ n8_ n9_ n10_; clear hb hbox hg; have hnb69 := NB348_344.out; have hnc69 := NB344_348.out; have hnb70 := NB348_346.out; have hnc70 := NB346_348.out; have hcz71_0 : w68.cell? ⟨gb348, 0, none⟩ = some (.int .i64 0) := (blk_cell BK348.out 0).trans rfl; have hcz71_1 : w68.cell? ⟨gb348, 1, none⟩ = some (.int .i64 0) := (blk_cell BK348.out 1).trans rfl; have hcz71_2 : w68.cell? ⟨gb348, 2, none⟩ = some (.int .i64 0) := (blk_cell BK348.out 2).trans rfl; have hfz71_0 := blk_frozen BK348.out 0; have hfz71_1 := blk_frozen BK348.out 1; have hfz71_2 := blk_frozen BK348.out 2; have hcz72_0 : w68.cell? ⟨gb346, 0, none⟩ = some (.int .i64 ((rd_T29 l0_2 x4_1).f0)) := (blk_cell BK346.out 0).trans rfl; have hcz72_1 : w68.cell? ⟨gb346, 1, none⟩ = some (.int .i64 ((rd_T29 l0_2 x4_1).f1)) := (blk_cell BK346.out 1).trans rfl; have hcz72_2 : w68.cell? ⟨gb346, 2, none⟩ = some (.int .i64 ((rd_T29 l0_2 x4_1).f2)) := (blk_cell BK346.out 2).trans rfl; have hfz72_0 := blk_frozen BK346.out 0; have hfz72_1 := blk_frozen BK346.out 1; have hfz72_2 := blk_frozen BK346.out 2; have hcz73_0 : w68.cell? ⟨gb344, 0, none⟩ = some (.bool false) := (blk_cell BK344.out 0).trans rfl; have hcz73_1 : w68.cell? ⟨gb344, 1, none⟩ = some (.slice A0_1 l0_1.length c0_1) := (blk_cell BK344.out 1).trans rfl; have hcz73_2 : w68.cell? ⟨gb344, 2, none⟩ = some (.slice (some ad345) l0_2.length c0_2) := (blk_cell BK344.out 2).trans rfl; have hfz73_0 := blk_frozen BK344.out 0; have hfz73_1 := blk_frozen BK344.out 1; have hfz73_2 := blk_frozen BK344.out 2))
             go_roundg k2
             case measure => have := HK1.out; have := HK2.out; omega
             case rel => exact ⟨(false), (wrap64 (x7_2 + 1)), (by first | rfl | (simp; done) | (simp [*]; done)), (by first | rfl | (simp; done) | (simp [*]; done)), H', ⟨by have := HK1.out; have := HK2.out; omega⟩, ⟨by (with_reducible repeat (first | apply Kd.R_alloc | apply Kd.R_drewN | apply Kd.R_drew)); exact Kd.R_mono (Kd.R_far (p := ⟨gb348, 2, none⟩) (Kd.R_far (p := ⟨gb348, 1, none⟩) (Kd.R_far (p := ⟨gb348, 0, none⟩) (Kd.R_types HO_3.out BK348.out (by decide)) (fun _ hk => hk.2) (.int .i64 ((rd_T29 l0_2 x7_2).f0))) (fun _ hk => hk.2) (.int .i64 ((rd_T29 l0_2 x7_2).f1))) (fun _ hk => hk.2) (.int .i64 ((rd_T29 l0_2 x7_2).f2))) (fun _ hk => trivial)⟩, ⟨by (with_reducible repeat (first | refine blk_drewN ?_ _ | refine blk_drew ?_ | refine blk_alloc ?_ _)); refine blk_far ?_ NB344_348.out _; (with_reducible repeat (first | refine blk_drewN ?_ _ | refine blk_drew ?_ | refine blk_alloc ?_ _)); refine blk_far ?_ NB344_348.out _; (with_reducible repeat (first | refine blk_drewN ?_ _ | refine blk_drew ?_ | refine blk_alloc ?_ _)); refine blk_far ?_ NB344_348.out _; (with_reducible repeat (first | refine blk_drewN ?_ _ | refine blk_drew ?_ | refine blk_alloc ?_ _)); exact BK344.out⟩, ⟨by (with_reducible repeat (first | refine blk_drewN ?_ _ | refine blk_drew ?_ | refine blk_alloc ?_ _)); refine blk_far ?_ NB346_348.out _; (with_reducible repeat (first | refine blk_drewN ?_ _ | refine blk_drew ?_ | refine blk_alloc ?_ _)); refine blk_far ?_ NB346_348.out _; (with_reducible repeat (first | refine blk_drewN ?_ _ | refine blk_drew ?_ | refine blk_alloc ?_ _)); refine blk_far ?_ NB346_348.out _; (with_reducible repeat (first | refine blk_drewN ?_ _ | refine blk_drew ?_ | refine blk_alloc ?_ _)); exact BK346.out⟩, ⟨by repeat (first | (with_reducible first | exact HB.out | apply below_alloc | apply pw_below_drewN | apply below_drew1 | refine below_set ?_ GE344.out | refine below_set ?_ GE346.out | refine below_set ?_ GE348.out) | exact HB.out)⟩⟩
            ·rw [if_neg c65] at H
             have c65b0 : (((rd_T29 l0_2 x7_2).f1) == ((rd_T29 l0_2 x4_1).f0)) = false := beq_eq_false_iff_ne.mpr c65
             have c65b1 : (((rd_T29 l0_2 x7_2).f1) != ((rd_T29 l0_2 x4_1).f0)) = true := bne_iff_ne.mpr c65
             have H' := Aside0.mk H
             clear H
             have hnb74 := NB344_346.out
             have hnc74 := NB346_344.out
             have hcz75_0 : wr.cell? ⟨gb344, 0, none⟩ = some (.bool false) := (blk_cell BK344.out 0).trans rfl
             have hcz75_1 : wr.cell? ⟨gb344, 1, none⟩ = some (.slice A0_1 l0_1.length c0_1) := (blk_cell BK344.out 1).trans rfl
             have hcz75_2 : wr.cell? ⟨gb344, 2, none⟩ = some (.slice (some ad345) l0_2.length c0_2) := (blk_cell BK344.out 2).trans rfl
             have hfz75_0 := blk_frozen BK344.out 0
             have hfz75_1 := blk_frozen BK344.out 1
             have hfz75_2 := blk_frozen BK344.out 2
             have p347 : 0 ≤ (x7_2 : Int) := of_decide_eq_true (by first | (with_reducible assumption) | assumption)
             have q347 : x7_2 < (l0_2.length : Int) := of_decide_eq_true (by first | (with_reducible assumption) | assumption)
             obtain ⟨ad347, e347, hx347_0, hx347_1, hx347_2⟩ := at_T29 HR0_2.out x7_2 p347 q347
             obtain rfl : ad345 = ad347 := (by injection e347)
             replace hx347_0 := (HB.out.cell (World.block_lt_of_cell? w _ hx347_0)).trans hx347_0
             replace hx347_1 := (HB.out.cell (World.block_lt_of_cell? w _ hx347_1)).trans hx347_1
             replace hx347_2 := (HB.out.cell (World.block_lt_of_cell? w _ hx347_2)).trans hx347_2
             replace p347 := eq_true p347
             replace q347 := eq_true q347
             go_wp2_with (first | ((with_reducible refine gate_dst (N := 8) rfl ?_); refine box_event ?hg (N := 8) ?hd (cs := #[.int .i64 0, .int .i64 0, .int .i64 0]) (t := 29) ?hr ?_; (case hd => rfl); (case hg => rfl); (case hr => first | (go_simp; done) | (go_simp; rfl)); intro gb348 hg w76 hbox hb; have n0_ := Aside0.mk (Kd.R_below (by (with_reducible repeat (first | apply Kd.R_alloc | apply Kd.R_drewN | apply Kd.R_drew)); exact HO_3.out) hb); have n1_ := Aside0.mk (blk_below (g := gb344) (o := .cells #[.bool false, .slice A0_1 l0_1.length c0_1, .slice (some ad345) l0_2.length c0_2] 26 (0, 0)) (by (with_reducible repeat (first | refine blk_drewN ?_ _ | refine blk_drew ?_ | refine blk_alloc ?_ _)); exact BK344.out) hb); have n2_ := Aside0.mk (blk_below (g := gb346) (o := .cells #[.int .i64 ((rd_T29 l0_2 x4_1).f0), .int .i64 ((rd_T29 l0_2 x4_1).f1), .int .i64 ((rd_T29 l0_2 x4_1).f2)] 29 (0, 0)) (by (with_reducible repeat (first | refine blk_drewN ?_ _ | refine blk_drew ?_ | refine blk_alloc ?_ _)); exact BK346.out) hb); have n3_ := Aside0.mk (below_step (by repeat (first | (with_reducible first | exact HB.out | apply below_alloc | apply pw_below_drewN | apply below_drew1 | refine below_set ?_ GE344.out | refine below_set ?_ GE346.out) | exact HB.out)) hb); have n4_ := Aside0.mk (hbox); have n5_ := Aside0.mk ((by rw [hg]; exact (below_size (by repeat (first | (with_reducible first | exact HB.out | apply below_alloc | apply pw_below_drewN | apply below_drew1 | refine below_set ?_ GE344.out | refine below_set ?_ GE346.out) | exact HB.out))) : w.heap.size ≤ gb348)); have n6_ := Aside0.mk ((by rw [hg]; exact (below_size (by repeat (first | (with_reducible first | exact HB.out | apply below_alloc | apply pw_below_drewN | apply below_drew1 | refine below_set ?_ GE344.out | refine below_set ?_ GE346.out) | exact HB.out))) : w.heap.size ≤ gb348)); have n7_ := Aside0.mk ((by rw [hg]; exact Nat.ne_of_lt (blk_lt (g := gb344) (o := .cells #[.bool false, .slice A0_1 l0_1.length c0_1, .slice (some ad345) l0_2.length c0_2] 26 (0, 0)) (by (with_reducible repeat (first | refine blk_drewN ?_ _ | refine blk_drew ?_ | refine blk_alloc ?_ _)); exact BK344.out)) : gb344 ≠ gb348)); have n8_ := Aside0.mk ((by rw [hg]; exact Nat.ne_of_gt (blk_lt (g := gb344) (o := .cells #[.bool false, .slice A0_1 l0_1.length c0_1, .slice (some ad345) l0_2.length c0_2] 26 (0, 0)) (by (with_reducible repeat (first | refine blk_drewN ?_ _ | refine blk_drew ?_ | refine blk_alloc ?_ _)); exact BK344.out)) : gb348 ≠ gb344)); have n9_ := Aside0.mk ((by rw [hg]; exact Nat.ne_of_lt (blk_lt (g := gb346) (o := .cells #[.int .i64 ((rd_T29 l0_2 x4_1).f0), .int .i64 ((rd_T29 l0_2 x4_1).f1), .int .i64 ((rd_T29 l0_2 x4_1).f2)] 29 (0, 0)) (by (with_reducible repeat (first | refine blk_drewN ?_ _ | refine blk_drew ?_ | refine blk_alloc ?_ _)); exact BK346.out)) : gb346 ≠ gb348)); have n10_ := Aside0.mk ((by rw [hg]; exact Nat.ne_of_gt (blk_lt (g := gb346) (o := .cells #[.int .i64 ((rd_T29 l0_2 x4_1).f0), .int .i64 ((rd_T29 l0_2 x4_1).f1), .int .i64 ((rd_T29 l0_2 x4_1).f2)] 29 (0, 0)) (by (with_reducible repeat (first | refine blk_drewN ?_ _ | refine blk_drew ?_ | refine blk_alloc ?_ _)); exact BK346.out)) : gb348 ≠ gb346)); clear HO_3; clear BK344; clear BK346; clear HB; have HO_3 := n0_; have BK344 := n1_; have BK346 := n2_; have HB := n3_; have BK348 := n4_; have GW348 := n5_; have GE348 := n6_; have NB344_348 := n7_; have NB348_344 := n8_; have NB346_348 := n9_; have NB348_346 := n10_; clear n0_ n1_ n2_ n3_ n4_ n5_ n6_ n7_ n8_ n9_ n10_; clear hb hbox hg; have hnb77 := NB348_344.out; have hnc77 := NB344_348.out; have hnb78 := NB348_346.out; have hnc78 := NB346_348.out; have hcz79_0 : w76.cell? ⟨gb348, 0, none⟩ = some (.int .i64 0) := (blk_cell BK348.out 0).trans rfl; have hcz79_1 : w76.cell? ⟨gb348, 1, none⟩ = some (.int .i64 0) := (blk_cell BK348.out 1).trans rfl; have hcz79_2 : w76.cell? ⟨gb348, 2, none⟩ = some (.int .i64 0) := (blk_cell BK348.out 2).trans rfl; have hfz79_0 := blk_frozen BK348.out 0; have hfz79_1 := blk_frozen BK348.out 1; have hfz79_2 := blk_frozen BK348.out 2; have hcz80_0 : w76.cell? ⟨gb346, 0, none⟩ = some (.int .i64 ((rd_T29 l0_2 x4_1).f0)) := (blk_cell BK346.out 0).trans rfl; have hcz80_1 : w76.cell? ⟨gb346, 1, none⟩ = some (.int .i64 ((rd_T29 l0_2 x4_1).f1)) := (blk_cell BK346.out 1).trans rfl; have hcz80_2 : w76.cell? ⟨gb346, 2, none⟩ = some (.int .i64 ((rd_T29 l0_2 x4_1).f2)) := (blk_cell BK346.out 2).trans rfl; have hfz80_0 := blk_frozen BK346.out 0; have hfz80_1 := blk_frozen BK346.out 1; have hfz80_2 := blk_frozen BK346.out 2; have hcz81_0 : w76.cell? ⟨gb344, 0, none⟩ = some (.bool false) := (blk_cell BK344.out 0).trans rfl; have hcz81_1 : w76.cell? ⟨gb344, 1, none⟩ = some (.slice A0_1 l0_1.length c0_1) := (blk_cell BK344.out 1).trans rfl; have hcz81_2 : w76.cell? ⟨gb344, 2, none⟩ = some (.slice (some ad345) l0_2.length c0_2) := (blk_cell BK344.out 2).trans rfl; have hfz81_0 := blk_frozen BK344.out 0; have hfz81_1 := blk_frozen BK344.out 1; have hfz81_2 := blk_frozen BK344.out 2))
             go_roundg k2
             case measure => have := HK1.out; have := HK2.out; omega
             case rel => exact ⟨(x6_2), (wrap64 (x7_2 + 1)), (by first | rfl | (simp; done) | (simp [*]; done)), (by first | rfl | (simp; done) | (simp [*]; done)), H', ⟨by have := HK1.out; have := HK2.out; omega⟩, ⟨by (with_reducible repeat (first | apply Kd.R_alloc | apply Kd.R_drewN | apply Kd.R_drew)); exact Kd.R_mono (Kd.R_far (p := ⟨gb348, 2, none⟩) (Kd.R_far (p := ⟨gb348, 1, none⟩) (Kd.R_far (p := ⟨gb348, 0, none⟩) (Kd.R_types HO_3.out BK348.out (by decide)) (fun _ hk => hk.2) (.int .i64 ((rd_T29 l0_2 x7_2).f0))) (fun _ hk => hk.2) (.int .i64 ((rd_T29 l0_2 x7_2).f1))) (fun _ hk => hk.2) (.int .i64 ((rd_T29 l0_2 x7_2).f2))) (fun _ hk => trivial)⟩, ⟨by (with_reducible repeat (first | refine blk_drewN ?_ _ | refine blk_drew ?_ | refine blk_alloc ?_ _)); refine blk_far ?_ NB344_348.out _; (with_reducible repeat (first | refine blk_drewN ?_ _ | refine blk_drew ?_ | refine blk_alloc ?_ _)); refine blk_far ?_ NB344_348.out _; (with_reducible repeat (first | refine blk_drewN ?_ _ | refine blk_drew ?_ | refine blk_alloc ?_ _)); refine blk_far ?_ NB344_348.out _; (with_reducible repeat (first | refine blk_drewN ?_ _ | refine blk_drew ?_ | refine blk_alloc ?_ _)); exact BK344.out⟩, ⟨by (with_reducible repeat (first | refine blk_drewN ?_ _ | refine blk_drew ?_ | refine blk_alloc ?_ _)); refine blk_far ?_ NB346_348.out _; (with_reducible repeat (first | refine blk_drewN ?_ _ | refine blk_drew ?_ | refine blk_alloc ?_ _)); refine blk_far ?_ NB346_348.out _; (with_reducible repeat (first | refine blk_drewN ?_ _ | refine blk_drew ?_ | refine blk_alloc ?_ _)); refine blk_far ?_ NB346_348.out _; (with_reducible repeat (first | refine blk_drewN ?_ _ | refine blk_drew ?_ | refine blk_alloc ?_ _)); exact BK346.out⟩, ⟨by repeat (first | (with_reducible first | exact HB.out | apply below_alloc | apply pw_below_drewN | apply below_drew1 | refine below_set ?_ GE344.out | refine below_set ?_ GE346.out | refine below_set ?_ GE348.out) | exact HB.out)⟩⟩
           ·rw [if_neg c64] at H
            have c64b0 : (((rd_T29 l0_2 x7_2).f0) == ((rd_T29 l0_2 x4_1).f1)) = false := beq_eq_false_iff_ne.mpr c64
            have c64b1 : (((rd_T29 l0_2 x7_2).f0) != ((rd_T29 l0_2 x4_1).f1)) = true := bne_iff_ne.mpr c64
            have H' := Aside0.mk H
            clear H
            have hnb82 := NB344_346.out
            have hnc82 := NB346_344.out
            have hcz83_0 : wr.cell? ⟨gb344, 0, none⟩ = some (.bool false) := (blk_cell BK344.out 0).trans rfl
            have hcz83_1 : wr.cell? ⟨gb344, 1, none⟩ = some (.slice A0_1 l0_1.length c0_1) := (blk_cell BK344.out 1).trans rfl
            have hcz83_2 : wr.cell? ⟨gb344, 2, none⟩ = some (.slice (some ad345) l0_2.length c0_2) := (blk_cell BK344.out 2).trans rfl
            have hfz83_0 := blk_frozen BK344.out 0
            have hfz83_1 := blk_frozen BK344.out 1
            have hfz83_2 := blk_frozen BK344.out 2
            have p347 : 0 ≤ (x7_2 : Int) := of_decide_eq_true (by first | (with_reducible assumption) | assumption)
            have q347 : x7_2 < (l0_2.length : Int) := of_decide_eq_true (by first | (with_reducible assumption) | assumption)
            obtain ⟨ad347, e347, hx347_0, hx347_1, hx347_2⟩ := at_T29 HR0_2.out x7_2 p347 q347
            obtain rfl : ad345 = ad347 := (by injection e347)
            replace hx347_0 := (HB.out.cell (World.block_lt_of_cell? w _ hx347_0)).trans hx347_0
            replace hx347_1 := (HB.out.cell (World.block_lt_of_cell? w _ hx347_1)).trans hx347_1
            replace hx347_2 := (HB.out.cell (World.block_lt_of_cell? w _ hx347_2)).trans hx347_2
            replace p347 := eq_true p347
            replace q347 := eq_true q347
            go_wp2_with (first | ((with_reducible refine gate_dst (N := 8) rfl ?_); refine box_event ?hg (N := 8) ?hd (cs := #[.int .i64 0, .int .i64 0, .int .i64 0]) (t := 29) ?hr ?_; (case hd => rfl); (case hg => rfl); (case hr => first | (go_simp; done) | (go_simp; rfl)); intro gb348 hg w84 hbox hb; have n0_ := Aside0.mk (Kd.R_below (by (with_reducible repeat (first | apply Kd.R_alloc | apply Kd.R_drewN | apply Kd.R_drew)); exact HO_3.out) hb); have n1_ := Aside0.mk (blk_below (g := gb344) (o := .cells #[.bool false, .slice A0_1 l0_1.length c0_1, .slice (some ad345) l0_2.length c0_2] 26 (0, 0)) (by (with_reducible repeat (first | refine blk_drewN ?_ _ | refine blk_drew ?_ | refine blk_alloc ?_ _)); exact BK344.out) hb); have n2_ := Aside0.mk (blk_below (g := gb346) (o := .cells #[.int .i64 ((rd_T29 l0_2 x4_1).f0), .int .i64 ((rd_T29 l0_2 x4_1).f1), .int .i64 ((rd_T29 l0_2 x4_1).f2)] 29 (0, 0)) (by (with_reducible repeat (first | refine blk_drewN ?_ _ | refine blk_drew ?_ | refine blk_alloc ?_ _)); exact BK346.out) hb); have n3_ := Aside0.mk (below_step (by repeat (first | (with_reducible first | exact HB.out | apply below_alloc | apply pw_below_drewN | apply below_drew1 | refine below_set ?_ GE344.out | refine below_set ?_ GE346.out) | exact HB.out)) hb); have n4_ := Aside0.mk (hbox); have n5_ := Aside0.mk ((by rw [hg]; exact (below_size (by repeat (first | (with_reducible first | exact HB.out | apply below_alloc | apply pw_below_drewN | apply below_drew1 | refine below_set ?_ GE344.out | refine below_set ?_ GE346.out) | exact HB.out))) : w.heap.size ≤ gb348)); have n6_ := Aside0.mk ((by rw [hg]; exact (below_size (by repeat (first | (with_reducible first | exact HB.out | apply below_alloc | apply pw_below_drewN | apply below_drew1 | refine below_set ?_ GE344.out | refine below_set ?_ GE346.out) | exact HB.out))) : w.heap.size ≤ gb348)); have n7_ := Aside0.mk ((by rw [hg]; exact Nat.ne_of_lt (blk_lt (g := gb344) (o := .cells #[.bool false, .slice A0_1 l0_1.length c0_1, .slice (some ad345) l0_2.length c0_2] 26 (0, 0)) (by (with_reducible repeat (first | refine blk_drewN ?_ _ | refine blk_drew ?_ | refine blk_alloc ?_ _)); exact BK344.out)) : gb344 ≠ gb348)); have n8_ := Aside0.mk ((by rw [hg]; exact Nat.ne_of_gt (blk_lt (g := gb344) (o := .cells #[.bool false, .slice A0_1 l0_1.length c0_1, .slice (some ad345) l0_2.length c0_2] 26 (0, 0)) (by (with_reducible repeat (first | refine blk_drewN ?_ _ | refine blk_drew ?_ | refine blk_alloc ?_ _)); exact BK344.out)) : gb348 ≠ gb344)); have n9_ := Aside0.mk ((by rw [hg]; exact Nat.ne_of_lt (blk_lt (g := gb346) (o := .cells #[.int .i64 ((rd_T29 l0_2 x4_1).f0), .int .i64 ((rd_T29 l0_2 x4_1).f1), .int .i64 ((rd_T29 l0_2 x4_1).f2)] 29 (0, 0)) (by (with_reducible repeat (first | refine blk_drewN ?_ _ | refine blk_drew ?_ | refine blk_alloc ?_ _)); exact BK346.out)) : gb346 ≠ gb348)); have n10_ := Aside0.mk ((by rw [hg]; exact Nat.ne_of_gt (blk_lt (g := gb346) (o := .cells #[.int .i64 ((rd_T29 l0_2 x4_1).f0), .int .i64 ((rd_T29 l0_2 x4_1).f1), .int .i64 ((rd_T29 l0_2 x4_1).f2)] 29 (0, 0)) (by (with_reducible repeat (first | refine blk_drewN ?_ _ | refine blk_drew ?_ | refine blk_alloc ?_ _)); exact BK346.out)) : gb348 ≠ gb346)); clear HO_3; clear BK344; clear BK346; clear HB; have HO_3 := n0_; have BK344 := n1_; have BK346 := n2_; have HB := n3_; have BK348 := n4_; have GW348 := n5_; have GE348 := n6_; have NB344_348 := n7_; have NB348_344 := n8_; have NB346_348 := n9_; have NB348_346 := n10_; clear n0_ n1_ n2_ n3_ n4_ n5_ n6_ n7_ n8_ n9_ n10_; clear hb hbox hg; have hnb85 := NB348_344.out; have hnc85 := NB344_348.out; have hnb86 := NB348_346.out; have hnc86 := NB346_348.out; have hcz87_0 : w84.cell? ⟨gb348, 0, none⟩ = some (.int .i64 0) := (blk_cell BK348.out 0).trans rfl; have hcz87_1 : w84.cell? ⟨gb348, 1, none⟩ = some (.int .i64 0) := (blk_cell BK348.out 1).trans rfl; have hcz87_2 : w84.cell? ⟨gb348, 2, none⟩ = some (.int .i64 0) := (blk_cell BK348.out 2).trans rfl; have hfz87_0 := blk_frozen BK348.out 0; have hfz87_1 := blk_frozen BK348.out 1; have hfz87_2 := blk_frozen BK348.out 2; have hcz88_0 : w84.cell? ⟨gb346, 0, none⟩ = some (.int .i64 ((rd_T29 l0_2 x4_1).f0)) := (blk_cell BK346.out 0).trans rfl; have hcz88_1 : w84.cell? ⟨gb346, 1, none⟩ = some (.int .i64 ((rd_T29 l0_2 x4_1).f1)) := (blk_cell BK346.out 1).trans rfl; have hcz88_2 : w84.cell? ⟨gb346, 2, none⟩ = some (.int .i64 ((rd_T29 l0_2 x4_1).f2)) := (blk_cell BK346.out 2).trans rfl; have hfz88_0 := blk_frozen BK346.out 0; have hfz88_1 := blk_frozen BK346.out 1; have hfz88_2 := blk_frozen BK346.out 2; have hcz89_0 : w84.cell? ⟨gb344, 0, none⟩ = some (.bool false) := (blk_cell BK344.out 0).trans rfl; have hcz89_1 : w84.cell? ⟨gb344, 1, none⟩ = some (.slice A0_1 l0_1.length c0_1) := (blk_cell BK344.out 1).trans rfl; have hcz89_2 : w84.cell? ⟨gb344, 2, none⟩ = some (.slice (some ad345) l0_2.length c0_2) := (blk_cell BK344.out 2).trans rfl; have hfz89_0 := blk_frozen BK344.out 0; have hfz89_1 := blk_frozen BK344.out 1; have hfz89_2 := blk_frozen BK344.out 2))
            go_roundg k2
            case measure => have := HK1.out; have := HK2.out; omega
            case rel => exact ⟨(x6_2), (wrap64 (x7_2 + 1)), (by first | rfl | (simp; done) | (simp [*]; done)), (by first | rfl | (simp; done) | (simp [*]; done)), H', ⟨by have := HK1.out; have := HK2.out; omega⟩, ⟨by (with_reducible repeat (first | apply Kd.R_alloc | apply Kd.R_drewN | apply Kd.R_drew)); exact Kd.R_mono (Kd.R_far (p := ⟨gb348, 2, none⟩) (Kd.R_far (p := ⟨gb348, 1, none⟩) (Kd.R_far (p := ⟨gb348, 0, none⟩) (Kd.R_types HO_3.out BK348.out (by decide)) (fun _ hk => hk.2) (.int .i64 ((rd_T29 l0_2 x7_2).f0))) (fun _ hk => hk.2) (.int .i64 ((rd_T29 l0_2 x7_2).f1))) (fun _ hk => hk.2) (.int .i64 ((rd_T29 l0_2 x7_2).f2))) (fun _ hk => trivial)⟩, ⟨by (with_reducible repeat (first | refine blk_drewN ?_ _ | refine blk_drew ?_ | refine blk_alloc ?_ _)); refine blk_far ?_ NB344_348.out _; (with_reducible repeat (first | refine blk_drewN ?_ _ | refine blk_drew ?_ | refine blk_alloc ?_ _)); refine blk_far ?_ NB344_348.out _; (with_reducible repeat (first | refine blk_drewN ?_ _ | refine blk_drew ?_ | refine blk_alloc ?_ _)); refine blk_far ?_ NB344_348.out _; (with_reducible repeat (first | refine blk_drewN ?_ _ | refine blk_drew ?_ | refine blk_alloc ?_ _)); exact BK344.out⟩, ⟨by (with_reducible repeat (first | refine blk_drewN ?_ _ | refine blk_drew ?_ | refine blk_alloc ?_ _)); refine blk_far ?_ NB346_348.out _; (with_reducible repeat (first | refine blk_drewN ?_ _ | refine blk_drew ?_ | refine blk_alloc ?_ _)); refine blk_far ?_ NB346_348.out _; (with_reducible repeat (first | refine blk_drewN ?_ _ | refine blk_drew ?_ | refine blk_alloc ?_ _)); refine blk_far ?_ NB346_348.out _; (with_reducible repeat (first | refine blk_drewN ?_ _ | refine blk_drew ?_ | refine blk_alloc ?_ _)); exact BK346.out⟩, ⟨by repeat (first | (with_reducible first | exact HB.out | apply below_alloc | apply pw_below_drewN | apply below_drew1 | refine below_set ?_ GE344.out | refine below_set ?_ GE346.out | refine below_set ?_ GE348.out) | exact HB.out)⟩⟩
        ·rw [if_neg c10] at H
         exact absurd H (by simp)
       ·rw [if_neg c9] at H
        have c9b0 : decide (x7_2 < (l0_2.length : Int)) = false := decide_eq_false c9
        clear c9
        by_cases c90 : x6_2 = true
        ·subst c90
         have H1 : (if x3_1.length < 5864062014805 then ((some (x3_1 ++ [(⟨((rd_T29 l0_2 x4_1).f0), ((rd_T29 l0_2 x4_1).f1), ((rd_T29 l0_2 x4_1).f2)⟩ : S54)] : List (S54))).bind fun y349 => (if a0_0 = true then (laws_hops.l0 k2 y349 (wrap64 (x4_1 + 1)) a0_0 l0_1 l0_2) else (if y349.length < 5864062014805 then (laws_hops.l0 k2 (y349 ++ [(⟨((rd_T29 l0_2 x4_1).f1), ((rd_T29 l0_2 x4_1).f0), ((rd_T29 l0_2 x4_1).f2)⟩ : S54)]) (wrap64 (x4_1 + 1)) a0_0 l0_1 l0_2) else (none)))) else (none)) = some r := by rw [if_pos rfl] at H; exact H
         clear H
         have H := H1
         clear H1
         by_cases c91 : x3_1.length < 5864062014805
         ·rw [if_pos c91] at H
          have LMc91 := Aside0.mk c91
          clear c91
          obtain ⟨y349, hy349⟩ : ∃ y_ : List (S54), y_ = (x3_1 ++ [(⟨((rd_T29 l0_2 x4_1).f0), ((rd_T29 l0_2 x4_1).f1), ((rd_T29 l0_2 x4_1).f2)⟩ : S54)]) := ⟨_, rfl⟩
          replace H : (if a0_0 = true then (laws_hops.l0 k2 y349 (wrap64 (x4_1 + 1)) a0_0 l0_1 l0_2) else (if y349.length < 5864062014805 then (laws_hops.l0 k2 (y349 ++ [(⟨((rd_T29 l0_2 x4_1).f1), ((rd_T29 l0_2 x4_1).f0), ((rd_T29 l0_2 x4_1).f2)⟩ : S54)]) (wrap64 (x4_1 + 1)) a0_0 l0_1 l0_2) else (none))) = some r := by first | (rw [hy349]; with_reducible exact H) | (have H2_ := (Option.bind_some _ _).symm.trans H; rw [hy349]; with_reducible exact H2_) | (have H2_ := (Option.bind_some _ _).symm.trans H; with_reducible exact H2_) | with_reducible exact H | (rw [hy349]; exact H) | exact H
          have Ny349 := Aside0.mk hy349
          clear hy349
          by_cases c92 : a0_0 = true
          ·subst c92
           have H1 : (laws_hops.l0 k2 y349 (wrap64 (x4_1 + 1)) true l0_1 l0_2) = some r := by rw [if_pos rfl] at H; exact H
           clear H
           have H := H1
           clear H1
           have H' := Aside0.mk H
           clear H
           have hnb93 := NB344_346.out
           have hnc93 := NB346_344.out
           have hcz94_0 : wr.cell? ⟨gb344, 0, none⟩ = some (.bool true) := (blk_cell BK344.out 0).trans rfl
           have hcz94_1 : wr.cell? ⟨gb344, 1, none⟩ = some (.slice A0_1 l0_1.length c0_1) := (blk_cell BK344.out 1).trans rfl
           have hcz94_2 : wr.cell? ⟨gb344, 2, none⟩ = some (.slice (some ad345) l0_2.length c0_2) := (blk_cell BK344.out 2).trans rfl
           have hfz94_0 := blk_frozen BK344.out 0
           have hfz94_1 := blk_frozen BK344.out 1
           have hfz94_2 := blk_frozen BK344.out 2
           have hcz95_0 : wr.cell? ⟨gb346, 0, none⟩ = some (.int .i64 ((rd_T29 l0_2 x4_1).f0)) := (blk_cell BK346.out 0).trans rfl
           have hcz95_1 : wr.cell? ⟨gb346, 1, none⟩ = some (.int .i64 ((rd_T29 l0_2 x4_1).f1)) := (blk_cell BK346.out 1).trans rfl
           have hcz95_2 : wr.cell? ⟨gb346, 2, none⟩ = some (.int .i64 ((rd_T29 l0_2 x4_1).f2)) := (blk_cell BK346.out 2).trans rfl
           have hfz95_0 := blk_frozen BK346.out 0
           have hfz95_1 := blk_frozen BK346.out 1
           have hfz95_2 := blk_frozen BK346.out 2
           go_wp2_with (first | ((with_reducible refine gate_builtin (b := .append) (xs := #[.tmp 68, .tmp 76]) rfl ?_); at_builtin; refine Kd.R_append k54 (w0 := w) w.heap.size rfl (.tmp 68) (.tmp 76) 39 54 (.agg #[(.int .i64 0), (.int .i64 0), (.int .i64 0)]) 24 rfl Tryz.underlying39 info54 rfl (by decide) (by omega) u3 x3_1 (⟨((rd_T29 l0_2 x4_1).f0), ((rd_T29 l0_2 x4_1).f1), ((rd_T29 l0_2 x4_1).f2)⟩ : S54) [.int .i64 ((rd_T29 l0_2 x4_1).f0), .int .i64 ((rd_T29 l0_2 x4_1).f1), .int .i64 ((rd_T29 l0_2 x4_1).f2)] (fun _ => True) (fun _ => False) rfl rfl ?aP (fun _ hk => hk.elim) ?aF ?aO ?aB ?aS ?aL ?_; (case aP => exact k54_mkM _ _ _ (⟨((rd_T29 l0_2 x4_1).f0), ((rd_T29 l0_2 x4_1).f1), ((rd_T29 l0_2 x4_1).f2)⟩ : S54)); (case aB => exact (by repeat (first | (with_reducible first | exact HB.out | apply below_alloc | apply pw_below_drewN | apply below_drew1 | refine below_set ?_ GE344.out | refine below_set ?_ GE346.out) | exact HB.out))); (case aF => exact (fun _ _ => trivial)); (case aO => exact (by (with_reducible repeat (first | apply Kd.R_alloc | apply Kd.R_drewN | apply Kd.R_drew)); exact HO_3.out)); (case aS => exact (below_size (by repeat (first | (with_reducible first | exact HB.out | apply below_alloc | apply pw_below_drewN | apply below_drew1 | refine below_set ?_ GE344.out | refine below_set ?_ GE346.out) | exact HB.out)))); (case aL => have := LMc91.out; omega); intro v350 w96 ho hb hg hat; rw [← Ny349.out] at ho; have n0_ := Aside0.mk (blk_grown (g := gb344) (o := .cells #[.bool true, .slice A0_1 l0_1.length c0_1, .slice (some ad345) l0_2.length c0_2] 26 (0, 0)) (by (with_reducible repeat (first | refine blk_drewN ?_ _ | refine blk_drew ?_ | refine blk_alloc ?_ _)); exact BK344.out) hg (Kd.R_ne HO_3.out BK344.out (by decide))); have n1_ := Aside0.mk (blk_grown (g := gb346) (o := .cells #[.int .i64 ((rd_T29 l0_2 x4_1).f0), .int .i64 ((rd_T29 l0_2 x4_1).f1), .int .i64 ((rd_T29 l0_2 x4_1).f2)] 29 (0, 0)) (by (with_reducible repeat (first | refine blk_drewN ?_ _ | refine blk_drew ?_ | refine blk_alloc ?_ _)); exact BK346.out) hg (Kd.R_ne HO_3.out BK346.out (by decide))); have n2_ := Aside0.mk (hb); have n3_ := Aside0.mk (ho); clear BK344; clear BK346; clear HB; clear HO_3; have BK344 := n0_; have BK346 := n1_; have HB := n2_; have HO351 := n3_; clear n0_ n1_ n2_ n3_; clear ho hb hg hat; have hcz97_0 : w96.cell? ⟨gb344, 0, none⟩ = some (.bool true) := (blk_cell BK344.out 0).trans rfl; have hcz97_1 : w96.cell? ⟨gb344, 1, none⟩ = some (.slice A0_1 l0_1.length c0_1) := (blk_cell BK344.out 1).trans rfl; have hcz97_2 : w96.cell? ⟨gb344, 2, none⟩ = some (.slice (some ad345) l0_2.length c0_2) := (blk_cell BK344.out 2).trans rfl; have hfz97_0 := blk_frozen BK344.out 0; have hfz97_1 := blk_frozen BK344.out 1; have hfz97_2 := blk_frozen BK344.out 2))
           go_roundg k2
           case measure => have := HK1.out; have := HK2.out; omega
           case rel => exact ⟨(y349), (wrap64 (x4_1 + 1)), (by first | rfl | (simp; done) | (simp [*]; done)), H', ⟨by have := HK1.out; have := HK2.out; omega⟩, ⟨by (with_reducible repeat (first | apply Kd.R_alloc | apply Kd.R_drewN | apply Kd.R_drew)); exact HO351.out⟩, ⟨by (with_reducible repeat (first | refine blk_drewN ?_ _ | refine blk_drew ?_ | refine blk_alloc ?_ _)); exact BK344.out⟩, ⟨by repeat (first | (with_reducible first | exact HB.out | apply below_alloc | apply pw_below_drewN | apply below_drew1 | refine below_set ?_ GE344.out | refine below_set ?_ GE346.out) | exact HB.out)⟩⟩
          ·replace c92 := Bool.eq_false_iff.mpr c92
           subst c92
           have H1 : (if y349.length < 5864062014805 then (laws_hops.l0 k2 (y349 ++ [(⟨((rd_T29 l0_2 x4_1).f1), ((rd_T29 l0_2 x4_1).f0), ((rd_T29 l0_2 x4_1).f2)⟩ : S54)]) (wrap64 (x4_1 + 1)) false l0_1 l0_2) else (none)) = some r := by rw [if_neg (show ¬ (false = true) by decide)] at H; exact H
           clear H
           have H := H1
           clear H1
           by_cases c98 : y349.length < 5864062014805
           ·rw [if_pos c98] at H
            have LMc98 := Aside0.mk c98
            clear c98
            obtain ⟨y352, hy352⟩ : ∃ y_ : List (S54), y_ = (y349 ++ [(⟨((rd_T29 l0_2 x4_1).f1), ((rd_T29 l0_2 x4_1).f0), ((rd_T29 l0_2 x4_1).f2)⟩ : S54)]) := ⟨_, rfl⟩
            replace H : (laws_hops.l0 k2 y352 (wrap64 (x4_1 + 1)) false l0_1 l0_2) = some r := by first | (rw [hy352]; with_reducible exact H) | (have H2_ := (Option.bind_some _ _).symm.trans H; rw [hy352]; with_reducible exact H2_) | (have H2_ := (Option.bind_some _ _).symm.trans H; with_reducible exact H2_) | with_reducible exact H | (rw [hy352]; exact H) | exact H
            have Ny352 := Aside0.mk hy352
            clear hy352
            have H' := Aside0.mk H
            clear H
            have hnb99 := NB344_346.out
            have hnc99 := NB346_344.out
            have hcz100_0 : wr.cell? ⟨gb344, 0, none⟩ = some (.bool false) := (blk_cell BK344.out 0).trans rfl
            have hcz100_1 : wr.cell? ⟨gb344, 1, none⟩ = some (.slice A0_1 l0_1.length c0_1) := (blk_cell BK344.out 1).trans rfl
            have hcz100_2 : wr.cell? ⟨gb344, 2, none⟩ = some (.slice (some ad345) l0_2.length c0_2) := (blk_cell BK344.out 2).trans rfl
            have hfz100_0 := blk_frozen BK344.out 0
            have hfz100_1 := blk_frozen BK344.out 1
            have hfz100_2 := blk_frozen BK344.out 2
            have hcz101_0 : wr.cell? ⟨gb346, 0, none⟩ = some (.int .i64 ((rd_T29 l0_2 x4_1).f0)) := (blk_cell BK346.out 0).trans rfl
            have hcz101_1 : wr.cell? ⟨gb346, 1, none⟩ = some (.int .i64 ((rd_T29 l0_2 x4_1).f1)) := (blk_cell BK346.out 1).trans rfl
            have hcz101_2 : wr.cell? ⟨gb346, 2, none⟩ = some (.int .i64 ((rd_T29 l0_2 x4_1).f2)) := (blk_cell BK346.out 2).trans rfl
            have hfz101_0 := blk_frozen BK346.out 0
            have hfz101_1 := blk_frozen BK346.out 1
            have hfz101_2 := blk_frozen BK346.out 2
            go_wp2_with (first | ((with_reducible refine gate_builtin (b := .append) (xs := #[.tmp 68, .tmp 76]) rfl ?_); at_builtin; refine Kd.R_append k54 (w0 := w) w.heap.size rfl (.tmp 68) (.tmp 76) 39 54 (.agg #[(.int .i64 0), (.int .i64 0), (.int .i64 0)]) 24 rfl Tryz.underlying39 info54 rfl (by decide) (by omega) u3 x3_1 (⟨((rd_T29 l0_2 x4_1).f0), ((rd_T29 l0_2 x4_1).f1), ((rd_T29 l0_2 x4_1).f2)⟩ : S54) [.int .i64 ((rd_T29 l0_2 x4_1).f0), .int .i64 ((rd_T29 l0_2 x4_1).f1), .int .i64 ((rd_T29 l0_2 x4_1).f2)] (fun _ => True) (fun _ => False) rfl rfl ?aP (fun _ hk => hk.elim) ?aF ?aO ?aB ?aS ?aL ?_; (case aP => exact k54_mkM _ _ _ (⟨((rd_T29 l0_2 x4_1).f0), ((rd_T29 l0_2 x4_1).f1), ((rd_T29 l0_2 x4_1).f2)⟩ : S54)); (case aB => exact (by repeat (first | (with_reducible first | exact HB.out | apply below_alloc | apply pw_below_drewN | apply below_drew1 | refine below_set ?_ GE344.out | refine below_set ?_ GE346.out) | exact HB.out))); (case aF => exact (fun _ _ => trivial)); (case aO => exact (by (with_reducible repeat (first | apply Kd.R_alloc | apply Kd.R_drewN | apply Kd.R_drew)); exact HO_3.out)); (case aS => exact (below_size (by repeat (first | (with_reducible first | exact HB.out | apply below_alloc | apply pw_below_drewN | apply below_drew1 | refine below_set ?_ GE344.out | refine below_set ?_ GE346.out) | exact HB.out)))); (case aL => have := LMc91.out; omega); intro v350 w102 ho hb hg hat; rw [← Ny349.out] at ho; have n0_ := Aside0.mk (blk_grown (g := gb344) (o := .cells #[.bool false, .slice A0_1 l0_1.length c0_1, .slice (some ad345) l0_2.length c0_2] 26 (0, 0)) (by (with_reducible repeat (first | refine blk_drewN ?_ _ | refine blk_drew ?_ | refine blk_alloc ?_ _)); exact BK344.out) hg (Kd.R_ne HO_3.out BK344.out (by decide))); have n1_ := Aside0.mk (blk_grown (g := gb346) (o := .cells #[.int .i64 ((rd_T29 l0_2 x4_1).f0), .int .i64 ((rd_T29 l0_2 x4_1).f1), .int .i64 ((rd_T29 l0_2 x4_1).f2)] 29 (0, 0)) (by (with_reducible repeat (first | refine blk_drewN ?_ _ | refine blk_drew ?_ | refine blk_alloc ?_ _)); exact BK346.out) hg (Kd.R_ne HO_3.out BK346.out (by decide))); have n2_ := Aside0.mk (hb); have n3_ := Aside0.mk (ho); clear BK344; clear BK346; clear HB; clear HO_3; have BK344 := n0_; have BK346 := n1_; have HB := n2_; have HO351 := n3_; clear n0_ n1_ n2_ n3_; clear ho hb hg hat; have hcz103_0 : w102.cell? ⟨gb344, 0, none⟩ = some (.bool false) := (blk_cell BK344.out 0).trans rfl; have hcz103_1 : w102.cell? ⟨gb344, 1, none⟩ = some (.slice A0_1 l0_1.length c0_1) := (blk_cell BK344.out 1).trans rfl; have hcz103_2 : w102.cell? ⟨gb344, 2, none⟩ = some (.slice (some ad345) l0_2.length c0_2) := (blk_cell BK344.out 2).trans rfl; have hfz103_0 := blk_frozen BK344.out 0; have hfz103_1 := blk_frozen BK344.out 1; have hfz103_2 := blk_frozen BK344.out 2; have hcz104_0 : w102.cell? ⟨gb346, 0, none⟩ = some (.int .i64 ((rd_T29 l0_2 x4_1).f0)) := (blk_cell BK346.out 0).trans rfl; have hcz104_1 : w102.cell? ⟨gb346, 1, none⟩ = some (.int .i64 ((rd_T29 l0_2 x4_1).f1)) := (blk_cell BK346.out 1).trans rfl; have hcz104_2 : w102.cell? ⟨gb346, 2, none⟩ = some (.int .i64 ((rd_T29 l0_2 x4_1).f2)) := (blk_cell BK346.out 2).trans rfl; have hfz104_0 := blk_frozen BK346.out 0; have hfz104_1 := blk_frozen BK346.out 1; have hfz104_2 := blk_frozen BK346.out 2) | ((with_reducible refine gate_builtin (b := .append) (xs := #[.tmp 81, .tmp 89]) rfl ?_); at_builtin; refine Kd.R_append k54 (w0 := w) w.heap.size rfl (.tmp 81) (.tmp 89) 39 54 (.agg #[(.int .i64 0), (.int .i64 0), (.int .i64 0)]) 24 rfl Tryz.underlying39 info54 rfl (by decide) (by omega) v350 y349 (⟨((rd_T29 l0_2 x4_1).f1), ((rd_T29 l0_2 x4_1).f0), ((rd_T29 l0_2 x4_1).f2)⟩ : S54) [.int .i64 ((rd_T29 l0_2 x4_1).f1), .int .i64 ((rd_T29 l0_2 x4_1).f0), .int .i64 ((rd_T29 l0_2 x4_1).f2)] (fun _ => True) (fun _ => False) rfl rfl ?aP (fun _ hk => hk.elim) ?aF ?aO ?aB ?aS ?aL ?_; (case aP => exact k54_mkM _ _ _ (⟨((rd_T29 l0_2 x4_1).f1), ((rd_T29 l0_2 x4_1).f0), ((rd_T29 l0_2 x4_1).f2)⟩ : S54)); (case aB => exact (by repeat (first | (with_reducible first | exact HB.out | apply below_alloc | apply pw_below_drewN | apply below_drew1 | refine below_set ?_ GE344.out | refine below_set ?_ GE346.out) | exact HB.out))); (case aF => exact (fun _ _ => trivial)); (case aO => exact (by (with_reducible repeat (first | apply Kd.R_alloc | apply Kd.R_drewN | apply Kd.R_drew)); exact HO351.out)); (case aS => exact (below_size (by repeat (first | (with_reducible first | exact HB.out | apply below_alloc | apply pw_below_drewN | apply below_drew1 | refine below_set ?_ GE344.out | refine below_set ?_ GE346.out) | exact HB.out)))); (case aL => have := LMc98.out; omega); intro v353 w105 ho hb hg hat; rw [← Ny352.out] at ho; have n0_ := Aside0.mk (blk_grown (g := gb344) (o := .cells #[.bool false, .slice A0_1 l0_1.length c0_1, .slice (some ad345) l0_2.length c0_2] 26 (0, 0)) (by (with_reducible repeat (first | refine blk_drewN ?_ _ | refine blk_drew ?_ | refine blk_alloc ?_ _)); exact BK344.out) hg (Kd.R_ne HO351.out BK344.out (by decide))); have n1_ := Aside0.mk (blk_grown (g := gb346) (o := .cells #[.int .i64 ((rd_T29 l0_2 x4_1).f0), .int .i64 ((rd_T29 l0_2 x4_1).f1), .int .i64 ((rd_T29 l0_2 x4_1).f2)] 29 (0, 0)) (by (with_reducible repeat (first | refine blk_drewN ?_ _ | refine blk_drew ?_ | refine blk_alloc ?_ _)); exact BK346.out) hg (Kd.R_ne HO351.out BK346.out (by decide))); have n2_ := Aside0.mk (hb); have n3_ := Aside0.mk (ho); clear BK344; clear BK346; clear HB; clear HO351; have BK344 := n0_; have BK346 := n1_; have HB := n2_; have HO354 := n3_; clear n0_ n1_ n2_ n3_; clear ho hb hg hat))
            go_roundg k2
            case measure => have := HK1.out; have := HK2.out; omega
            case rel => exact ⟨(y352), (wrap64 (x4_1 + 1)), (by first | rfl | (simp; done) | (simp [*]; done)), H', ⟨by have := HK1.out; have := HK2.out; omega⟩, ⟨by (with_reducible repeat (first | apply Kd.R_alloc | apply Kd.R_drewN | apply Kd.R_drew)); exact HO354.out⟩, ⟨by (with_reducible repeat (first | refine blk_drewN ?_ _ | refine blk_drew ?_ | refine blk_alloc ?_ _)); exact BK344.out⟩, ⟨by repeat (first | (with_reducible first | exact HB.out | apply below_alloc | apply pw_below_drewN | apply below_drew1 | refine below_set ?_ GE344.out | refine below_set ?_ GE346.out) | exact HB.out)⟩⟩
           ·rw [if_neg c98] at H
            exact absurd H (by simp)
         ·rw [if_neg c91] at H
          exact absurd H (by simp)
        ·replace c90 := Bool.eq_false_iff.mpr c90
         subst c90
         have H1 : (laws_hops.l0 k2 x3_1 (wrap64 (x4_1 + 1)) a0_0 l0_1 l0_2) = some r := by rw [if_neg (show ¬ (false = true) by decide)] at H; exact H
         clear H
         have H := H1
         clear H1
         have H' := Aside0.mk H
         clear H
         have hnb106 := NB344_346.out
         have hnc106 := NB346_344.out
         have hcz107_0 : wr.cell? ⟨gb344, 0, none⟩ = some (.bool a0_0) := (blk_cell BK344.out 0).trans rfl
         have hcz107_1 : wr.cell? ⟨gb344, 1, none⟩ = some (.slice A0_1 l0_1.length c0_1) := (blk_cell BK344.out 1).trans rfl
         have hcz107_2 : wr.cell? ⟨gb344, 2, none⟩ = some (.slice (some ad345) l0_2.length c0_2) := (blk_cell BK344.out 2).trans rfl
         have hfz107_0 := blk_frozen BK344.out 0
         have hfz107_1 := blk_frozen BK344.out 1
         have hfz107_2 := blk_frozen BK344.out 2
         go_wp2
         go_roundg k2
         case measure => have := HK1.out; have := HK2.out; omega
         case rel => exact ⟨(x3_1), (wrap64 (x4_1 + 1)), (by first | rfl | (simp; done) | (simp [*]; done)), H', ⟨by have := HK1.out; have := HK2.out; omega⟩, ⟨by (with_reducible repeat (first | apply Kd.R_alloc | apply Kd.R_drewN | apply Kd.R_drew)); exact HO_3.out⟩, ⟨by (with_reducible repeat (first | refine blk_drewN ?_ _ | refine blk_drew ?_ | refine blk_alloc ?_ _)); exact BK344.out⟩, ⟨by repeat (first | (with_reducible first | exact HB.out | apply below_alloc | apply pw_below_drewN | apply below_drew1 | refine below_set ?_ GE344.out | refine below_set ?_ GE346.out) | exact HB.out)⟩⟩
    ·rw [if_neg c4] at H
     exact absurd H (by simp)
   ·rw [if_neg c3] at H
    have c3b0 : decide (x4_1 < (l0_2.length : Int)) = false := decide_eq_false c3
    clear c3
    obtain rfl := Option.some.inj H
    have hcz108_0 : wr.cell? ⟨gb344, 0, none⟩ = some (.bool a0_0) := (blk_cell BK344.out 0).trans rfl
    have hcz108_1 : wr.cell? ⟨gb344, 1, none⟩ = some (.slice A0_1 l0_1.length c0_1) := (blk_cell BK344.out 1).trans rfl
    have hcz108_2 : wr.cell? ⟨gb344, 2, none⟩ = some (.slice A0_2 l0_2.length c0_2) := (blk_cell BK344.out 2).trans rfl
    have hfz108_0 := blk_frozen BK344.out 0
    have hfz108_1 := blk_frozen BK344.out 1
    have hfz108_2 := blk_frozen BK344.out 2
    go_wp2
    go_ret
    exact ⟨_, by first | rfl | (simp [errW_none, errW_some] <;> rfl) | (simp [*, errW_none, errW_some] <;> rfl), by (with_reducible repeat (first | apply Kd.R_alloc | apply Kd.R_drewN | apply Kd.R_drew)); exact HO_3.out, by repeat (first | (with_reducible first | exact HB.out | apply below_alloc | apply pw_below_drewN | apply below_drew1 | refine below_set ?_ GE344.out) | exact HB.out)⟩


end Go.Proofs.YthkmblgehdofmaaGreat.PL
