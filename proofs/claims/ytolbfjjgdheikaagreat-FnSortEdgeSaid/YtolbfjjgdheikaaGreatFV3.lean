/- Printed by a program (the kit's printer, run over contracts that were proved by hand). -/
import Derived.Test.YtolbfjjgdheikaaGreatFV0
import Derived.Test.YtolbfjjgdheikaaGreatFV1
import Derived.Test.YtolbfjjgdheikaaGreatFV2
set_option linter.unusedVariables false
set_option linter.unusedSimpArgs false
namespace Go.Proofs.YtolbfjjgdheikaaGreat.PL
open Go.RowKit Go.Proofs.YtolbfjjgdheikaaGreatW.PrintWords Go.Proofs.YtolbfjjgdheikaaGreatW.PrintLast Go.Proofs.YtolbfjjgdheikaaGreatW.PrintMore
attribute [local go_sem] max2_int min2_int max_two min_two max_three min_three max_four min_four   -- for this text's walks alone

/-! ### laws_well: function 51 -/
def laws_well.l0 : Nat → Int → Bool → List Int → List (S34) → Option (Bool)
  | 0, _, _, _, _ => none
  | k + 1, x3, x116000, x116001, x116002 => if x3 < (x116002.length : Int) then (if 0 ≤ x3 then (if ((rd_T34 x116002 x3).f0) = ((rd_T34 x116002 x3).f1) then (some false) else ((laws_has.f k x116001 ((rd_T34 x116002 x3).f0)).bind fun t122 => (if t122 = true then ((laws_has.f k x116001 ((rd_T34 x116002 x3).f1)).bind fun t123 => (if t123 = true then (if ((rd_T34 x116002 x3).f2) > 1099511627776 then (some false) else (if ((rd_T34 x116002 x3).f2) < (-1099511627776) then (some false) else (laws_well.l0 k (wrap64 (x3 + 1)) x116000 x116001 x116002))) else (some false))) else (some false)))) else (none)) else (some true)
def laws_well.f (k : Nat) (a0_0 : Bool) (l0_1 : List Int) (l0_2 : List (S34)) : Option (Bool) := (laws_sorted.f k l0_1).bind fun t116 => ((laws_rising.f k t116).bind fun t119 => (if t119 = true then (laws_well.l0 k 0 a0_0 l0_1 l0_2) else (some false)))
set_option maxHeartbeats 8000000 in
set_option maxRecDepth 100000 in
theorem laws_well.calls (k : Nat) (a0_0 : Bool) (A0_1 : Option Addr) (c0_1 : Nat) (l0_1 : List Int) (A0_2 : Option Addr) (c0_2 : Nat) (l0_2 : List (S34)) (r : Bool) (w : World) (hr0_1 : Kd.C (Kd.int .i64) w A0_1 l0_1.length l0_1) (hc0_1 : l0_1.length ≤ c0_1) (hr0_2 : Kd.C k34 w A0_2 l0_2.length l0_2) (hc0_2 : l0_2.length ≤ c0_2) (h : laws_well.f k a0_0 l0_1 l0_2 = some r) :
    Calls Tryz.prog 51 #[.agg #[.bool a0_0, .slice A0_1 l0_1.length c0_1, .slice A0_2 l0_2.length c0_2]] w fun e w' => e = .returned (.bool r) ∧ Below w.heap.size w w' := by
  have hu25 := Tryz.underlying25
  have hu34 := Tryz.underlying34
  have HR0_1 := Aside0.mk hr0_1
  have HC0_1 := Aside0.mk hc0_1
  clear hr0_1 hc0_1
  have HR0_2 := Aside0.mk hr0_2
  have HC0_2 := Aside0.mk hc0_2
  clear hr0_2 hc0_2
  have HB := Aside0.mk (Below.refl w.heap.size w)
  have H : ((laws_sorted.f k l0_1).bind fun t116 => ((laws_rising.f k t116).bind fun t119 => (if t119 = true then (laws_well.l0 k 0 a0_0 l0_1 l0_2) else (some false)))) = some r := h
  clear h
  replace H := Option.bind_eq_some_iff.mp H
  obtain ⟨t116, A20, H⟩ := H
  replace H : ((laws_rising.f k t116).bind fun t119 => (if t119 = true then (laws_well.l0 k 0 a0_0 l0_1 l0_2) else (some false))) = some r := H
  have A2 := Aside0.mk A20
  clear A20
  replace H := Option.bind_eq_some_iff.mp H
  obtain ⟨t119, A30, H⟩ := H
  replace H : (if t119 = true then (laws_well.l0 k 0 a0_0 l0_1 l0_2) else (some false)) = some r := H
  have A3 := Aside0.mk A30
  clear A30
  by_cases c4 : t119 = true
  · subst c4
    have H1 : (laws_well.l0 k 0 a0_0 l0_1 l0_2) = some r := by rw [if_pos rfl] at H; exact H
    clear H
    have H := H1
    clear H1
    have H' := Aside0.mk H
    clear H
    go_enter Tryz.func51, Tryz.ntmps51
    go_wp2_with (first | ((with_reducible refine gate_dst (N := 1) rfl ?_); refine box_event ?hg (N := 1) ?hd (cs := #[.bool a0_0, .slice A0_1 l0_1.length c0_1, .slice A0_2 l0_2.length c0_2]) (t := 25) ?hr ?_; (case hd => rfl); (case hg => rfl); (case hr => first | (go_simp; done) | (go_simp; rfl)); intro gb115 hg w5 hbox hb; have n0_ := Aside0.mk (below_step (by repeat (first | (with_reducible first | exact HB.out | apply below_alloc | apply pw_below_drewN | apply below_drew1) | exact HB.out)) hb); have n1_ := Aside0.mk (hbox); have n2_ := Aside0.mk ((by rw [hg]; exact (below_size (by repeat (first | (with_reducible first | exact HB.out | apply below_alloc | apply pw_below_drewN | apply below_drew1) | exact HB.out))) : w.heap.size ≤ gb115)); have n3_ := Aside0.mk ((by rw [hg]; exact (below_size (by repeat (first | (with_reducible first | exact HB.out | apply below_alloc | apply pw_below_drewN | apply below_drew1) | exact HB.out))) : w.heap.size ≤ gb115)); clear HB; have HB := n0_; have BK115 := n1_; have GW115 := n2_; have GE115 := n3_; clear n0_ n1_ n2_ n3_; clear hb hbox hg; have hcz6_0 : w5.cell? ⟨gb115, 0, none⟩ = some (.bool a0_0) := (blk_cell BK115.out 0).trans rfl; have hcz6_1 : w5.cell? ⟨gb115, 1, none⟩ = some (.slice A0_1 l0_1.length c0_1) := (blk_cell BK115.out 1).trans rfl; have hcz6_2 : w5.cell? ⟨gb115, 2, none⟩ = some (.slice A0_2 l0_2.length c0_2) := (blk_cell BK115.out 2).trans rfl; have hfz6_0 := blk_frozen BK115.out 0; have hfz6_1 := blk_frozen BK115.out 1; have hfz6_2 := blk_frozen BK115.out 2) | ((with_reducible refine gate_callee (f := 15) rfl ?_); refine goesL_ (some 7) rfl rfl Tryz.func15 (by kernel_rfl) rfl #[.slice A0_1 l0_1.length c0_1] rfl (by (try simp only [List.map_toArray, List.map_cons, List.map_nil]); first | done | rfl | (simp only [List.length_drop, List.length_take]; rfl)) ?_; (with_reducible refine (laws_sorted.calls k _ _ l0_1 t116 _ ?side1 ?side2 A2.out).mono ?_); (case side1 => repeat (first | exact (Kd.C_below HR0_1.out HB.out) | (with_reducible refine Kd.C_alloc ?_ _) | (with_reducible refine Kd.C_drewN ?_ _) | (with_reducible refine Kd.C_drew ?_))); (case side2 => exact HC0_1.out); rintro e w7 ⟨v117, rfl, ho0, hb⟩; refine ⟨_, rfl, ?_⟩; have n0_ := Aside0.mk (Kd.R_lower ho0 (below_size (by repeat (first | (with_reducible first | exact HB.out | apply below_alloc | apply pw_below_drewN | apply below_drew1 | refine below_set ?_ GE115.out) | exact HB.out)))); have n1_ := Aside0.mk (blk_below (g := gb115) (o := .cells #[.bool a0_0, .slice A0_1 l0_1.length c0_1, .slice A0_2 l0_2.length c0_2] 25 (0, 0)) (by (with_reducible repeat (first | refine blk_drewN ?_ _ | refine blk_drew ?_ | refine blk_alloc ?_ _)); exact BK115.out) hb); have n2_ := Aside0.mk (below_step (by repeat (first | (with_reducible first | exact HB.out | apply below_alloc | apply pw_below_drewN | apply below_drew1 | refine below_set ?_ GE115.out) | exact HB.out)) hb); clear BK115; clear HB; have HO118 := n0_; have BK115 := n1_; have HB := n2_; clear n0_ n1_ n2_; (try clear hb); (try clear hb2); (try clear hk); (try clear hi); (try clear ho0); obtain ⟨Ao8, co8, eo8⟩ := Kd.R_slice HO118.out; subst eo8) | ((with_reducible refine gate_callee (f := 72) rfl ?_); refine goesL_ (some 8) rfl rfl Tryz.func72 (by kernel_rfl) rfl #[.slice Ao8 t116.length co8] rfl (by (try simp only [List.map_toArray, List.map_cons, List.map_nil]); first | done | rfl | (simp only [List.length_drop, List.length_take]; rfl)) ?_; (with_reducible refine (laws_rising.calls k _ _ t116 true _ ?side1 ?side2 A3.out).mono ?_); (case side1 => repeat (first | exact (Kd.R_reads' HO118.out).2.2 | (with_reducible refine Kd.C_alloc ?_ _) | (with_reducible refine Kd.C_drewN ?_ _) | (with_reducible refine Kd.C_drew ?_))); (case side2 => exact (Kd.R_reads' HO118.out).2.1); rintro e w' ⟨rfl, ⟨nd, rfl⟩⟩; refine ⟨_, rfl, ?_⟩))
    go_loopg [3] k (fun kq v3 w' => ∃ (x3_1 : Int), v3 = .int .i64 x3_1 ∧ Aside0 (laws_well.l0 kq x3_1 a0_0 l0_1 l0_2 = some r) ∧ Aside0 (kq ≤ k) ∧ Aside0 (w'.heap[gb115]? = some (.cells #[.bool a0_0, (.slice A0_1 l0_1.length c0_1), (.slice A0_2 l0_2.length c0_2)] 25 (0, 0))) ∧ Aside0 (Below w.heap.size w w'))
    case atStart => exact ⟨(0), (by first | rfl | (simp; done) | (simp [*]; done)), H', ⟨Nat.le_refl _⟩, ⟨by (with_reducible repeat (first | refine blk_drewN ?_ _ | refine blk_drew ?_ | refine blk_alloc ?_ _)); exact BK115.out⟩, ⟨by repeat (first | (with_reducible first | exact HB.out | apply below_alloc | apply pw_below_drewN | apply below_drew1 | refine below_set ?_ GE115.out) | exact HB.out)⟩⟩
    case round =>
      clear H'
      try clear c1
      try clear p2
      try clear c4
      try clear c5
      try clear c7
      try clear hcz6_0
      try clear hcz6_1
      try clear hcz6_2
      try clear hfz6_0
      try clear hfz6_1
      try clear hfz6_2
      obtain ⟨x3_1, rfl, HA, HK1, BK115, HB⟩ := hrel
      cases gk with
      | zero => exact absurd HA.out (by simp [laws_well.l0])
      | succ k1 =>
        have H := HA.out
        clear HA
        simp only [laws_well.l0] at H
        by_cases c9 : x3_1 < (l0_2.length : Int)
        · rw [if_pos c9] at H
          have c9b0 : decide (x3_1 < (l0_2.length : Int)) = true := decide_eq_true c9
          clear c9
          by_cases c10 : 0 ≤ x3_1
          · rw [if_pos c10] at H
            have c10b0 : decide (0 ≤ x3_1) = true := decide_eq_true c10
            clear c10
            by_cases c11 : ((rd_T34 l0_2 x3_1).f0) = ((rd_T34 l0_2 x3_1).f1)
            · rw [if_pos c11] at H
              have c11b0 : (((rd_T34 l0_2 x3_1).f0) == ((rd_T34 l0_2 x3_1).f1)) = true := beq_iff_eq.mpr c11
              have c11b1 : (((rd_T34 l0_2 x3_1).f0) != ((rd_T34 l0_2 x3_1).f1)) = false := bne_eq_false_iff_eq.mpr c11
              clear c11
              obtain rfl := Option.some.inj H
              have hcz12_0 : wr.cell? ⟨gb115, 0, none⟩ = some (.bool a0_0) := (blk_cell BK115.out 0).trans rfl
              have hcz12_1 : wr.cell? ⟨gb115, 1, none⟩ = some (.slice A0_1 l0_1.length c0_1) := (blk_cell BK115.out 1).trans rfl
              have hcz12_2 : wr.cell? ⟨gb115, 2, none⟩ = some (.slice A0_2 l0_2.length c0_2) := (blk_cell BK115.out 2).trans rfl
              have hfz12_0 := blk_frozen BK115.out 0
              have hfz12_1 := blk_frozen BK115.out 1
              have hfz12_2 := blk_frozen BK115.out 2
              have p120 : 0 ≤ (x3_1 : Int) := of_decide_eq_true (by first | (with_reducible assumption) | assumption)
              have q120 : x3_1 < (l0_2.length : Int) := of_decide_eq_true (by first | (with_reducible assumption) | assumption)
              obtain ⟨ad120, e120, hx120_0, hx120_1, hx120_2⟩ := at_T34 HR0_2.out x3_1 p120 q120
              cases e120
              replace hx120_0 := (HB.out.cell (World.block_lt_of_cell? w _ hx120_0)).trans hx120_0
              replace hx120_1 := (HB.out.cell (World.block_lt_of_cell? w _ hx120_1)).trans hx120_1
              replace hx120_2 := (HB.out.cell (World.block_lt_of_cell? w _ hx120_2)).trans hx120_2
              replace p120 := eq_true p120
              replace q120 := eq_true q120
              go_wp2_with (first | ((with_reducible refine gate_dst (N := 4) rfl ?_); refine box_event ?hg (N := 4) ?hd (cs := #[.int .i64 0, .int .i64 0, .int .i64 0]) (t := 34) ?hr ?_; (case hd => rfl); (case hg => rfl); (case hr => first | (go_simp; done) | (go_simp; rfl)); intro gb121 hg w13 hbox hb; have n0_ := Aside0.mk (blk_below (g := gb115) (o := .cells #[.bool a0_0, .slice A0_1 l0_1.length c0_1, .slice (some ad120) l0_2.length c0_2] 25 (0, 0)) (by (with_reducible repeat (first | refine blk_drewN ?_ _ | refine blk_drew ?_ | refine blk_alloc ?_ _)); exact BK115.out) hb); have n1_ := Aside0.mk (below_step (by repeat (first | (with_reducible first | exact HB.out | apply below_alloc | apply pw_below_drewN | apply below_drew1 | refine below_set ?_ GE115.out) | exact HB.out)) hb); have n2_ := Aside0.mk (hbox); have n3_ := Aside0.mk ((by rw [hg]; exact (below_size (by repeat (first | (with_reducible first | exact HB.out | apply below_alloc | apply pw_below_drewN | apply below_drew1 | refine below_set ?_ GE115.out) | exact HB.out))) : w.heap.size ≤ gb121)); have n4_ := Aside0.mk ((by rw [hg]; exact (below_size (by repeat (first | (with_reducible first | exact HB.out | apply below_alloc | apply pw_below_drewN | apply below_drew1 | refine below_set ?_ GE115.out) | exact HB.out))) : w.heap.size ≤ gb121)); have n5_ := Aside0.mk ((by rw [hg]; exact Nat.ne_of_lt (blk_lt (g := gb115) (o := .cells #[.bool a0_0, .slice A0_1 l0_1.length c0_1, .slice (some ad120) l0_2.length c0_2] 25 (0, 0)) (by (with_reducible repeat (first | refine blk_drewN ?_ _ | refine blk_drew ?_ | refine blk_alloc ?_ _)); exact BK115.out)) : gb115 ≠ gb121)); have n6_ := Aside0.mk ((by rw [hg]; exact Nat.ne_of_gt (blk_lt (g := gb115) (o := .cells #[.bool a0_0, .slice A0_1 l0_1.length c0_1, .slice (some ad120) l0_2.length c0_2] 25 (0, 0)) (by (with_reducible repeat (first | refine blk_drewN ?_ _ | refine blk_drew ?_ | refine blk_alloc ?_ _)); exact BK115.out)) : gb121 ≠ gb115)); clear BK115; clear HB; have BK115 := n0_; have HB := n1_; have BK121 := n2_; have GW121 := n3_; have GE121 := n4_; have NB115_121 := n5_; have NB121_115 := n6_; clear n0_ n1_ n2_ n3_ n4_ n5_ n6_; clear hb hbox hg; have hnb14 := NB121_115.out; have hnc14 := NB115_121.out; have hcz15_0 : w13.cell? ⟨gb121, 0, none⟩ = some (.int .i64 0) := (blk_cell BK121.out 0).trans rfl; have hcz15_1 : w13.cell? ⟨gb121, 1, none⟩ = some (.int .i64 0) := (blk_cell BK121.out 1).trans rfl; have hcz15_2 : w13.cell? ⟨gb121, 2, none⟩ = some (.int .i64 0) := (blk_cell BK121.out 2).trans rfl; have hfz15_0 := blk_frozen BK121.out 0; have hfz15_1 := blk_frozen BK121.out 1; have hfz15_2 := blk_frozen BK121.out 2))
              go_ret
              exact ⟨by first | rfl | (simp [errW_none, errW_some] <;> rfl) | (simp [*, errW_none, errW_some] <;> rfl), by repeat (first | (with_reducible first | exact HB.out | apply below_alloc | apply pw_below_drewN | apply below_drew1 | refine below_set ?_ GE115.out | refine below_set ?_ GE121.out) | exact HB.out)⟩
            · rw [if_neg c11] at H
              have c11b0 : (((rd_T34 l0_2 x3_1).f0) == ((rd_T34 l0_2 x3_1).f1)) = false := beq_eq_false_iff_ne.mpr c11
              have c11b1 : (((rd_T34 l0_2 x3_1).f0) != ((rd_T34 l0_2 x3_1).f1)) = true := bne_iff_ne.mpr c11
              replace H := Option.bind_eq_some_iff.mp H
              obtain ⟨t122, A160, H⟩ := H
              replace H : (if t122 = true then ((laws_has.f k1 l0_1 ((rd_T34 l0_2 x3_1).f1)).bind fun t123 => (if t123 = true then (if ((rd_T34 l0_2 x3_1).f2) > 1099511627776 then (some false) else (if ((rd_T34 l0_2 x3_1).f2) < (-1099511627776) then (some false) else (laws_well.l0 k1 (wrap64 (x3_1 + 1)) a0_0 l0_1 l0_2))) else (some false))) else (some false)) = some r := H
              have A16 := Aside0.mk A160
              clear A160
              by_cases c17 : t122 = true
              · subst c17
                have H1 : ((laws_has.f k1 l0_1 ((rd_T34 l0_2 x3_1).f1)).bind fun t123 => (if t123 = true then (if ((rd_T34 l0_2 x3_1).f2) > 1099511627776 then (some false) else (if ((rd_T34 l0_2 x3_1).f2) < (-1099511627776) then (some false) else (laws_well.l0 k1 (wrap64 (x3_1 + 1)) a0_0 l0_1 l0_2))) else (some false))) = some r := by rw [if_pos rfl] at H; exact H
                clear H
                have H := H1
                clear H1
                replace H := Option.bind_eq_some_iff.mp H
                obtain ⟨t123, A180, H⟩ := H
                replace H : (if t123 = true then (if ((rd_T34 l0_2 x3_1).f2) > 1099511627776 then (some false) else (if ((rd_T34 l0_2 x3_1).f2) < (-1099511627776) then (some false) else (laws_well.l0 k1 (wrap64 (x3_1 + 1)) a0_0 l0_1 l0_2))) else (some false)) = some r := H
                have A18 := Aside0.mk A180
                clear A180
                by_cases c19 : t123 = true
                · subst c19
                  have H1 : (if ((rd_T34 l0_2 x3_1).f2) > 1099511627776 then (some false) else (if ((rd_T34 l0_2 x3_1).f2) < (-1099511627776) then (some false) else (laws_well.l0 k1 (wrap64 (x3_1 + 1)) a0_0 l0_1 l0_2))) = some r := by rw [if_pos rfl] at H; exact H
                  clear H
                  have H := H1
                  clear H1
                  by_cases c20 : ((rd_T34 l0_2 x3_1).f2) > 1099511627776
                  · rw [if_pos c20] at H
                    have c20b0 : decide (1099511627776 < ((rd_T34 l0_2 x3_1).f2)) = true := decide_eq_true c20
                    clear c20
                    obtain rfl := Option.some.inj H
                    have hcz21_0 : wr.cell? ⟨gb115, 0, none⟩ = some (.bool a0_0) := (blk_cell BK115.out 0).trans rfl
                    have hcz21_1 : wr.cell? ⟨gb115, 1, none⟩ = some (.slice A0_1 l0_1.length c0_1) := (blk_cell BK115.out 1).trans rfl
                    have hcz21_2 : wr.cell? ⟨gb115, 2, none⟩ = some (.slice A0_2 l0_2.length c0_2) := (blk_cell BK115.out 2).trans rfl
                    have hfz21_0 := blk_frozen BK115.out 0
                    have hfz21_1 := blk_frozen BK115.out 1
                    have hfz21_2 := blk_frozen BK115.out 2
                    have p120 : 0 ≤ (x3_1 : Int) := of_decide_eq_true (by first | (with_reducible assumption) | assumption)
                    have q120 : x3_1 < (l0_2.length : Int) := of_decide_eq_true (by first | (with_reducible assumption) | assumption)
                    obtain ⟨ad120, e120, hx120_0, hx120_1, hx120_2⟩ := at_T34 HR0_2.out x3_1 p120 q120
                    cases e120
                    replace hx120_0 := (HB.out.cell (World.block_lt_of_cell? w _ hx120_0)).trans hx120_0
                    replace hx120_1 := (HB.out.cell (World.block_lt_of_cell? w _ hx120_1)).trans hx120_1
                    replace hx120_2 := (HB.out.cell (World.block_lt_of_cell? w _ hx120_2)).trans hx120_2
                    replace p120 := eq_true p120
                    replace q120 := eq_true q120
                    go_wp2_with (first | ((with_reducible refine gate_dst (N := 4) rfl ?_); refine box_event ?hg (N := 4) ?hd (cs := #[.int .i64 0, .int .i64 0, .int .i64 0]) (t := 34) ?hr ?_; (case hd => rfl); (case hg => rfl); (case hr => first | (go_simp; done) | (go_simp; rfl)); intro gb121 hg w22 hbox hb; have n0_ := Aside0.mk (blk_below (g := gb115) (o := .cells #[.bool a0_0, .slice A0_1 l0_1.length c0_1, .slice (some ad120) l0_2.length c0_2] 25 (0, 0)) (by (with_reducible repeat (first | refine blk_drewN ?_ _ | refine blk_drew ?_ | refine blk_alloc ?_ _)); exact BK115.out) hb); have n1_ := Aside0.mk (below_step (by repeat (first | (with_reducible first | exact HB.out | apply below_alloc | apply pw_below_drewN | apply below_drew1 | refine below_set ?_ GE115.out) | exact HB.out)) hb); have n2_ := Aside0.mk (hbox); have n3_ := Aside0.mk ((by rw [hg]; exact (below_size (by repeat (first | (with_reducible first | exact HB.out | apply below_alloc | apply pw_below_drewN | apply below_drew1 | refine below_set ?_ GE115.out) | exact HB.out))) : w.heap.size ≤ gb121)); have n4_ := Aside0.mk ((by rw [hg]; exact (below_size (by repeat (first | (with_reducible first | exact HB.out | apply below_alloc | apply pw_below_drewN | apply below_drew1 | refine below_set ?_ GE115.out) | exact HB.out))) : w.heap.size ≤ gb121)); have n5_ := Aside0.mk ((by rw [hg]; exact Nat.ne_of_lt (blk_lt (g := gb115) (o := .cells #[.bool a0_0, .slice A0_1 l0_1.length c0_1, .slice (some ad120) l0_2.length c0_2] 25 (0, 0)) (by (with_reducible repeat (first | refine blk_drewN ?_ _ | refine blk_drew ?_ | refine blk_alloc ?_ _)); exact BK115.out)) : gb115 ≠ gb121)); have n6_ := Aside0.mk ((by rw [hg]; exact Nat.ne_of_gt (blk_lt (g := gb115) (o := .cells #[.bool a0_0, .slice A0_1 l0_1.length c0_1, .slice (some ad120) l0_2.length c0_2] 25 (0, 0)) (by (with_reducible repeat (first | refine blk_drewN ?_ _ | refine blk_drew ?_ | refine blk_alloc ?_ _)); exact BK115.out)) : gb121 ≠ gb115)); clear BK115; clear HB; have BK115 := n0_; have HB := n1_; have BK121 := n2_; have GW121 := n3_; have GE121 := n4_; have NB115_121 := n5_; have NB121_115 := n6_; clear n0_ n1_ n2_ n3_ n4_ n5_ n6_; clear hb hbox hg; have hnb23 := NB121_115.out; have hnc23 := NB115_121.out; have hcz24_0 : w22.cell? ⟨gb121, 0, none⟩ = some (.int .i64 0) := (blk_cell BK121.out 0).trans rfl; have hcz24_1 : w22.cell? ⟨gb121, 1, none⟩ = some (.int .i64 0) := (blk_cell BK121.out 1).trans rfl; have hcz24_2 : w22.cell? ⟨gb121, 2, none⟩ = some (.int .i64 0) := (blk_cell BK121.out 2).trans rfl; have hfz24_0 := blk_frozen BK121.out 0; have hfz24_1 := blk_frozen BK121.out 1; have hfz24_2 := blk_frozen BK121.out 2; have hcz25_0 : w22.cell? ⟨gb115, 0, none⟩ = some (.bool a0_0) := (blk_cell BK115.out 0).trans rfl; have hcz25_1 : w22.cell? ⟨gb115, 1, none⟩ = some (.slice A0_1 l0_1.length c0_1) := (blk_cell BK115.out 1).trans rfl; have hcz25_2 : w22.cell? ⟨gb115, 2, none⟩ = some (.slice (some ad120) l0_2.length c0_2) := (blk_cell BK115.out 2).trans rfl; have hfz25_0 := blk_frozen BK115.out 0; have hfz25_1 := blk_frozen BK115.out 1; have hfz25_2 := blk_frozen BK115.out 2) | (go_at_call 9; (with_reducible refine (laws_has.calls k1 _ _ l0_1 ((rd_T34 l0_2 x3_1).f0) true _ ?side1 ?side2 A16.out).mono ?_); (case side1 => exact Kd.C_below HR0_1.out (by repeat (first | (with_reducible first | exact HB.out | apply below_alloc | apply pw_below_drewN | apply below_drew1 | refine below_set ?_ GE115.out | refine below_set ?_ GE121.out) | exact HB.out))); (case side2 => exact HC0_1.out); rintro e w' ⟨rfl, ⟨nd, rfl⟩⟩) | (go_at_call 9; (with_reducible refine (laws_has.calls k1 _ _ l0_1 ((rd_T34 l0_2 x3_1).f1) true _ ?side1 ?side2 A18.out).mono ?_); (case side1 => exact Kd.C_below HR0_1.out (by repeat (first | (with_reducible first | exact HB.out | apply below_alloc | apply pw_below_drewN | apply below_drew1 | refine below_set ?_ GE115.out | refine below_set ?_ GE121.out) | exact HB.out))); (case side2 => exact HC0_1.out); rintro e w' ⟨rfl, ⟨nd, rfl⟩⟩))
                    go_ret
                    exact ⟨by first | rfl | (simp [errW_none, errW_some] <;> rfl) | (simp [*, errW_none, errW_some] <;> rfl), by repeat (first | (with_reducible first | exact HB.out | apply below_alloc | apply pw_below_drewN | apply below_drew1 | refine below_set ?_ GE115.out | refine below_set ?_ GE121.out) | exact HB.out)⟩
                  · rw [if_neg c20] at H
                    have c20b0 : decide (1099511627776 < ((rd_T34 l0_2 x3_1).f2)) = false := decide_eq_false c20
                    clear c20
                    by_cases c26 : ((rd_T34 l0_2 x3_1).f2) < (-1099511627776)
                    · rw [if_pos c26] at H
                      have c26b0 : decide (((rd_T34 l0_2 x3_1).f2) < (-1099511627776)) = true := decide_eq_true c26
                      clear c26
                      obtain rfl := Option.some.inj H
                      have hcz27_0 : wr.cell? ⟨gb115, 0, none⟩ = some (.bool a0_0) := (blk_cell BK115.out 0).trans rfl
                      have hcz27_1 : wr.cell? ⟨gb115, 1, none⟩ = some (.slice A0_1 l0_1.length c0_1) := (blk_cell BK115.out 1).trans rfl
                      have hcz27_2 : wr.cell? ⟨gb115, 2, none⟩ = some (.slice A0_2 l0_2.length c0_2) := (blk_cell BK115.out 2).trans rfl
                      have hfz27_0 := blk_frozen BK115.out 0
                      have hfz27_1 := blk_frozen BK115.out 1
                      have hfz27_2 := blk_frozen BK115.out 2
                      have p120 : 0 ≤ (x3_1 : Int) := of_decide_eq_true (by first | (with_reducible assumption) | assumption)
                      have q120 : x3_1 < (l0_2.length : Int) := of_decide_eq_true (by first | (with_reducible assumption) | assumption)
                      obtain ⟨ad120, e120, hx120_0, hx120_1, hx120_2⟩ := at_T34 HR0_2.out x3_1 p120 q120
                      cases e120
                      replace hx120_0 := (HB.out.cell (World.block_lt_of_cell? w _ hx120_0)).trans hx120_0
                      replace hx120_1 := (HB.out.cell (World.block_lt_of_cell? w _ hx120_1)).trans hx120_1
                      replace hx120_2 := (HB.out.cell (World.block_lt_of_cell? w _ hx120_2)).trans hx120_2
                      replace p120 := eq_true p120
                      replace q120 := eq_true q120
                      go_wp2_with (first | ((with_reducible refine gate_dst (N := 4) rfl ?_); refine box_event ?hg (N := 4) ?hd (cs := #[.int .i64 0, .int .i64 0, .int .i64 0]) (t := 34) ?hr ?_; (case hd => rfl); (case hg => rfl); (case hr => first | (go_simp; done) | (go_simp; rfl)); intro gb121 hg w28 hbox hb; have n0_ := Aside0.mk (blk_below (g := gb115) (o := .cells #[.bool a0_0, .slice A0_1 l0_1.length c0_1, .slice (some ad120) l0_2.length c0_2] 25 (0, 0)) (by (with_reducible repeat (first | refine blk_drewN ?_ _ | refine blk_drew ?_ | refine blk_alloc ?_ _)); exact BK115.out) hb); have n1_ := Aside0.mk (below_step (by repeat (first | (with_reducible first | exact HB.out | apply below_alloc | apply pw_below_drewN | apply below_drew1 | refine below_set ?_ GE115.out) | exact HB.out)) hb); have n2_ := Aside0.mk (hbox); have n3_ := Aside0.mk ((by rw [hg]; exact (below_size (by repeat (first | (with_reducible first | exact HB.out | apply below_alloc | apply pw_below_drewN | apply below_drew1 | refine below_set ?_ GE115.out) | exact HB.out))) : w.heap.size ≤ gb121)); have n4_ := Aside0.mk ((by rw [hg]; exact (below_size (by repeat (first | (with_reducible first | exact HB.out | apply below_alloc | apply pw_below_drewN | apply below_drew1 | refine below_set ?_ GE115.out) | exact HB.out))) : w.heap.size ≤ gb121)); have n5_ := Aside0.mk ((by rw [hg]; exact Nat.ne_of_lt (blk_lt (g := gb115) (o := .cells #[.bool a0_0, .slice A0_1 l0_1.length c0_1, .slice (some ad120) l0_2.length c0_2] 25 (0, 0)) (by (with_reducible repeat (first | refine blk_drewN ?_ _ | refine blk_drew ?_ | refine blk_alloc ?_ _)); exact BK115.out)) : gb115 ≠ gb121)); have n6_ := Aside0.mk ((by rw [hg]; exact Nat.ne_of_gt (blk_lt (g := gb115) (o := .cells #[.bool a0_0, .slice A0_1 l0_1.length c0_1, .slice (some ad120) l0_2.length c0_2] 25 (0, 0)) (by (with_reducible repeat (first | refine blk_drewN ?_ _ | refine blk_drew ?_ | refine blk_alloc ?_ _)); exact BK115.out)) : gb121 ≠ gb115)); clear BK115; clear HB; have BK115 := n0_; have HB := n1_; have BK121 := n2_; have GW121 := n3_; have GE121 := n4_; have NB115_121 := n5_; have NB121_115 := n6_; clear n0_ n1_ n2_ n3_ n4_ n5_ n6_; clear hb hbox hg; have hnb29 := NB121_115.out; have hnc29 := NB115_121.out; have hcz30_0 : w28.cell? ⟨gb121, 0, none⟩ = some (.int .i64 0) := (blk_cell BK121.out 0).trans rfl; have hcz30_1 : w28.cell? ⟨gb121, 1, none⟩ = some (.int .i64 0) := (blk_cell BK121.out 1).trans rfl; have hcz30_2 : w28.cell? ⟨gb121, 2, none⟩ = some (.int .i64 0) := (blk_cell BK121.out 2).trans rfl; have hfz30_0 := blk_frozen BK121.out 0; have hfz30_1 := blk_frozen BK121.out 1; have hfz30_2 := blk_frozen BK121.out 2; have hcz31_0 : w28.cell? ⟨gb115, 0, none⟩ = some (.bool a0_0) := (blk_cell BK115.out 0).trans rfl; have hcz31_1 : w28.cell? ⟨gb115, 1, none⟩ = some (.slice A0_1 l0_1.length c0_1) := (blk_cell BK115.out 1).trans rfl; have hcz31_2 : w28.cell? ⟨gb115, 2, none⟩ = some (.slice (some ad120) l0_2.length c0_2) := (blk_cell BK115.out 2).trans rfl; have hfz31_0 := blk_frozen BK115.out 0; have hfz31_1 := blk_frozen BK115.out 1; have hfz31_2 := blk_frozen BK115.out 2) | (go_at_call 9; (with_reducible refine (laws_has.calls k1 _ _ l0_1 ((rd_T34 l0_2 x3_1).f0) true _ ?side1 ?side2 A16.out).mono ?_); (case side1 => exact Kd.C_below HR0_1.out (by repeat (first | (with_reducible first | exact HB.out | apply below_alloc | apply pw_below_drewN | apply below_drew1 | refine below_set ?_ GE115.out | refine below_set ?_ GE121.out) | exact HB.out))); (case side2 => exact HC0_1.out); rintro e w' ⟨rfl, ⟨nd, rfl⟩⟩) | (go_at_call 9; (with_reducible refine (laws_has.calls k1 _ _ l0_1 ((rd_T34 l0_2 x3_1).f1) true _ ?side1 ?side2 A18.out).mono ?_); (case side1 => exact Kd.C_below HR0_1.out (by repeat (first | (with_reducible first | exact HB.out | apply below_alloc | apply pw_below_drewN | apply below_drew1 | refine below_set ?_ GE115.out | refine below_set ?_ GE121.out) | exact HB.out))); (case side2 => exact HC0_1.out); rintro e w' ⟨rfl, ⟨nd, rfl⟩⟩))
                      go_ret
                      exact ⟨by first | rfl | (simp [errW_none, errW_some] <;> rfl) | (simp [*, errW_none, errW_some] <;> rfl), by repeat (first | (with_reducible first | exact HB.out | apply below_alloc | apply pw_below_drewN | apply below_drew1 | refine below_set ?_ GE115.out | refine below_set ?_ GE121.out) | exact HB.out)⟩
                    · rw [if_neg c26] at H
                      have c26b0 : decide (((rd_T34 l0_2 x3_1).f2) < (-1099511627776)) = false := decide_eq_false c26
                      clear c26
                      have H' := Aside0.mk H
                      clear H
                      have hcz32_0 : wr.cell? ⟨gb115, 0, none⟩ = some (.bool a0_0) := (blk_cell BK115.out 0).trans rfl
                      have hcz32_1 : wr.cell? ⟨gb115, 1, none⟩ = some (.slice A0_1 l0_1.length c0_1) := (blk_cell BK115.out 1).trans rfl
                      have hcz32_2 : wr.cell? ⟨gb115, 2, none⟩ = some (.slice A0_2 l0_2.length c0_2) := (blk_cell BK115.out 2).trans rfl
                      have hfz32_0 := blk_frozen BK115.out 0
                      have hfz32_1 := blk_frozen BK115.out 1
                      have hfz32_2 := blk_frozen BK115.out 2
                      have p120 : 0 ≤ (x3_1 : Int) := of_decide_eq_true (by first | (with_reducible assumption) | assumption)
                      have q120 : x3_1 < (l0_2.length : Int) := of_decide_eq_true (by first | (with_reducible assumption) | assumption)
                      obtain ⟨ad120, e120, hx120_0, hx120_1, hx120_2⟩ := at_T34 HR0_2.out x3_1 p120 q120
                      cases e120
                      replace hx120_0 := (HB.out.cell (World.block_lt_of_cell? w _ hx120_0)).trans hx120_0
                      replace hx120_1 := (HB.out.cell (World.block_lt_of_cell? w _ hx120_1)).trans hx120_1
                      replace hx120_2 := (HB.out.cell (World.block_lt_of_cell? w _ hx120_2)).trans hx120_2
                      replace p120 := eq_true p120
                      replace q120 := eq_true q120
                      go_wp2_with (first | ((with_reducible refine gate_dst (N := 4) rfl ?_); refine box_event ?hg (N := 4) ?hd (cs := #[.int .i64 0, .int .i64 0, .int .i64 0]) (t := 34) ?hr ?_; (case hd => rfl); (case hg => rfl); (case hr => first | (go_simp; done) | (go_simp; rfl)); intro gb121 hg w33 hbox hb; have n0_ := Aside0.mk (blk_below (g := gb115) (o := .cells #[.bool a0_0, .slice A0_1 l0_1.length c0_1, .slice (some ad120) l0_2.length c0_2] 25 (0, 0)) (by (with_reducible repeat (first | refine blk_drewN ?_ _ | refine blk_drew ?_ | refine blk_alloc ?_ _)); exact BK115.out) hb); have n1_ := Aside0.mk (below_step (by repeat (first | (with_reducible first | exact HB.out | apply below_alloc | apply pw_below_drewN | apply below_drew1 | refine below_set ?_ GE115.out) | exact HB.out)) hb); have n2_ := Aside0.mk (hbox); have n3_ := Aside0.mk ((by rw [hg]; exact (below_size (by repeat (first | (with_reducible first | exact HB.out | apply below_alloc | apply pw_below_drewN | apply below_drew1 | refine below_set ?_ GE115.out) | exact HB.out))) : w.heap.size ≤ gb121)); have n4_ := Aside0.mk ((by rw [hg]; exact (below_size (by repeat (first | (with_reducible first | exact HB.out | apply below_alloc | apply pw_below_drewN | apply below_drew1 | refine below_set ?_ GE115.out) | exact HB.out))) : w.heap.size ≤ gb121)); have n5_ := Aside0.mk ((by rw [hg]; exact Nat.ne_of_lt (blk_lt (g := gb115) (o := .cells #[.bool a0_0, .slice A0_1 l0_1.length c0_1, .slice (some ad120) l0_2.length c0_2] 25 (0, 0)) (by (with_reducible repeat (first | refine blk_drewN ?_ _ | refine blk_drew ?_ | refine blk_alloc ?_ _)); exact BK115.out)) : gb115 ≠ gb121)); have n6_ := Aside0.mk ((by rw [hg]; exact Nat.ne_of_gt (blk_lt (g := gb115) (o := .cells #[.bool a0_0, .slice A0_1 l0_1.length c0_1, .slice (some ad120) l0_2.length c0_2] 25 (0, 0)) (by (with_reducible repeat (first | refine blk_drewN ?_ _ | refine blk_drew ?_ | refine blk_alloc ?_ _)); exact BK115.out)) : gb121 ≠ gb115)); clear BK115; clear HB; have BK115 := n0_; have HB := n1_; have BK121 := n2_; have GW121 := n3_; have GE121 := n4_; have NB115_121 := n5_; have NB121_115 := n6_; clear n0_ n1_ n2_ n3_ n4_ n5_ n6_; clear hb hbox hg; have hnb34 := NB121_115.out; have hnc34 := NB115_121.out; have hcz35_0 : w33.cell? ⟨gb121, 0, none⟩ = some (.int .i64 0) := (blk_cell BK121.out 0).trans rfl; have hcz35_1 : w33.cell? ⟨gb121, 1, none⟩ = some (.int .i64 0) := (blk_cell BK121.out 1).trans rfl; have hcz35_2 : w33.cell? ⟨gb121, 2, none⟩ = some (.int .i64 0) := (blk_cell BK121.out 2).trans rfl; have hfz35_0 := blk_frozen BK121.out 0; have hfz35_1 := blk_frozen BK121.out 1; have hfz35_2 := blk_frozen BK121.out 2; have hcz36_0 : w33.cell? ⟨gb115, 0, none⟩ = some (.bool a0_0) := (blk_cell BK115.out 0).trans rfl; have hcz36_1 : w33.cell? ⟨gb115, 1, none⟩ = some (.slice A0_1 l0_1.length c0_1) := (blk_cell BK115.out 1).trans rfl; have hcz36_2 : w33.cell? ⟨gb115, 2, none⟩ = some (.slice (some ad120) l0_2.length c0_2) := (blk_cell BK115.out 2).trans rfl; have hfz36_0 := blk_frozen BK115.out 0; have hfz36_1 := blk_frozen BK115.out 1; have hfz36_2 := blk_frozen BK115.out 2) | (go_at_call 9; (with_reducible refine (laws_has.calls k1 _ _ l0_1 ((rd_T34 l0_2 x3_1).f0) true _ ?side1 ?side2 A16.out).mono ?_); (case side1 => exact Kd.C_below HR0_1.out (by repeat (first | (with_reducible first | exact HB.out | apply below_alloc | apply pw_below_drewN | apply below_drew1 | refine below_set ?_ GE115.out | refine below_set ?_ GE121.out) | exact HB.out))); (case side2 => exact HC0_1.out); rintro e w' ⟨rfl, ⟨nd, rfl⟩⟩) | (go_at_call 9; (with_reducible refine (laws_has.calls k1 _ _ l0_1 ((rd_T34 l0_2 x3_1).f1) true _ ?side1 ?side2 A18.out).mono ?_); (case side1 => exact Kd.C_below HR0_1.out (by repeat (first | (with_reducible first | exact HB.out | apply below_alloc | apply pw_below_drewN | apply below_drew1 | refine below_set ?_ GE115.out | refine below_set ?_ GE121.out) | exact HB.out))); (case side2 => exact HC0_1.out); rintro e w' ⟨rfl, ⟨nd, rfl⟩⟩))
                      go_roundg k1
                      case measure => have := HK1.out; omega
                      case rel => exact ⟨(wrap64 (x3_1 + 1)), (by first | rfl | (simp; done) | (simp [*]; done)), H', ⟨by have := HK1.out; omega⟩, ⟨by (with_reducible repeat (first | refine blk_drewN ?_ _ | refine blk_drew ?_ | refine blk_alloc ?_ _)); refine blk_far ?_ NB115_121.out _; (with_reducible repeat (first | refine blk_drewN ?_ _ | refine blk_drew ?_ | refine blk_alloc ?_ _)); refine blk_far ?_ NB115_121.out _; (with_reducible repeat (first | refine blk_drewN ?_ _ | refine blk_drew ?_ | refine blk_alloc ?_ _)); refine blk_far ?_ NB115_121.out _; (with_reducible repeat (first | refine blk_drewN ?_ _ | refine blk_drew ?_ | refine blk_alloc ?_ _)); exact BK115.out⟩, ⟨by repeat (first | (with_reducible first | exact HB.out | apply below_alloc | apply pw_below_drewN | apply below_drew1 | refine below_set ?_ GE115.out | refine below_set ?_ GE121.out) | exact HB.out)⟩⟩
                · replace c19 := Bool.eq_false_iff.mpr c19
                  subst c19
                  have H1 : (some false) = some r := by rw [if_neg (show ¬ (false = true) by decide)] at H; exact H
                  clear H
                  have H := H1
                  clear H1
                  obtain rfl := Option.some.inj H
                  have hcz37_0 : wr.cell? ⟨gb115, 0, none⟩ = some (.bool a0_0) := (blk_cell BK115.out 0).trans rfl
                  have hcz37_1 : wr.cell? ⟨gb115, 1, none⟩ = some (.slice A0_1 l0_1.length c0_1) := (blk_cell BK115.out 1).trans rfl
                  have hcz37_2 : wr.cell? ⟨gb115, 2, none⟩ = some (.slice A0_2 l0_2.length c0_2) := (blk_cell BK115.out 2).trans rfl
                  have hfz37_0 := blk_frozen BK115.out 0
                  have hfz37_1 := blk_frozen BK115.out 1
                  have hfz37_2 := blk_frozen BK115.out 2
                  have p120 : 0 ≤ (x3_1 : Int) := of_decide_eq_true (by first | (with_reducible assumption) | assumption)
                  have q120 : x3_1 < (l0_2.length : Int) := of_decide_eq_true (by first | (with_reducible assumption) | assumption)
                  obtain ⟨ad120, e120, hx120_0, hx120_1, hx120_2⟩ := at_T34 HR0_2.out x3_1 p120 q120
                  cases e120
                  replace hx120_0 := (HB.out.cell (World.block_lt_of_cell? w _ hx120_0)).trans hx120_0
                  replace hx120_1 := (HB.out.cell (World.block_lt_of_cell? w _ hx120_1)).trans hx120_1
                  replace hx120_2 := (HB.out.cell (World.block_lt_of_cell? w _ hx120_2)).trans hx120_2
                  replace p120 := eq_true p120
                  replace q120 := eq_true q120
                  go_wp2_with (first | ((with_reducible refine gate_dst (N := 4) rfl ?_); refine box_event ?hg (N := 4) ?hd (cs := #[.int .i64 0, .int .i64 0, .int .i64 0]) (t := 34) ?hr ?_; (case hd => rfl); (case hg => rfl); (case hr => first | (go_simp; done) | (go_simp; rfl)); intro gb121 hg w38 hbox hb; have n0_ := Aside0.mk (blk_below (g := gb115) (o := .cells #[.bool a0_0, .slice A0_1 l0_1.length c0_1, .slice (some ad120) l0_2.length c0_2] 25 (0, 0)) (by (with_reducible repeat (first | refine blk_drewN ?_ _ | refine blk_drew ?_ | refine blk_alloc ?_ _)); exact BK115.out) hb); have n1_ := Aside0.mk (below_step (by repeat (first | (with_reducible first | exact HB.out | apply below_alloc | apply pw_below_drewN | apply below_drew1 | refine below_set ?_ GE115.out) | exact HB.out)) hb); have n2_ := Aside0.mk (hbox); have n3_ := Aside0.mk ((by rw [hg]; exact (below_size (by repeat (first | (with_reducible first | exact HB.out | apply below_alloc | apply pw_below_drewN | apply below_drew1 | refine below_set ?_ GE115.out) | exact HB.out))) : w.heap.size ≤ gb121)); have n4_ := Aside0.mk ((by rw [hg]; exact (below_size (by repeat (first | (with_reducible first | exact HB.out | apply below_alloc | apply pw_below_drewN | apply below_drew1 | refine below_set ?_ GE115.out) | exact HB.out))) : w.heap.size ≤ gb121)); have n5_ := Aside0.mk ((by rw [hg]; exact Nat.ne_of_lt (blk_lt (g := gb115) (o := .cells #[.bool a0_0, .slice A0_1 l0_1.length c0_1, .slice (some ad120) l0_2.length c0_2] 25 (0, 0)) (by (with_reducible repeat (first | refine blk_drewN ?_ _ | refine blk_drew ?_ | refine blk_alloc ?_ _)); exact BK115.out)) : gb115 ≠ gb121)); have n6_ := Aside0.mk ((by rw [hg]; exact Nat.ne_of_gt (blk_lt (g := gb115) (o := .cells #[.bool a0_0, .slice A0_1 l0_1.length c0_1, .slice (some ad120) l0_2.length c0_2] 25 (0, 0)) (by (with_reducible repeat (first | refine blk_drewN ?_ _ | refine blk_drew ?_ | refine blk_alloc ?_ _)); exact BK115.out)) : gb121 ≠ gb115)); clear BK115; clear HB; have BK115 := n0_; have HB := n1_; have BK121 := n2_; have GW121 := n3_; have GE121 := n4_; have NB115_121 := n5_; have NB121_115 := n6_; clear n0_ n1_ n2_ n3_ n4_ n5_ n6_; clear hb hbox hg; have hnb39 := NB121_115.out; have hnc39 := NB115_121.out; have hcz40_0 : w38.cell? ⟨gb121, 0, none⟩ = some (.int .i64 0) := (blk_cell BK121.out 0).trans rfl; have hcz40_1 : w38.cell? ⟨gb121, 1, none⟩ = some (.int .i64 0) := (blk_cell BK121.out 1).trans rfl; have hcz40_2 : w38.cell? ⟨gb121, 2, none⟩ = some (.int .i64 0) := (blk_cell BK121.out 2).trans rfl; have hfz40_0 := blk_frozen BK121.out 0; have hfz40_1 := blk_frozen BK121.out 1; have hfz40_2 := blk_frozen BK121.out 2; have hcz41_0 : w38.cell? ⟨gb115, 0, none⟩ = some (.bool a0_0) := (blk_cell BK115.out 0).trans rfl; have hcz41_1 : w38.cell? ⟨gb115, 1, none⟩ = some (.slice A0_1 l0_1.length c0_1) := (blk_cell BK115.out 1).trans rfl; have hcz41_2 : w38.cell? ⟨gb115, 2, none⟩ = some (.slice (some ad120) l0_2.length c0_2) := (blk_cell BK115.out 2).trans rfl; have hfz41_0 := blk_frozen BK115.out 0; have hfz41_1 := blk_frozen BK115.out 1; have hfz41_2 := blk_frozen BK115.out 2) | (go_at_call 9; (with_reducible refine (laws_has.calls k1 _ _ l0_1 ((rd_T34 l0_2 x3_1).f0) true _ ?side1 ?side2 A16.out).mono ?_); (case side1 => exact Kd.C_below HR0_1.out (by repeat (first | (with_reducible first | exact HB.out | apply below_alloc | apply pw_below_drewN | apply below_drew1 | refine below_set ?_ GE115.out | refine below_set ?_ GE121.out) | exact HB.out))); (case side2 => exact HC0_1.out); rintro e w' ⟨rfl, ⟨nd, rfl⟩⟩) | (go_at_call 9; (with_reducible refine (laws_has.calls k1 _ _ l0_1 ((rd_T34 l0_2 x3_1).f1) false _ ?side1 ?side2 A18.out).mono ?_); (case side1 => exact Kd.C_below HR0_1.out (by repeat (first | (with_reducible first | exact HB.out | apply below_alloc | apply pw_below_drewN | apply below_drew1 | refine below_set ?_ GE115.out | refine below_set ?_ GE121.out) | exact HB.out))); (case side2 => exact HC0_1.out); rintro e w' ⟨rfl, ⟨nd, rfl⟩⟩))
                  go_ret
                  exact ⟨by first | rfl | (simp [errW_none, errW_some] <;> rfl) | (simp [*, errW_none, errW_some] <;> rfl), by repeat (first | (with_reducible first | exact HB.out | apply below_alloc | apply pw_below_drewN | apply below_drew1 | refine below_set ?_ GE115.out | refine below_set ?_ GE121.out) | exact HB.out)⟩
              · replace c17 := Bool.eq_false_iff.mpr c17
                subst c17
                have H1 : (some false) = some r := by rw [if_neg (show ¬ (false = true) by decide)] at H; exact H
                clear H
                have H := H1
                clear H1
                obtain rfl := Option.some.inj H
                have hcz42_0 : wr.cell? ⟨gb115, 0, none⟩ = some (.bool a0_0) := (blk_cell BK115.out 0).trans rfl
                have hcz42_1 : wr.cell? ⟨gb115, 1, none⟩ = some (.slice A0_1 l0_1.length c0_1) := (blk_cell BK115.out 1).trans rfl
                have hcz42_2 : wr.cell? ⟨gb115, 2, none⟩ = some (.slice A0_2 l0_2.length c0_2) := (blk_cell BK115.out 2).trans rfl
                have hfz42_0 := blk_frozen BK115.out 0
                have hfz42_1 := blk_frozen BK115.out 1
                have hfz42_2 := blk_frozen BK115.out 2
                have p120 : 0 ≤ (x3_1 : Int) := of_decide_eq_true (by first | (with_reducible assumption) | assumption)
                have q120 : x3_1 < (l0_2.length : Int) := of_decide_eq_true (by first | (with_reducible assumption) | assumption)
                obtain ⟨ad120, e120, hx120_0, hx120_1, hx120_2⟩ := at_T34 HR0_2.out x3_1 p120 q120
                cases e120
                replace hx120_0 := (HB.out.cell (World.block_lt_of_cell? w _ hx120_0)).trans hx120_0
                replace hx120_1 := (HB.out.cell (World.block_lt_of_cell? w _ hx120_1)).trans hx120_1
                replace hx120_2 := (HB.out.cell (World.block_lt_of_cell? w _ hx120_2)).trans hx120_2
                replace p120 := eq_true p120
                replace q120 := eq_true q120
                go_wp2_with (first | ((with_reducible refine gate_dst (N := 4) rfl ?_); refine box_event ?hg (N := 4) ?hd (cs := #[.int .i64 0, .int .i64 0, .int .i64 0]) (t := 34) ?hr ?_; (case hd => rfl); (case hg => rfl); (case hr => first | (go_simp; done) | (go_simp; rfl)); intro gb121 hg w43 hbox hb; have n0_ := Aside0.mk (blk_below (g := gb115) (o := .cells #[.bool a0_0, .slice A0_1 l0_1.length c0_1, .slice (some ad120) l0_2.length c0_2] 25 (0, 0)) (by (with_reducible repeat (first | refine blk_drewN ?_ _ | refine blk_drew ?_ | refine blk_alloc ?_ _)); exact BK115.out) hb); have n1_ := Aside0.mk (below_step (by repeat (first | (with_reducible first | exact HB.out | apply below_alloc | apply pw_below_drewN | apply below_drew1 | refine below_set ?_ GE115.out) | exact HB.out)) hb); have n2_ := Aside0.mk (hbox); have n3_ := Aside0.mk ((by rw [hg]; exact (below_size (by repeat (first | (with_reducible first | exact HB.out | apply below_alloc | apply pw_below_drewN | apply below_drew1 | refine below_set ?_ GE115.out) | exact HB.out))) : w.heap.size ≤ gb121)); have n4_ := Aside0.mk ((by rw [hg]; exact (below_size (by repeat (first | (with_reducible first | exact HB.out | apply below_alloc | apply pw_below_drewN | apply below_drew1 | refine below_set ?_ GE115.out) | exact HB.out))) : w.heap.size ≤ gb121)); have n5_ := Aside0.mk ((by rw [hg]; exact Nat.ne_of_lt (blk_lt (g := gb115) (o := .cells #[.bool a0_0, .slice A0_1 l0_1.length c0_1, .slice (some ad120) l0_2.length c0_2] 25 (0, 0)) (by (with_reducible repeat (first | refine blk_drewN ?_ _ | refine blk_drew ?_ | refine blk_alloc ?_ _)); exact BK115.out)) : gb115 ≠ gb121)); have n6_ := Aside0.mk ((by rw [hg]; exact Nat.ne_of_gt (blk_lt (g := gb115) (o := .cells #[.bool a0_0, .slice A0_1 l0_1.length c0_1, .slice (some ad120) l0_2.length c0_2] 25 (0, 0)) (by (with_reducible repeat (first | refine blk_drewN ?_ _ | refine blk_drew ?_ | refine blk_alloc ?_ _)); exact BK115.out)) : gb121 ≠ gb115)); clear BK115; clear HB; have BK115 := n0_; have HB := n1_; have BK121 := n2_; have GW121 := n3_; have GE121 := n4_; have NB115_121 := n5_; have NB121_115 := n6_; clear n0_ n1_ n2_ n3_ n4_ n5_ n6_; clear hb hbox hg; have hnb44 := NB121_115.out; have hnc44 := NB115_121.out; have hcz45_0 : w43.cell? ⟨gb121, 0, none⟩ = some (.int .i64 0) := (blk_cell BK121.out 0).trans rfl; have hcz45_1 : w43.cell? ⟨gb121, 1, none⟩ = some (.int .i64 0) := (blk_cell BK121.out 1).trans rfl; have hcz45_2 : w43.cell? ⟨gb121, 2, none⟩ = some (.int .i64 0) := (blk_cell BK121.out 2).trans rfl; have hfz45_0 := blk_frozen BK121.out 0; have hfz45_1 := blk_frozen BK121.out 1; have hfz45_2 := blk_frozen BK121.out 2; have hcz46_0 : w43.cell? ⟨gb115, 0, none⟩ = some (.bool a0_0) := (blk_cell BK115.out 0).trans rfl; have hcz46_1 : w43.cell? ⟨gb115, 1, none⟩ = some (.slice A0_1 l0_1.length c0_1) := (blk_cell BK115.out 1).trans rfl; have hcz46_2 : w43.cell? ⟨gb115, 2, none⟩ = some (.slice (some ad120) l0_2.length c0_2) := (blk_cell BK115.out 2).trans rfl; have hfz46_0 := blk_frozen BK115.out 0; have hfz46_1 := blk_frozen BK115.out 1; have hfz46_2 := blk_frozen BK115.out 2) | (go_at_call 9; (with_reducible refine (laws_has.calls k1 _ _ l0_1 ((rd_T34 l0_2 x3_1).f0) false _ ?side1 ?side2 A16.out).mono ?_); (case side1 => exact Kd.C_below HR0_1.out (by repeat (first | (with_reducible first | exact HB.out | apply below_alloc | apply pw_below_drewN | apply below_drew1 | refine below_set ?_ GE115.out | refine below_set ?_ GE121.out) | exact HB.out))); (case side2 => exact HC0_1.out); rintro e w' ⟨rfl, ⟨nd, rfl⟩⟩))
                go_ret
                exact ⟨by first | rfl | (simp [errW_none, errW_some] <;> rfl) | (simp [*, errW_none, errW_some] <;> rfl), by repeat (first | (with_reducible first | exact HB.out | apply below_alloc | apply pw_below_drewN | apply below_drew1 | refine below_set ?_ GE115.out | refine below_set ?_ GE121.out) | exact HB.out)⟩
          · rw [if_neg c10] at H
            exact absurd H (by simp)
        · rw [if_neg c9] at H
          have c9b0 : decide (x3_1 < (l0_2.length : Int)) = false := decide_eq_false c9
          clear c9
          obtain rfl := Option.some.inj H
          have hcz47_0 : wr.cell? ⟨gb115, 0, none⟩ = some (.bool a0_0) := (blk_cell BK115.out 0).trans rfl
          have hcz47_1 : wr.cell? ⟨gb115, 1, none⟩ = some (.slice A0_1 l0_1.length c0_1) := (blk_cell BK115.out 1).trans rfl
          have hcz47_2 : wr.cell? ⟨gb115, 2, none⟩ = some (.slice A0_2 l0_2.length c0_2) := (blk_cell BK115.out 2).trans rfl
          have hfz47_0 := blk_frozen BK115.out 0
          have hfz47_1 := blk_frozen BK115.out 1
          have hfz47_2 := blk_frozen BK115.out 2
          go_wp2
          go_ret
          exact ⟨by first | rfl | (simp [errW_none, errW_some] <;> rfl) | (simp [*, errW_none, errW_some] <;> rfl), by repeat (first | (with_reducible first | exact HB.out | apply below_alloc | apply pw_below_drewN | apply below_drew1 | refine below_set ?_ GE115.out) | exact HB.out)⟩
  · replace c4 := Bool.eq_false_iff.mpr c4
    subst c4
    have H1 : (some false) = some r := by rw [if_neg (show ¬ (false = true) by decide)] at H; exact H
    clear H
    have H := H1
    clear H1
    obtain rfl := Option.some.inj H
    go_enter Tryz.func51, Tryz.ntmps51
    go_wp2_with (first | ((with_reducible refine gate_dst (N := 1) rfl ?_); refine box_event ?hg (N := 1) ?hd (cs := #[.bool a0_0, .slice A0_1 l0_1.length c0_1, .slice A0_2 l0_2.length c0_2]) (t := 25) ?hr ?_; (case hd => rfl); (case hg => rfl); (case hr => first | (go_simp; done) | (go_simp; rfl)); intro gb115 hg w48 hbox hb; have n0_ := Aside0.mk (below_step (by repeat (first | (with_reducible first | exact HB.out | apply below_alloc | apply pw_below_drewN | apply below_drew1) | exact HB.out)) hb); have n1_ := Aside0.mk (hbox); have n2_ := Aside0.mk ((by rw [hg]; exact (below_size (by repeat (first | (with_reducible first | exact HB.out | apply below_alloc | apply pw_below_drewN | apply below_drew1) | exact HB.out))) : w.heap.size ≤ gb115)); have n3_ := Aside0.mk ((by rw [hg]; exact (below_size (by repeat (first | (with_reducible first | exact HB.out | apply below_alloc | apply pw_below_drewN | apply below_drew1) | exact HB.out))) : w.heap.size ≤ gb115)); clear HB; have HB := n0_; have BK115 := n1_; have GW115 := n2_; have GE115 := n3_; clear n0_ n1_ n2_ n3_; clear hb hbox hg; have hcz49_0 : w48.cell? ⟨gb115, 0, none⟩ = some (.bool a0_0) := (blk_cell BK115.out 0).trans rfl; have hcz49_1 : w48.cell? ⟨gb115, 1, none⟩ = some (.slice A0_1 l0_1.length c0_1) := (blk_cell BK115.out 1).trans rfl; have hcz49_2 : w48.cell? ⟨gb115, 2, none⟩ = some (.slice A0_2 l0_2.length c0_2) := (blk_cell BK115.out 2).trans rfl; have hfz49_0 := blk_frozen BK115.out 0; have hfz49_1 := blk_frozen BK115.out 1; have hfz49_2 := blk_frozen BK115.out 2) | ((with_reducible refine gate_callee (f := 15) rfl ?_); refine goesL_ (some 7) rfl rfl Tryz.func15 (by kernel_rfl) rfl #[.slice A0_1 l0_1.length c0_1] rfl (by (try simp only [List.map_toArray, List.map_cons, List.map_nil]); first | done | rfl | (simp only [List.length_drop, List.length_take]; rfl)) ?_; (with_reducible refine (laws_sorted.calls k _ _ l0_1 t116 _ ?side1 ?side2 A2.out).mono ?_); (case side1 => repeat (first | exact (Kd.C_below HR0_1.out HB.out) | (with_reducible refine Kd.C_alloc ?_ _) | (with_reducible refine Kd.C_drewN ?_ _) | (with_reducible refine Kd.C_drew ?_))); (case side2 => exact HC0_1.out); rintro e w50 ⟨v117, rfl, ho0, hb⟩; refine ⟨_, rfl, ?_⟩; have n0_ := Aside0.mk (Kd.R_lower ho0 (below_size (by repeat (first | (with_reducible first | exact HB.out | apply below_alloc | apply pw_below_drewN | apply below_drew1 | refine below_set ?_ GE115.out) | exact HB.out)))); have n1_ := Aside0.mk (blk_below (g := gb115) (o := .cells #[.bool a0_0, .slice A0_1 l0_1.length c0_1, .slice A0_2 l0_2.length c0_2] 25 (0, 0)) (by (with_reducible repeat (first | refine blk_drewN ?_ _ | refine blk_drew ?_ | refine blk_alloc ?_ _)); exact BK115.out) hb); have n2_ := Aside0.mk (below_step (by repeat (first | (with_reducible first | exact HB.out | apply below_alloc | apply pw_below_drewN | apply below_drew1 | refine below_set ?_ GE115.out) | exact HB.out)) hb); clear BK115; clear HB; have HO118 := n0_; have BK115 := n1_; have HB := n2_; clear n0_ n1_ n2_; (try clear hb); (try clear hb2); (try clear hk); (try clear hi); (try clear ho0); obtain ⟨Ao51, co51, eo51⟩ := Kd.R_slice HO118.out; subst eo51) | ((with_reducible refine gate_callee (f := 72) rfl ?_); refine goesL_ (some 8) rfl rfl Tryz.func72 (by kernel_rfl) rfl #[.slice Ao51 t116.length co51] rfl (by (try simp only [List.map_toArray, List.map_cons, List.map_nil]); first | done | rfl | (simp only [List.length_drop, List.length_take]; rfl)) ?_; (with_reducible refine (laws_rising.calls k _ _ t116 false _ ?side1 ?side2 A3.out).mono ?_); (case side1 => repeat (first | exact (Kd.R_reads' HO118.out).2.2 | (with_reducible refine Kd.C_alloc ?_ _) | (with_reducible refine Kd.C_drewN ?_ _) | (with_reducible refine Kd.C_drew ?_))); (case side2 => exact (Kd.R_reads' HO118.out).2.1); rintro e w' ⟨rfl, ⟨nd, rfl⟩⟩; refine ⟨_, rfl, ?_⟩))
    go_ret
    exact ⟨by first | rfl | (simp [errW_none, errW_some] <;> rfl) | (simp [*, errW_none, errW_some] <;> rfl), by repeat (first | (with_reducible first | exact HB.out | apply below_alloc | apply pw_below_drewN | apply below_drew1 | refine below_set ?_ GE115.out) | exact HB.out)⟩

/-! ### laws_few: function 25 -/
def laws_few.f (k : Nat) (a0_0 : Bool) (l0_1 : List Int) (l0_2 : List (S34)) (a1 : Int) : Option (Bool) := if (l0_1.length : Int) ≤ a1 then (if (l0_2.length : Int) ≤ (wrap64 (8 * a1)) then ((laws_well.f k a0_0 l0_1 l0_2).bind fun t125 => (some t125)) else (some false)) else (some false)
set_option maxHeartbeats 8000000 in
set_option maxRecDepth 100000 in
theorem laws_few.calls (k : Nat) (a0_0 : Bool) (A0_1 : Option Addr) (c0_1 : Nat) (l0_1 : List Int) (A0_2 : Option Addr) (c0_2 : Nat) (l0_2 : List (S34)) (a1 : Int) (r : Bool) (w : World) (hr0_1 : Kd.C (Kd.int .i64) w A0_1 l0_1.length l0_1) (hc0_1 : l0_1.length ≤ c0_1) (hr0_2 : Kd.C k34 w A0_2 l0_2.length l0_2) (hc0_2 : l0_2.length ≤ c0_2) (h : laws_few.f k a0_0 l0_1 l0_2 a1 = some r) :
    Calls Tryz.prog 25 #[.agg #[.bool a0_0, .slice A0_1 l0_1.length c0_1, .slice A0_2 l0_2.length c0_2], .int .i64 a1] w fun e w' => e = .returned (.bool r) ∧ Below w.heap.size w w' := by
  have hu25 := Tryz.underlying25
  have HR0_1 := Aside0.mk hr0_1
  have HC0_1 := Aside0.mk hc0_1
  clear hr0_1 hc0_1
  have HR0_2 := Aside0.mk hr0_2
  have HC0_2 := Aside0.mk hc0_2
  clear hr0_2 hc0_2
  have HB := Aside0.mk (Below.refl w.heap.size w)
  have H : (if (l0_1.length : Int) ≤ a1 then (if (l0_2.length : Int) ≤ (wrap64 (8 * a1)) then ((laws_well.f k a0_0 l0_1 l0_2).bind fun t125 => (some t125)) else (some false)) else (some false)) = some r := h
  clear h
  by_cases c3 : (l0_1.length : Int) ≤ a1
  · rw [if_pos c3] at H
    have c3b0 : decide ((l0_1.length : Int) ≤ a1) = true := decide_eq_true c3
    clear c3
    by_cases c4 : (l0_2.length : Int) ≤ (wrap64 (8 * a1))
    · rw [if_pos c4] at H
      have c4b0 : decide ((l0_2.length : Int) ≤ (wrap64 (8 * a1))) = true := decide_eq_true c4
      clear c4
      replace H := Option.bind_eq_some_iff.mp H
      obtain ⟨t125, A50, H⟩ := H
      replace H : (some t125) = some r := H
      have A5 := Aside0.mk A50
      clear A50
      obtain rfl := Option.some.inj H
      go_enter Tryz.func25, Tryz.ntmps25
      go_wp2_with (first | ((with_reducible refine gate_dst (N := 2) rfl ?_); (try (refine gate_guard (by rfl) ?_; dsimp only)); refine box_event ?hg (N := 2) ?hd (cs := #[.bool a0_0, .slice A0_1 l0_1.length c0_1, .slice A0_2 l0_2.length c0_2]) (t := 25) ?hr ?_; (case hd => rfl); (case hg => rfl); (case hr => first | (go_simp; done) | (go_simp; rfl)); intro gb124 hg w6 hbox hb; have n0_ := Aside0.mk (below_step (by repeat (first | (with_reducible first | exact HB.out | apply below_alloc | apply pw_below_drewN | apply below_drew1) | exact HB.out)) hb); have n1_ := Aside0.mk (hbox); have n2_ := Aside0.mk ((by rw [hg]; exact (below_size (by repeat (first | (with_reducible first | exact HB.out | apply below_alloc | apply pw_below_drewN | apply below_drew1) | exact HB.out))) : w.heap.size ≤ gb124)); have n3_ := Aside0.mk ((by rw [hg]; exact (below_size (by repeat (first | (with_reducible first | exact HB.out | apply below_alloc | apply pw_below_drewN | apply below_drew1) | exact HB.out))) : w.heap.size ≤ gb124)); clear HB; have HB := n0_; have BK124 := n1_; have GW124 := n2_; have GE124 := n3_; clear n0_ n1_ n2_ n3_; clear hb hbox hg; have hcz7_0 : w6.cell? ⟨gb124, 0, none⟩ = some (.bool a0_0) := (blk_cell BK124.out 0).trans rfl; have hcz7_1 : w6.cell? ⟨gb124, 1, none⟩ = some (.slice A0_1 l0_1.length c0_1) := (blk_cell BK124.out 1).trans rfl; have hcz7_2 : w6.cell? ⟨gb124, 2, none⟩ = some (.slice A0_2 l0_2.length c0_2) := (blk_cell BK124.out 2).trans rfl; have hfz7_0 := blk_frozen BK124.out 0; have hfz7_1 := blk_frozen BK124.out 1; have hfz7_2 := blk_frozen BK124.out 2) | (go_at_call 51; (with_reducible refine (laws_well.calls k a0_0 _ _ l0_1 _ _ l0_2 t125 _ ?side1 ?side2 ?side3 ?side4 A5.out).mono ?_); (case side1 => repeat (first | exact (Kd.C_below HR0_1.out HB.out) | (with_reducible refine Kd.C_alloc ?_ _) | (with_reducible refine Kd.C_drewN ?_ _) | (with_reducible refine Kd.C_drew ?_))); (case side2 => exact HC0_1.out); (case side3 => repeat (first | exact (Kd.C_below HR0_2.out HB.out) | (with_reducible refine Kd.C_alloc ?_ _) | (with_reducible refine Kd.C_drewN ?_ _) | (with_reducible refine Kd.C_drew ?_))); (case side4 => exact HC0_2.out); rintro e w8 ⟨rfl, hb⟩; have n0_ := Aside0.mk (blk_below (g := gb124) (o := .cells #[.bool a0_0, .slice A0_1 l0_1.length c0_1, .slice A0_2 l0_2.length c0_2] 25 (0, 0)) (by (with_reducible repeat (first | refine blk_drewN ?_ _ | refine blk_drew ?_ | refine blk_alloc ?_ _)); exact BK124.out) hb); have n1_ := Aside0.mk (below_step (by repeat (first | (with_reducible first | exact HB.out | apply below_alloc | apply pw_below_drewN | apply below_drew1 | refine below_set ?_ GE124.out) | exact HB.out)) hb); clear BK124; clear HB; have BK124 := n0_; have HB := n1_; clear n0_ n1_; (try clear hb); (try clear hb2); (try clear hk); (try clear hi)))
      go_ret
      exact ⟨by first | rfl | (simp [errW_none, errW_some] <;> rfl) | (simp [*, errW_none, errW_some] <;> rfl), by repeat (first | (with_reducible first | exact HB.out | apply below_alloc | apply pw_below_drewN | apply below_drew1 | refine below_set ?_ GE124.out) | exact HB.out)⟩
    · rw [if_neg c4] at H
      have c4b0 : decide ((l0_2.length : Int) ≤ (wrap64 (8 * a1))) = false := decide_eq_false c4
      clear c4
      obtain rfl := Option.some.inj H
      go_enter Tryz.func25, Tryz.ntmps25
      go_wp2_with (first | ((with_reducible refine gate_dst (N := 2) rfl ?_); (try (refine gate_guard (by rfl) ?_; dsimp only)); refine box_event ?hg (N := 2) ?hd (cs := #[.bool a0_0, .slice A0_1 l0_1.length c0_1, .slice A0_2 l0_2.length c0_2]) (t := 25) ?hr ?_; (case hd => rfl); (case hg => rfl); (case hr => first | (go_simp; done) | (go_simp; rfl)); intro gb124 hg w9 hbox hb; have n0_ := Aside0.mk (below_step (by repeat (first | (with_reducible first | exact HB.out | apply below_alloc | apply pw_below_drewN | apply below_drew1) | exact HB.out)) hb); have n1_ := Aside0.mk (hbox); have n2_ := Aside0.mk ((by rw [hg]; exact (below_size (by repeat (first | (with_reducible first | exact HB.out | apply below_alloc | apply pw_below_drewN | apply below_drew1) | exact HB.out))) : w.heap.size ≤ gb124)); have n3_ := Aside0.mk ((by rw [hg]; exact (below_size (by repeat (first | (with_reducible first | exact HB.out | apply below_alloc | apply pw_below_drewN | apply below_drew1) | exact HB.out))) : w.heap.size ≤ gb124)); clear HB; have HB := n0_; have BK124 := n1_; have GW124 := n2_; have GE124 := n3_; clear n0_ n1_ n2_ n3_; clear hb hbox hg; have hcz10_0 : w9.cell? ⟨gb124, 0, none⟩ = some (.bool a0_0) := (blk_cell BK124.out 0).trans rfl; have hcz10_1 : w9.cell? ⟨gb124, 1, none⟩ = some (.slice A0_1 l0_1.length c0_1) := (blk_cell BK124.out 1).trans rfl; have hcz10_2 : w9.cell? ⟨gb124, 2, none⟩ = some (.slice A0_2 l0_2.length c0_2) := (blk_cell BK124.out 2).trans rfl; have hfz10_0 := blk_frozen BK124.out 0; have hfz10_1 := blk_frozen BK124.out 1; have hfz10_2 := blk_frozen BK124.out 2))
      go_ret
      exact ⟨by first | rfl | (simp [errW_none, errW_some] <;> rfl) | (simp [*, errW_none, errW_some] <;> rfl), by repeat (first | (with_reducible first | exact HB.out | apply below_alloc | apply pw_below_drewN | apply below_drew1 | refine below_set ?_ GE124.out) | exact HB.out)⟩
  · rw [if_neg c3] at H
    have c3b0 : decide ((l0_1.length : Int) ≤ a1) = false := decide_eq_false c3
    clear c3
    obtain rfl := Option.some.inj H
    go_enter Tryz.func25, Tryz.ntmps25
    go_wp2_with (first | ((with_reducible refine gate_dst (N := 2) rfl ?_); (try (refine gate_guard (by rfl) ?_; dsimp only)); refine box_event ?hg (N := 2) ?hd (cs := #[.bool a0_0, .slice A0_1 l0_1.length c0_1, .slice A0_2 l0_2.length c0_2]) (t := 25) ?hr ?_; (case hd => rfl); (case hg => rfl); (case hr => first | (go_simp; done) | (go_simp; rfl)); intro gb124 hg w11 hbox hb; have n0_ := Aside0.mk (below_step (by repeat (first | (with_reducible first | exact HB.out | apply below_alloc | apply pw_below_drewN | apply below_drew1) | exact HB.out)) hb); have n1_ := Aside0.mk (hbox); have n2_ := Aside0.mk ((by rw [hg]; exact (below_size (by repeat (first | (with_reducible first | exact HB.out | apply below_alloc | apply pw_below_drewN | apply below_drew1) | exact HB.out))) : w.heap.size ≤ gb124)); have n3_ := Aside0.mk ((by rw [hg]; exact (below_size (by repeat (first | (with_reducible first | exact HB.out | apply below_alloc | apply pw_below_drewN | apply below_drew1) | exact HB.out))) : w.heap.size ≤ gb124)); clear HB; have HB := n0_; have BK124 := n1_; have GW124 := n2_; have GE124 := n3_; clear n0_ n1_ n2_ n3_; clear hb hbox hg; have hcz12_0 : w11.cell? ⟨gb124, 0, none⟩ = some (.bool a0_0) := (blk_cell BK124.out 0).trans rfl; have hcz12_1 : w11.cell? ⟨gb124, 1, none⟩ = some (.slice A0_1 l0_1.length c0_1) := (blk_cell BK124.out 1).trans rfl; have hcz12_2 : w11.cell? ⟨gb124, 2, none⟩ = some (.slice A0_2 l0_2.length c0_2) := (blk_cell BK124.out 2).trans rfl; have hfz12_0 := blk_frozen BK124.out 0; have hfz12_1 := blk_frozen BK124.out 1; have hfz12_2 := blk_frozen BK124.out 2))
    go_ret
    exact ⟨by first | rfl | (simp [errW_none, errW_some] <;> rfl) | (simp [*, errW_none, errW_some] <;> rfl), by repeat (first | (with_reducible first | exact HB.out | apply below_alloc | apply pw_below_drewN | apply below_drew1 | refine below_set ?_ GE124.out) | exact HB.out)⟩

/-! ### laws_fewOf: function 8 -/
def laws_fewOf.f (k : Nat) (a0_0 : Bool) (l0_1 : List Int) (l0_2 : List (S34)) (a1 : Bool) (a2 : Int) : Option (Bool) := if (a0_0 == a1) = true then ((laws_few.f k a0_0 l0_1 l0_2 a2).bind fun t127 => (some t127)) else (some false)
set_option maxHeartbeats 8000000 in
set_option maxRecDepth 100000 in
theorem laws_fewOf.calls (k : Nat) (a0_0 : Bool) (A0_1 : Option Addr) (c0_1 : Nat) (l0_1 : List Int) (A0_2 : Option Addr) (c0_2 : Nat) (l0_2 : List (S34)) (a1 : Bool) (a2 : Int) (r : Bool) (w : World) (hr0_1 : Kd.C (Kd.int .i64) w A0_1 l0_1.length l0_1) (hc0_1 : l0_1.length ≤ c0_1) (hr0_2 : Kd.C k34 w A0_2 l0_2.length l0_2) (hc0_2 : l0_2.length ≤ c0_2) (h : laws_fewOf.f k a0_0 l0_1 l0_2 a1 a2 = some r) :
    Calls Tryz.prog 8 #[.agg #[.bool a0_0, .slice A0_1 l0_1.length c0_1, .slice A0_2 l0_2.length c0_2], .bool a1, .int .i64 a2] w fun e w' => e = .returned (.bool r) ∧ Below w.heap.size w w' := by
  have hu25 := Tryz.underlying25
  have HR0_1 := Aside0.mk hr0_1
  have HC0_1 := Aside0.mk hc0_1
  clear hr0_1 hc0_1
  have HR0_2 := Aside0.mk hr0_2
  have HC0_2 := Aside0.mk hc0_2
  clear hr0_2 hc0_2
  have HB := Aside0.mk (Below.refl w.heap.size w)
  have H : (if (a0_0 == a1) = true then ((laws_few.f k a0_0 l0_1 l0_2 a2).bind fun t127 => (some t127)) else (some false)) = some r := h
  clear h
  by_cases c4 : (a0_0 == a1) = true
  · rw [if_pos c4] at H
    have c4b0 : (a0_0 == a1) = true := c4
    (try (have c4b1 : decide (a0_0 = a1) = true := by simpa using c4))
    (try (have c4b2 : (a0_0 == a1) = true := by simpa using c4))
    clear c4
    replace H := Option.bind_eq_some_iff.mp H
    obtain ⟨t127, A50, H⟩ := H
    replace H : (some t127) = some r := H
    have A5 := Aside0.mk A50
    clear A50
    obtain rfl := Option.some.inj H
    go_enter Tryz.func8, Tryz.ntmps8
    go_wp2_with (first | ((with_reducible refine gate_dst (N := 3) rfl ?_); refine box_event ?hg (N := 3) ?hd (cs := #[.bool a0_0, .slice A0_1 l0_1.length c0_1, .slice A0_2 l0_2.length c0_2]) (t := 25) ?hr ?_; (case hd => rfl); (case hg => rfl); (case hr => first | (go_simp; done) | (go_simp; rfl)); intro gb126 hg w6 hbox hb; have n0_ := Aside0.mk (below_step (by repeat (first | (with_reducible first | exact HB.out | apply below_alloc | apply pw_below_drewN | apply below_drew1) | exact HB.out)) hb); have n1_ := Aside0.mk (hbox); have n2_ := Aside0.mk ((by rw [hg]; exact (below_size (by repeat (first | (with_reducible first | exact HB.out | apply below_alloc | apply pw_below_drewN | apply below_drew1) | exact HB.out))) : w.heap.size ≤ gb126)); have n3_ := Aside0.mk ((by rw [hg]; exact (below_size (by repeat (first | (with_reducible first | exact HB.out | apply below_alloc | apply pw_below_drewN | apply below_drew1) | exact HB.out))) : w.heap.size ≤ gb126)); clear HB; have HB := n0_; have BK126 := n1_; have GW126 := n2_; have GE126 := n3_; clear n0_ n1_ n2_ n3_; clear hb hbox hg; have hcz7_0 : w6.cell? ⟨gb126, 0, none⟩ = some (.bool a0_0) := (blk_cell BK126.out 0).trans rfl; have hcz7_1 : w6.cell? ⟨gb126, 1, none⟩ = some (.slice A0_1 l0_1.length c0_1) := (blk_cell BK126.out 1).trans rfl; have hcz7_2 : w6.cell? ⟨gb126, 2, none⟩ = some (.slice A0_2 l0_2.length c0_2) := (blk_cell BK126.out 2).trans rfl; have hfz7_0 := blk_frozen BK126.out 0; have hfz7_1 := blk_frozen BK126.out 1; have hfz7_2 := blk_frozen BK126.out 2) | (go_at_call 25; (with_reducible refine (laws_few.calls k a0_0 _ _ l0_1 _ _ l0_2 a2 t127 _ ?side1 ?side2 ?side3 ?side4 A5.out).mono ?_); (case side1 => repeat (first | exact (Kd.C_below HR0_1.out HB.out) | (with_reducible refine Kd.C_alloc ?_ _) | (with_reducible refine Kd.C_drewN ?_ _) | (with_reducible refine Kd.C_drew ?_))); (case side2 => exact HC0_1.out); (case side3 => repeat (first | exact (Kd.C_below HR0_2.out HB.out) | (with_reducible refine Kd.C_alloc ?_ _) | (with_reducible refine Kd.C_drewN ?_ _) | (with_reducible refine Kd.C_drew ?_))); (case side4 => exact HC0_2.out); rintro e w8 ⟨rfl, hb⟩; have n0_ := Aside0.mk (blk_below (g := gb126) (o := .cells #[.bool a0_0, .slice A0_1 l0_1.length c0_1, .slice A0_2 l0_2.length c0_2] 25 (0, 0)) (by (with_reducible repeat (first | refine blk_drewN ?_ _ | refine blk_drew ?_ | refine blk_alloc ?_ _)); exact BK126.out) hb); have n1_ := Aside0.mk (below_step (by repeat (first | (with_reducible first | exact HB.out | apply below_alloc | apply pw_below_drewN | apply below_drew1 | refine below_set ?_ GE126.out) | exact HB.out)) hb); clear BK126; clear HB; have BK126 := n0_; have HB := n1_; clear n0_ n1_; (try clear hb); (try clear hb2); (try clear hk); (try clear hi)))
    go_ret
    exact ⟨by first | rfl | (simp [errW_none, errW_some] <;> rfl) | (simp [*, errW_none, errW_some] <;> rfl), by repeat (first | (with_reducible first | exact HB.out | apply below_alloc | apply pw_below_drewN | apply below_drew1 | refine below_set ?_ GE126.out) | exact HB.out)⟩
  · rw [if_neg c4] at H
    have c4b0 : (a0_0 == a1) = false := by simpa using c4
    (try (have c4b1 : decide (a0_0 = a1) = false := by simpa using c4))
    (try (have c4b2 : (a0_0 == a1) = false := by simpa using c4))
    (try (have c4b3 : ¬ (a0_0 = a1) := by simpa using c4))
    clear c4
    obtain rfl := Option.some.inj H
    go_enter Tryz.func8, Tryz.ntmps8
    go_wp2_with (first | ((with_reducible refine gate_dst (N := 3) rfl ?_); refine box_event ?hg (N := 3) ?hd (cs := #[.bool a0_0, .slice A0_1 l0_1.length c0_1, .slice A0_2 l0_2.length c0_2]) (t := 25) ?hr ?_; (case hd => rfl); (case hg => rfl); (case hr => first | (go_simp; done) | (go_simp; rfl)); intro gb126 hg w9 hbox hb; have n0_ := Aside0.mk (below_step (by repeat (first | (with_reducible first | exact HB.out | apply below_alloc | apply pw_below_drewN | apply below_drew1) | exact HB.out)) hb); have n1_ := Aside0.mk (hbox); have n2_ := Aside0.mk ((by rw [hg]; exact (below_size (by repeat (first | (with_reducible first | exact HB.out | apply below_alloc | apply pw_below_drewN | apply below_drew1) | exact HB.out))) : w.heap.size ≤ gb126)); have n3_ := Aside0.mk ((by rw [hg]; exact (below_size (by repeat (first | (with_reducible first | exact HB.out | apply below_alloc | apply pw_below_drewN | apply below_drew1) | exact HB.out))) : w.heap.size ≤ gb126)); clear HB; have HB := n0_; have BK126 := n1_; have GW126 := n2_; have GE126 := n3_; clear n0_ n1_ n2_ n3_; clear hb hbox hg; have hcz10_0 : w9.cell? ⟨gb126, 0, none⟩ = some (.bool a0_0) := (blk_cell BK126.out 0).trans rfl; have hcz10_1 : w9.cell? ⟨gb126, 1, none⟩ = some (.slice A0_1 l0_1.length c0_1) := (blk_cell BK126.out 1).trans rfl; have hcz10_2 : w9.cell? ⟨gb126, 2, none⟩ = some (.slice A0_2 l0_2.length c0_2) := (blk_cell BK126.out 2).trans rfl; have hfz10_0 := blk_frozen BK126.out 0; have hfz10_1 := blk_frozen BK126.out 1; have hfz10_2 := blk_frozen BK126.out 2))
    go_ret
    exact ⟨by first | rfl | (simp [errW_none, errW_some] <;> rfl) | (simp [*, errW_none, errW_some] <;> rfl), by repeat (first | (with_reducible first | exact HB.out | apply below_alloc | apply pw_below_drewN | apply below_drew1 | refine below_set ?_ GE126.out) | exact HB.out)⟩

-- NOT PRINTED: function 145 (cmp_isNaN_int64)

-- NOT PRINTED: function 127 (cmp_Less_int64)

-- NOT PRINTED: function 128 (slices_isNaN_int64)

-- NOT PRINTED: function 106 (slices_BinarySearch_int64_int64)

-- NOT PRINTED: function 70 (impl_plain_index)

-- NOT PRINTED: function 93 (bits_Len32)

-- NOT PRINTED: function 94 (bits_Len64)

-- NOT PRINTED: function 59 (bits_Len)

-- NOT PRINTED: function 129 (slices_insertionSortOrdered_int64)

-- NOT PRINTED: function 146 (slices_siftDownOrdered_int64)

-- NOT PRINTED: function 130 (slices_heapSortOrdered_int64)

-- NOT PRINTED: function 120 (slices_nextPowerOfTwo)

-- NOT PRINTED: function 121 (slices_xorshift_Next)

-- NOT PRINTED: function 131 (slices_breakPatternsOrdered_int64)

-- NOT PRINTED: function 160 (slices_order2Ordered_int64)

-- NOT PRINTED: function 148 (slices_medianOrdered_int64)

-- NOT PRINTED: function 147 (slices_medianAdjacentOrdered_int64)

-- NOT PRINTED: function 132 (slices_choosePivotOrdered_int64)

-- NOT PRINTED: function 133 (slices_reverseRangeOrdered_int64)

-- NOT PRINTED: function 134 (slices_partialInsertionSortOrdered_int64)

-- NOT PRINTED: function 135 (slices_partitionEqualOrdered_int64)

-- NOT PRINTED: function 136 (slices_partitionOrdered_int64)

-- NOT PRINTED: function 107 (slices_pdqsortOrdered_int64)

-- NOT PRINTED: function 73 (slices_Sort_int64_int64)

-- NOT PRINTED: function 74 (slices_Compact_int64_int64)

-- NOT PRINTED: function 75 (slices_Clone_int64_int64)

-- NOT PRINTED: function 137 (impl_arc_int)

-- NOT PRINTED: function 149 (impl_arc_149)

-- NOT PRINTED: function 165 (impl_arc_165)

-- NOT PRINTED: function 161 (impl_arc_161)

-- NOT PRINTED: function 150 (impl_arc_150)

-- NOT PRINTED: function 139 (impl_arc_139)

-- NOT PRINTED: function 108 (impl_set)

-- NOT PRINTED: function 76 (impl_plain_lay)

-- NOT PRINTED: function 52 (impl_read)

-- NOT PRINTED: function 27 (impl_bothWays)

-- NOT PRINTED: function 40 (impl_number)

-- NOT PRINTED: function 37 (impl_numbers)

-- NOT PRINTED: function 117 (cmp_isNaN_int)

-- NOT PRINTED: function 90 (cmp_Less_int)

-- NOT PRINTED: function 84 (slices_insertionSortOrdered_int)

-- NOT PRINTED: function 119 (slices_siftDownOrdered_int)

-- NOT PRINTED: function 85 (slices_heapSortOrdered_int)

-- NOT PRINTED: function 86 (slices_breakPatternsOrdered_int)

-- NOT PRINTED: function 143 (slices_order2Ordered_int)

-- NOT PRINTED: function 123 (slices_medianOrdered_int)

-- NOT PRINTED: function 122 (slices_medianAdjacentOrdered_int)

-- NOT PRINTED: function 87 (slices_choosePivotOrdered_int)

-- NOT PRINTED: function 88 (slices_reverseRangeOrdered_int)

-- NOT PRINTED: function 89 (slices_partialInsertionSortOrdered_int)

-- NOT PRINTED: function 91 (slices_partitionEqualOrdered_int)

-- NOT PRINTED: function 92 (slices_partitionOrdered_int)

-- NOT PRINTED: function 58 (slices_pdqsortOrdered_int)

-- NOT PRINTED: function 38 (slices_Sort_int_int)

-- NOT PRINTED: function 109 (slices_insertionSortCmpFunc_int)

-- NOT PRINTED: function 140 (slices_siftDownCmpFunc_int)

-- NOT PRINTED: function 110 (slices_heapSortCmpFunc_int)

-- NOT PRINTED: function 111 (slices_breakPatternsCmpFunc_int)

-- NOT PRINTED: function 151 (slices_order2CmpFunc_int)

-- NOT PRINTED: function 142 (slices_medianCmpFunc_int)

-- NOT PRINTED: function 141 (slices_medianAdjacentCmpFunc_int)

-- NOT PRINTED: function 112 (slices_choosePivotCmpFunc_int)

-- NOT PRINTED: function 113 (slices_reverseRangeCmpFunc_int)

-- NOT PRINTED: function 114 (slices_partialInsertionSortCmpFunc_int)

-- NOT PRINTED: function 115 (slices_partitionEqualCmpFunc_int)

-- NOT PRINTED: function 116 (slices_partitionCmpFunc_int)

-- NOT PRINTED: function 77 (slices_pdqsortCmpFunc_int)

-- NOT PRINTED: function 53 (slices_SortFunc_int_int)

-- NOT PRINTED: function 78 (cmp_Compare_int)

-- NOT PRINTED: function 54 (slices_Compare_int_int)

-- NOT PRINTED: function 28 (impl_lists)

-- NOT PRINTED: function 60 (traverse_DepthFirst_Reset)

-- NOT PRINTED: function 95 (set_Ints_int64_Has)

-- NOT PRINTED: function 61 (traverse_DepthFirst_Visited)

-- NOT PRINTED: function 96 (linear_NodeStack_Push)

-- NOT PRINTED: function 97 (linear_NodeStack_Len)

-- NOT PRINTED: function 98 (linear_NodeStack_Pop)

-- NOT PRINTED: function 99 (set_Ints_int64_Add)

-- NOT PRINTED: function 62 (traverse_DepthFirst_Walk)

-- NOT PRINTED: function 42 (traverse_DepthFirst_WalkAll)

-- NOT PRINTED: function 29 (topo_ConnectedComponents)

-- GIVEN: function 10 (impl_Components)

-- GIVEN: function 30 (impl_Edge)

/-! ### laws_with: function 11 -/
def laws_with.f (a0_0 : Bool) (l0_1 : List Int) (l0_2 : List (S34)) (a1_0 : Int) (a1_1 : Int) (a1_2 : Int) : Option (Bool × List Int × (List (S34))) := (impl_Edge.f l0_2).bind fun t131 => ((some (([(⟨a1_0, a1_1, a1_2⟩ : S34)] : List (S34)) : List (S34))).bind fun y134 => (if t131.length + y134.length < 5864062014805 then (some (a0_0, l0_1, (t131 ++ y134))) else (none)))
def laws_with.T1 : Bool × List (List Nat × List Nat) := (true, [([], []), ([0], [0]), ([], []), ([2], [2]), ([], []), ([4], [4]), ([5], [5]), ([], []), ([7], [7]), ([6, 8, 6], [6, 8]), ([1, 3, 9], [1, 3, 9]), ([10, 9, 0, 1, 2, 3, 4, 5, 6, 7, 8, 9, 10], [10])])
def laws_with.B1 : List Nat := [0, 1, 0, 4, 0, 16, 48, 0, 128, 496, 1023, 2047]
theorem laws_with.tab1 : rtab .any (opsOf Tryz.f11 1) = laws_with.T1 := by kernel_rfl
theorem laws_with.bits1 : waitsOk laws_with.T1.2 laws_with.B1 = true := by kernel_rfl
set_option maxHeartbeats 8000000 in
set_option maxRecDepth 100000 in
theorem laws_with.calls (a0_0 : Bool) (P0_1_ : Nat → Prop) (A0_1 : Option Addr) (c0_1 : Nat) (l0_1 : List Int) (A0_2 : Option Addr) (c0_2 : Nat) (l0_2 : List (S34)) (a1_0 : Int) (a1_1 : Int) (a1_2 : Int) (r1 : Bool) (r2 : List Int) (r3 : List (S34)) (w : World) (hs0_1 : Kd.V (Kd.int .i64) 3 w w.heap.size (fun k_ => P0_1_ k_) (.slice A0_1 l0_1.length c0_1) l0_1) (hr0_2 : Kd.C k34 w A0_2 l0_2.length l0_2) (hc0_2 : l0_2.length ≤ c0_2) (h : laws_with.f a0_0 l0_1 l0_2 a1_0 a1_1 a1_2 = some (r1, r2, r3)) :
    Calls Tryz.prog 11 #[.agg #[.bool a0_0, .slice A0_1 l0_1.length c0_1, .slice A0_2 l0_2.length c0_2], .agg #[.int .i64 a1_0, .int .i64 a1_1, .int .i64 a1_2]] w fun e w' => ∃ v1_ v2_ : Value, e = .returned (.agg #[.bool r1, v1_, v2_]) ∧ Kd.V (Kd.int .i64) 3 w' w.heap.size (fun k_ => (P0_1_ k_ ∨ w.heap.size ≤ k_) ∧ some k_ ≠ (v2_ : Value).ownBlock) v1_ r2 ∧ Kd.R k34 34 w' w.heap.size (fun k_ => (w.heap.size ≤ k_)) v2_ r3 ∧ Below w.heap.size w w' := by
  have hu25 := Tryz.underlying25
  have hu34 := Tryz.underlying34
  have HO0_1 := Aside0.mk (show Kd.V (Kd.int .i64) 3 w w.heap.size (fun k_ => (P0_1_ k_ ∨ w.heap.size ≤ k_)) (.slice A0_1 l0_1.length c0_1) l0_1 from Kd.V_mono hs0_1 (fun k_ hk => .inl hk))
  have HR0_2 := Aside0.mk hr0_2
  have HC0_2 := Aside0.mk hc0_2
  clear hr0_2 hc0_2
  have HB := Aside0.mk (Below.refl w.heap.size w)
  have H : ((impl_Edge.f l0_2).bind fun t131 => ((some (([(⟨a1_0, a1_1, a1_2⟩ : S34)] : List (S34)) : List (S34))).bind fun y134 => (if t131.length + y134.length < 5864062014805 then (some (a0_0, l0_1, (t131 ++ y134))) else (none)))) = some (r1, r2, r3) := h
  clear h
  replace H := Option.bind_eq_some_iff.mp H
  obtain ⟨t131, A30, H⟩ := H
  replace H : ((some (([(⟨a1_0, a1_1, a1_2⟩ : S34)] : List (S34)) : List (S34))).bind fun y134 => (if t131.length + y134.length < 5864062014805 then (some (a0_0, l0_1, (t131 ++ y134))) else (none))) = some (r1, r2, r3) := H
  have A3 := Aside0.mk A30
  clear A30
  obtain ⟨y134, hy134⟩ : ∃ y_ : List (S34), y_ = (([(⟨a1_0, a1_1, a1_2⟩ : S34)] : List (S34))) := ⟨_, rfl⟩
  replace H : (if t131.length + y134.length < 5864062014805 then (some (a0_0, l0_1, (t131 ++ y134))) else (none)) = some (r1, r2, r3) := by first | (rw [hy134]; with_reducible exact H) | (have H2_ := (Option.bind_some _ _).symm.trans H; rw [hy134]; with_reducible exact H2_) | (have H2_ := (Option.bind_some _ _).symm.trans H; with_reducible exact H2_) | with_reducible exact H | (rw [hy134]; exact H) | exact H
  have Ny134 := Aside0.mk hy134
  clear hy134
  by_cases c4 : t131.length + y134.length < 5864062014805
  · rw [if_pos c4] at H
    have LMc4 := Aside0.mk c4
    clear c4
    obtain ⟨y137, hy137⟩ : ∃ y_ : List (S34), y_ = (t131 ++ y134) := ⟨_, rfl⟩
    replace H : (some (a0_0, l0_1, y137)) = some (r1, r2, r3) := by first | (rw [hy137]; with_reducible exact H) | (have H2_ := (Option.bind_some _ _).symm.trans H; rw [hy137]; with_reducible exact H2_) | (have H2_ := (Option.bind_some _ _).symm.trans H; with_reducible exact H2_) | with_reducible exact H | (rw [hy137]; exact H) | exact H
    have Ny137 := Aside0.mk hy137
    clear hy137
    simp only [Option.some.injEq, Prod.mk.injEq] at H
    obtain ⟨rfl, rfl, rfl⟩ := H
    go_enter Tryz.func11, Tryz.ntmps11
    try go_wp2_with (first | ((with_reducible refine gate_dst (N := 2) rfl ?_); refine box_event ?hg (N := 2) ?hd (cs := #[.bool a0_0, .slice A0_1 l0_1.length c0_1, .slice A0_2 l0_2.length c0_2]) (t := 25) ?hr ?_; (case hd => rfl); (case hg => rfl); (case hr => first | (go_simp; done) | (go_simp; rfl)); intro gb128 hg w5 hbox hb; have n0_ := Aside0.mk (Kd.V_below (Kd.V_elderB (by (with_reducible repeat (first | apply Kd.V_alloc | apply Kd.V_drewN | apply Kd.V_drew)); exact HO0_1.out) gb128 (Nat.le_of_eq hg.symm)) hb); have n1_ := Aside0.mk (below_step (by repeat (first | (with_reducible first | exact HB.out | apply below_alloc | apply pw_below_drewN | apply below_drew1) | exact HB.out)) hb); have n2_ := Aside0.mk (hbox); have n3_ := Aside0.mk ((by rw [hg]; exact (below_size (by repeat (first | (with_reducible first | exact HB.out | apply below_alloc | apply pw_below_drewN | apply below_drew1) | exact HB.out))) : w.heap.size ≤ gb128)); have n4_ := Aside0.mk ((by rw [hg]; exact (below_size (by repeat (first | (with_reducible first | exact HB.out | apply below_alloc | apply pw_below_drewN | apply below_drew1) | exact HB.out))) : w.heap.size ≤ gb128)); clear HO0_1; clear HB; have HO0_1 := n0_; have HB := n1_; have BK128 := n2_; have GW128 := n3_; have GE128 := n4_; clear n0_ n1_ n2_ n3_ n4_; clear hb hbox hg) | ((with_reducible refine gate_dst (N := 3) rfl ?_); refine box_event ?hg (N := 3) ?hd (cs := #[.int .i64 a1_0, .int .i64 a1_1, .int .i64 a1_2]) (t := 34) ?hr ?_; (case hd => rfl); (case hg => rfl); (case hr => first | (go_simp; done) | (go_simp; rfl)); intro gb129 hg w6 hbox hb; have n0_ := Aside0.mk (Kd.V_below (Kd.V_elderB (by (with_reducible repeat (first | apply Kd.V_alloc | apply Kd.V_drewN | apply Kd.V_drew)); exact HO0_1.out) gb129 (Nat.le_of_eq hg.symm)) hb); have n1_ := Aside0.mk (blk_below (g := gb128) (o := .cells #[.bool a0_0, .slice A0_1 l0_1.length c0_1, .slice A0_2 l0_2.length c0_2] 25 (0, 0)) (by (with_reducible repeat (first | refine blk_drewN ?_ _ | refine blk_drew ?_ | refine blk_alloc ?_ _)); exact BK128.out) hb); have n2_ := Aside0.mk (below_step (by repeat (first | (with_reducible first | exact HB.out | apply below_alloc | apply pw_below_drewN | apply below_drew1 | refine below_set ?_ GE128.out) | exact HB.out)) hb); have n3_ := Aside0.mk (hbox); have n4_ := Aside0.mk ((by rw [hg]; exact (below_size (by repeat (first | (with_reducible first | exact HB.out | apply below_alloc | apply pw_below_drewN | apply below_drew1 | refine below_set ?_ GE128.out) | exact HB.out))) : w.heap.size ≤ gb129)); have n5_ := Aside0.mk ((by rw [hg]; exact (below_size (by repeat (first | (with_reducible first | exact HB.out | apply below_alloc | apply pw_below_drewN | apply below_drew1 | refine below_set ?_ GE128.out) | exact HB.out))) : w.heap.size ≤ gb129)); have n6_ := Aside0.mk ((by rw [hg]; exact Nat.ne_of_lt (blk_lt (g := gb128) (o := .cells #[.bool a0_0, .slice A0_1 l0_1.length c0_1, .slice A0_2 l0_2.length c0_2] 25 (0, 0)) (by (with_reducible repeat (first | refine blk_drewN ?_ _ | refine blk_drew ?_ | refine blk_alloc ?_ _)); exact BK128.out)) : gb128 ≠ gb129)); have n7_ := Aside0.mk ((by rw [hg]; exact Nat.ne_of_gt (blk_lt (g := gb128) (o := .cells #[.bool a0_0, .slice A0_1 l0_1.length c0_1, .slice A0_2 l0_2.length c0_2] 25 (0, 0)) (by (with_reducible repeat (first | refine blk_drewN ?_ _ | refine blk_drew ?_ | refine blk_alloc ?_ _)); exact BK128.out)) : gb129 ≠ gb128)); clear HO0_1; clear BK128; clear HB; have HO0_1 := n0_; have BK128 := n1_; have HB := n2_; have BK129 := n3_; have GW129 := n4_; have GE129 := n5_; have NB128_129 := n6_; have NB129_128 := n7_; clear n0_ n1_ n2_ n3_ n4_ n5_ n6_ n7_; clear hb hbox hg) | ((with_reducible refine gate_dst (N := 4) rfl ?_); refine box_event ?hg (N := 4) ?hd (cs := #[.bool false, .slice none 0 0, .slice none 0 0]) (t := 25) ?hr ?_; (case hd => rfl); (case hg => rfl); (case hr => first | (go_simp; done) | (go_simp; rfl)); intro gb130 hg w7 hbox hb; have n0_ := Aside0.mk (Kd.V_below (Kd.V_elderB (by (with_reducible repeat (first | apply Kd.V_alloc | apply Kd.V_drewN | apply Kd.V_drew)); exact HO0_1.out) gb130 (Nat.le_of_eq hg.symm)) hb); have n1_ := Aside0.mk (blk_below (g := gb128) (o := .cells #[.bool a0_0, .slice A0_1 l0_1.length c0_1, .slice A0_2 l0_2.length c0_2] 25 (0, 0)) (by (with_reducible repeat (first | refine blk_drewN ?_ _ | refine blk_drew ?_ | refine blk_alloc ?_ _)); exact BK128.out) hb); have n2_ := Aside0.mk (blk_below (g := gb129) (o := .cells #[.int .i64 a1_0, .int .i64 a1_1, .int .i64 a1_2] 34 (0, 0)) (by (with_reducible repeat (first | refine blk_drewN ?_ _ | refine blk_drew ?_ | refine blk_alloc ?_ _)); exact BK129.out) hb); have n3_ := Aside0.mk (below_step (by repeat (first | (with_reducible first | exact HB.out | apply below_alloc | apply pw_below_drewN | apply below_drew1 | refine below_set ?_ GE128.out | refine below_set ?_ GE129.out) | exact HB.out)) hb); have n4_ := Aside0.mk (hbox); have n5_ := Aside0.mk ((by rw [hg]; exact (below_size (by repeat (first | (with_reducible first | exact HB.out | apply below_alloc | apply pw_below_drewN | apply below_drew1 | refine below_set ?_ GE128.out | refine below_set ?_ GE129.out) | exact HB.out))) : w.heap.size ≤ gb130)); have n6_ := Aside0.mk ((by rw [hg]; exact (below_size (by repeat (first | (with_reducible first | exact HB.out | apply below_alloc | apply pw_below_drewN | apply below_drew1 | refine below_set ?_ GE128.out | refine below_set ?_ GE129.out) | exact HB.out))) : w.heap.size ≤ gb130)); have n7_ := Aside0.mk ((by rw [hg]; exact Nat.ne_of_lt (blk_lt (g := gb128) (o := .cells #[.bool a0_0, .slice A0_1 l0_1.length c0_1, .slice A0_2 l0_2.length c0_2] 25 (0, 0)) (by (with_reducible repeat (first | refine blk_drewN ?_ _ | refine blk_drew ?_ | refine blk_alloc ?_ _)); exact BK128.out)) : gb128 ≠ gb130)); have n8_ := Aside0.mk ((by rw [hg]; exact Nat.ne_of_gt (blk_lt (g := gb128) (o := .cells #[.bool a0_0, .slice A0_1 l0_1.length c0_1, .slice A0_2 l0_2.length c0_2] 25 (0, 0)) (by (with_reducible repeat (first | refine blk_drewN ?_ _ | refine blk_drew ?_ | refine blk_alloc ?_ _)); exact BK128.out)) : gb130 ≠ gb128)); have n9_ := Aside0.mk ((by rw [hg]; exact Nat.ne_of_lt (blk_lt (g := gb129) (o := .cells #[.int .i64 a1_0, .int .i64 a1_1, .int .i64 a1_2] 34 (0, 0)) (by (with_reducible repeat (first | refine blk_drewN ?_ _ | refine blk_drew ?_ | refine blk_alloc ?_ _)); exact BK129.out)) : gb129 ≠ gb130)); have n10_ := Aside0.mk ((by rw [hg]; exact Nat.ne_of_gt (blk_lt (g := gb129) (o := .cells #[.int .i64 a1_0, .int .i64 a1_1, .int .i64 a1_2] 34 (0, 0)) (by (with_reducible repeat (first | refine blk_drewN ?_ _ | refine blk_drew ?_ | refine blk_alloc ?_ _)); exact BK129.out)) : gb130 ≠ gb129)); clear HO0_1; clear BK128; clear BK129; clear HB; have HO0_1 := n0_; have BK128 := n1_; have BK129 := n2_; have HB := n3_; have BK130 := n4_; have GW130 := n5_; have GE130 := n6_; have NB128_130 := n7_; have NB130_128 := n8_; have NB129_130 := n9_; have NB130_129 := n10_; clear n0_ n1_ n2_ n3_ n4_ n5_ n6_ n7_ n8_ n9_ n10_; clear hb hbox hg))
    have n0_ := Aside0.mk (Kd.V_drew HO0_1.out)
    have n1_ := Aside0.mk (blk_drew BK128.out)
    have n2_ := Aside0.mk (blk_drew BK129.out)
    have n3_ := Aside0.mk (blk_drew BK130.out)
    have n4_ := Aside0.mk (below_drew1 HB.out)
    clear HO0_1
    clear BK128
    clear BK129
    clear BK130
    clear HB
    have HO0_1 := n0_
    have BK128 := n1_
    have BK129 := n2_
    have BK130 := n3_
    have HB := n4_
    clear n0_ n1_ n2_ n3_ n4_
    refine start_ (n := 12) (S := fun w' => w'.cell? ⟨gb128, 0, none⟩ = some (.bool a0_0) ∧ w'.cell? ⟨gb128, 1, none⟩ = some (.slice A0_1 l0_1.length c0_1) ∧ w'.cell? ⟨gb128, 2, none⟩ = some (.slice A0_2 l0_2.length c0_2) ∧ w'.cell? ⟨gb129, 0, none⟩ = some (.int .i64 a1_0) ∧ w'.cell? ⟨gb129, 1, none⟩ = some (.int .i64 a1_1) ∧ w'.cell? ⟨gb129, 2, none⟩ = some (.int .i64 a1_2)) (ds := []) #[false, false, false, false, false, false, false, false, false, false, false, false] (by kernel_rfl) rfl rfl ⟨(blk_cell BK128.out 0).trans rfl, (blk_cell BK128.out 1).trans rfl, (blk_cell BK128.out 2).trans rfl, (blk_cell BK129.out 0).trans rfl, (blk_cell BK129.out 1).trans rfl, (blk_cell BK129.out 2).trans rfl⟩ (fun hHeld => ?_); refine with_tabW laws_with.tab1 laws_with.bits1 (fun HT_ HW_ => ?_)
    generalize w7.drew = w8 at HO0_1 BK128 BK129 BK130 HB hHeld ⊢
    refine pure_ (i := 0) (N := some 5) (v := ?_) (a' := ?_) #[true, false, false, false, false, false, false, false, false, false, false, false] rfl rfl (any_of HT_.out (by kernel_rfl)) (fun _ _ _ h => h) (Or.inl ⟨by rfl, ?_⟩) ?_ ?_
    rotate_left
    · intro w'
      go_simp
      with_reducible rfl
    rotate_left
    · simp only [Act.put, List.setIfInBounds_toArray, List.set_cons_zero, List.set_cons_succ, i64_w, i32_w]
      rfl
    refine pure_ (i := 2) (N := some 7) (v := ?_) (a' := ?_) #[true, false, true, false, false, false, false, false, false, false, false, false] rfl rfl (any_of HT_.out (by kernel_rfl)) (fun _ _ _ h => h) (Or.inl ⟨by rfl, ?_⟩) ?_ ?_
    rotate_left
    · intro w'
      go_simp
      with_reducible rfl
    rotate_left
    · simp only [Act.put, List.setIfInBounds_toArray, List.set_cons_zero, List.set_cons_succ, i64_w, i32_w]
      rfl
    refine pure_ (i := 4) (N := some 9) (v := ?_) (a' := ?_) #[true, false, true, false, true, false, false, false, false, false, false, false] rfl rfl (any_of HT_.out (by kernel_rfl)) (fun _ _ _ h => h) (Or.inl ⟨by rfl, ?_⟩) ?_ ?_
    rotate_left
    · intro w'
      go_simp
      with_reducible rfl
    rotate_left
    · simp only [Act.put, List.setIfInBounds_toArray, List.set_cons_zero, List.set_cons_succ, i64_w, i32_w]
      rfl
    refine take_ (i := 1) (N := some 6) (v := ?_) (a' := ?_) #[true, true, true, false, true, false, false, false, false, false, false, false] rfl rfl (take_ofW HT_.out HW_.out (by kernel_rfl)) (fun _ _ _ h => h) (Or.inl ⟨by rfl, ?_⟩) hHeld ?_ ?_
    rotate_left
    · rintro w' ⟨s0, s1, s2, s3, s4, s5⟩
      go_simp
      with_reducible rfl
    rotate_left
    · simp only [Act.put, List.setIfInBounds_toArray, List.set_cons_zero, List.set_cons_succ, i64_w, i32_w]
      rfl
    refine take_ (i := 3) (N := some 8) (v := ?_) (a' := ?_) #[true, true, true, true, true, false, false, false, false, false, false, false] rfl rfl (take_ofW HT_.out HW_.out (by kernel_rfl)) (fun _ _ _ h => h) (Or.inl ⟨by rfl, ?_⟩) hHeld ?_ ?_
    rotate_left
    · rintro w' ⟨s0, s1, s2, s3, s4, s5⟩
      go_simp
      with_reducible rfl
    rotate_left
    · simp only [Act.put, List.setIfInBounds_toArray, List.set_cons_zero, List.set_cons_succ, i64_w, i32_w]
      rfl
    refine take_ (i := 5) (N := some 10) (v := ?_) (a' := ?_) #[true, true, true, true, true, true, false, false, false, false, false, false] rfl rfl (take_ofW HT_.out HW_.out (by kernel_rfl)) (fun _ _ _ h => h) (Or.inl ⟨by rfl, ?_⟩) hHeld ?_ ?_
    rotate_left
    · rintro w' ⟨s0, s1, s2, s3, s4, s5⟩
      go_simp
      with_reducible rfl
    rotate_left
    · simp only [Act.put, List.setIfInBounds_toArray, List.set_cons_zero, List.set_cons_succ, i64_w, i32_w]
      rfl
    refine take_ (i := 7) (N := some 12) (v := ?_) (a' := ?_) #[true, true, true, true, true, true, false, true, false, false, false, false] rfl rfl (take_ofW HT_.out HW_.out (by kernel_rfl)) (fun _ _ _ h => h) (Or.inl ⟨by rfl, ?_⟩) hHeld ?_ ?_
    rotate_left
    · rintro w' ⟨s0, s1, s2, s3, s4, s5⟩
      go_simp
      with_reducible rfl
    rotate_left
    · simp only [Act.put, List.setIfInBounds_toArray, List.set_cons_zero, List.set_cons_succ, i64_w, i32_w]
      rfl
    refine join_ (σ := Value × Value) 3 #[true, true, true, true, true, true, true, true, true, false, false, false] (fun s_ => [(11, s_.1), (13, s_.2)]) (fun s_ w' => (w'.cell? ⟨gb128, 0, none⟩ = some (.bool a0_0) ∧ w'.cell? ⟨gb128, 1, none⟩ = some (.slice A0_1 l0_1.length c0_1) ∧ w'.cell? ⟨gb128, 2, none⟩ = some (.slice A0_2 l0_2.length c0_2) ∧ w'.cell? ⟨gb129, 0, none⟩ = some (.int .i64 a1_0) ∧ w'.cell? ⟨gb129, 1, none⟩ = some (.int .i64 a1_1) ∧ w'.cell? ⟨gb129, 2, none⟩ = some (.int .i64 a1_2)) ∧ (Kd.V (Kd.int .i64) 3 w' w.heap.size (fun k_ => (P0_1_ k_ ∨ w.heap.size ≤ k_) ∧ some k_ ≠ (s_.1 : Value).ownBlock ∧ some k_ ≠ (s_.2 : Value).ownBlock ∧ k_ ≠ gb128 ∧ k_ ≠ gb129 ∧ k_ ≠ gb130) (.slice A0_1 l0_1.length c0_1) l0_1) ∧ (Kd.R k34 34 w' w.heap.size (fun k_ => (w.heap.size ≤ k_) ∧ some k_ ≠ (s_.2 : Value).ownBlock ∧ k_ ≠ gb129) s_.1 t131) ∧ (Kd.R k34 34 w' w.heap.size (fun k_ => (w.heap.size ≤ k_) ∧ some k_ ≠ (s_.1 : Value).ownBlock ∧ k_ ≠ gb129) s_.2 y134) ∧ (w'.heap[gb128]? = some (.cells #[.bool a0_0, .slice A0_1 l0_1.length c0_1, .slice A0_2 l0_2.length c0_2] 25 (0, 0))) ∧ (w'.heap[gb129]? = some (.cells #[.int .i64 a1_0, .int .i64 a1_1, .int .i64 a1_2] 34 (0, 0))) ∧ (w'.heap[gb130]? = some (.cells #[.bool false, .slice none 0 0, .slice none 0 0] 25 (0, 0))) ∧ (Below w.heap.size w w')) ?_ ?_
    rotate_left
    · intro hCont
      refine two_ (i := 6) (j := 8) (Ni := some 11) (Nj := some 13) #[true, true, true, true, true, true, true, true, false, false, false, false] #[true, true, true, true, true, true, false, true, true, false, false, false] rfl rfl rfl rfl (two_of HT_.out (by kernel_rfl)) (by decide) (by decide) (fun K hK => ?_) (fun K hK => ?_)
      · skip
        refine goes_ Tryz.func30 (by kernel_rfl) rfl #[.slice A0_2 l0_2.length c0_2] (by rfl) rfl rfl (by (try simp only [List.map_toArray, List.map_cons, List.map_nil]); first | done | rfl | (simp only [List.length_drop, List.length_take]; rfl)) ?_
        with_reducible refine (impl_Edge.calls _ _ l0_2 t131 _ ?side1 ?side2 A3.out).mono ?_
        (case side1 => repeat (first | exact (Kd.C_below HR0_2.out HB.out) | (with_reducible refine Kd.C_alloc ?_ _) | (with_reducible refine Kd.C_drewN ?_ _) | (with_reducible refine Kd.C_drew ?_)))
        (case side2 => exact HC0_2.out)
        rintro e w9 ⟨v132, rfl, ho0, hb⟩
        refine ⟨_, rfl, ?_⟩
        have n0_ := Aside0.mk (Kd.V_elder' (by (with_reducible repeat (first | apply Kd.V_alloc | apply Kd.V_drewN | apply Kd.V_drew)); exact HO0_1.out) (Kd.R_base ho0) hb)
        have n1_ := Aside0.mk (Kd.R_lower (Kd.R_newB (Kd.R_newM (M := fun k_ => (w.heap.size ≤ k_)) ho0 (below_size (by repeat (first | (with_reducible first | exact HB.out | apply below_alloc | apply pw_below_drewN | apply below_drew1 | refine below_set ?_ GE128.out | refine below_set ?_ GE129.out | refine below_set ?_ GE130.out) | exact HB.out))) (fun k_ h_ => h_)) (g := gb129) (o := .cells #[.int .i64 a1_0, .int .i64 a1_1, .int .i64 a1_2] 34 (0, 0)) (by (with_reducible repeat (first | refine blk_drewN ?_ _ | refine blk_drew ?_ | refine blk_alloc ?_ _)); exact BK129.out)) (below_size (by repeat (first | (with_reducible first | exact HB.out | apply below_alloc | apply pw_below_drewN | apply below_drew1 | refine below_set ?_ GE128.out | refine below_set ?_ GE129.out | refine below_set ?_ GE130.out) | exact HB.out))))
        have n2_ := Aside0.mk (blk_below (g := gb128) (o := .cells #[.bool a0_0, .slice A0_1 l0_1.length c0_1, .slice A0_2 l0_2.length c0_2] 25 (0, 0)) (by (with_reducible repeat (first | refine blk_drewN ?_ _ | refine blk_drew ?_ | refine blk_alloc ?_ _)); exact BK128.out) hb)
        have n3_ := Aside0.mk (blk_below (g := gb129) (o := .cells #[.int .i64 a1_0, .int .i64 a1_1, .int .i64 a1_2] 34 (0, 0)) (by (with_reducible repeat (first | refine blk_drewN ?_ _ | refine blk_drew ?_ | refine blk_alloc ?_ _)); exact BK129.out) hb)
        have n4_ := Aside0.mk (blk_below (g := gb130) (o := .cells #[.bool false, .slice none 0 0, .slice none 0 0] 25 (0, 0)) (by (with_reducible repeat (first | refine blk_drewN ?_ _ | refine blk_drew ?_ | refine blk_alloc ?_ _)); exact BK130.out) hb)
        have n5_ := Aside0.mk (below_step (by repeat (first | (with_reducible first | exact HB.out | apply below_alloc | apply pw_below_drewN | apply below_drew1 | refine below_set ?_ GE128.out | refine below_set ?_ GE129.out | refine below_set ?_ GE130.out) | exact HB.out)) hb)
        clear HO0_1
        clear BK128
        clear BK129
        clear BK130
        clear HB
        have HO0_1 := n0_
        have HO133 := n1_
        have BK128 := n2_
        have BK129 := n3_
        have BK130 := n4_
        have HB := n5_
        clear n0_ n1_ n2_ n3_ n4_ n5_
        (try clear hb)
        (try clear hb2)
        (try clear hk)
        (try clear hi)
        (try clear ho0)
        refine hK.out _ _ ⟨(blk_cell BK128.out 0).trans rfl, (blk_cell BK128.out 1).trans rfl, (blk_cell BK128.out 2).trans rfl, (blk_cell BK129.out 0).trans rfl, (blk_cell BK129.out 1).trans rfl, (blk_cell BK129.out 2).trans rfl⟩ (fun hHeld => ?_)
        clear hK K
        refine norm_ (a' := ?_) ?_ ?_
        rotate_left
        · show Act.put _ (some 11) _ = _
          simp only [Act.put, List.setIfInBounds_toArray, List.set_cons_zero, List.set_cons_succ, i64_w, i32_w]
          rfl
        refine one_ (i := 8) (N := some 13) #[true, true, true, true, true, true, true, true, true, false, false, false] rfl rfl (one_of HT_.out (by kernel_rfl)) (by decide) (fun K hK => ?_)
        refine Kd.R_lit_step k34 _ 34 ?hg (N := 13) ?hd (xs := ([(⟨a1_0, a1_1, a1_2⟩ : S34)] : List (S34))) (inner := [.int .i64 a1_0, .int .i64 a1_1, .int .i64 a1_2]) (ok := fun _ => True) (okp := fun _ => True) ?hr ?hp (fun _ hk => hk) trivial (Below.refl _ _) (Nat.le_refl _) (by simp) ?_; (case hd => rfl); (case hg => rfl); (case hr => first | (go_simp; done) | (go_simp; rfl)); (case hp => exact (Reps.c3 (show Kd.M k34 _ _ _ (⟨a1_0, a1_1, a1_2⟩ : S34) [.int .i64 a1_0, .int .i64 a1_1, .int .i64 a1_2] from (k34_mkM _ _ _ (⟨a1_0, a1_1, a1_2⟩ : S34) )) (Reps.none _ _)))
        intro v135 w10 ho11 hb hg_ hnew_
        clear hg_ hnew_
        (first | rw [← Ny134.out] at ho11 | (simp only [Int.reduceToNat] at ho11; rw [← Ny134.out] at ho11))
        have n0_ := Aside0.mk (Kd.V_elder' (by (with_reducible repeat (first | apply Kd.V_alloc | apply Kd.V_drewN | apply Kd.V_drew)); exact HO0_1.out) (Kd.R_base ho11) hb)
        have n1_ := Aside0.mk (Kd.R_elder' (by (with_reducible repeat (first | apply Kd.R_alloc | apply Kd.R_drewN | apply Kd.R_drew)); exact HO133.out) (Kd.R_base ho11) hb)
        have n2_ := Aside0.mk (Kd.R_lower (Kd.R_newB (Kd.R_new' (Kd.R_newM (M := fun k_ => (w.heap.size ≤ k_)) ho11 (below_size (by repeat (first | (with_reducible first | exact HB.out | apply below_alloc | apply pw_below_drewN | apply below_drew1 | refine below_set ?_ GE128.out | refine below_set ?_ GE129.out | refine below_set ?_ GE130.out) | exact HB.out))) (fun k_ h_ => h_)) (Kd.R_lt (by (with_reducible repeat (first | apply Kd.R_alloc | apply Kd.R_drewN | apply Kd.R_drew)); exact HO133.out))) (g := gb129) (o := .cells #[.int .i64 a1_0, .int .i64 a1_1, .int .i64 a1_2] 34 (0, 0)) (by (with_reducible repeat (first | refine blk_drewN ?_ _ | refine blk_drew ?_ | refine blk_alloc ?_ _)); exact BK129.out)) (below_size (by repeat (first | (with_reducible first | exact HB.out | apply below_alloc | apply pw_below_drewN | apply below_drew1 | refine below_set ?_ GE128.out | refine below_set ?_ GE129.out | refine below_set ?_ GE130.out) | exact HB.out))))
        have n3_ := Aside0.mk (blk_below (g := gb128) (o := .cells #[.bool a0_0, .slice A0_1 l0_1.length c0_1, .slice A0_2 l0_2.length c0_2] 25 (0, 0)) (by (with_reducible repeat (first | refine blk_drewN ?_ _ | refine blk_drew ?_ | refine blk_alloc ?_ _)); exact BK128.out) hb)
        have n4_ := Aside0.mk (blk_below (g := gb129) (o := .cells #[.int .i64 a1_0, .int .i64 a1_1, .int .i64 a1_2] 34 (0, 0)) (by (with_reducible repeat (first | refine blk_drewN ?_ _ | refine blk_drew ?_ | refine blk_alloc ?_ _)); exact BK129.out) hb)
        have n5_ := Aside0.mk (blk_below (g := gb130) (o := .cells #[.bool false, .slice none 0 0, .slice none 0 0] 25 (0, 0)) (by (with_reducible repeat (first | refine blk_drewN ?_ _ | refine blk_drew ?_ | refine blk_alloc ?_ _)); exact BK130.out) hb)
        have n6_ := Aside0.mk (below_step (by repeat (first | (with_reducible first | exact HB.out | apply below_alloc | apply pw_below_drewN | apply below_drew1 | refine below_set ?_ GE128.out | refine below_set ?_ GE129.out | refine below_set ?_ GE130.out) | exact HB.out)) hb)
        clear HO0_1
        clear HO133
        clear BK128
        clear BK129
        clear BK130
        clear HB
        have HO0_1 := n0_
        have HO133 := n1_
        have HO136 := n2_
        have BK128 := n3_
        have BK129 := n4_
        have BK130 := n5_
        have HB := n6_
        clear n0_ n1_ n2_ n3_ n4_ n5_ n6_
        clear hb ho11
        refine hK.out _ _ ⟨(blk_cell BK128.out 0).trans rfl, (blk_cell BK128.out 1).trans rfl, (blk_cell BK128.out 2).trans rfl, (blk_cell BK129.out 0).trans rfl, (blk_cell BK129.out 1).trans rfl, (blk_cell BK129.out 2).trans rfl⟩ (fun hHeld => ?_)
        clear hK K
        refine norm_ (a' := ?_) ?_ ?_
        rotate_left
        · show Act.put _ (some 13) _ = _
          simp only [Act.put, List.setIfInBounds_toArray, List.set_cons_zero, List.set_cons_succ, i64_w, i32_w]
          rfl
        exact norm_ (by simp only [putAll, Act.put, List.setIfInBounds_toArray, List.set_cons_zero, List.set_cons_succ]) (hCont (v132, v135) _ ⟨hHeld, (by (with_reducible repeat (first | apply Kd.V_alloc | apply Kd.V_drewN | apply Kd.V_drew)); exact Kd.V_mono HO0_1.out (fun _ hk => ⟨hk.1.1.1.1.1, ⟨hk.1.2, ⟨hk.2, ⟨hk.1.1.1.1.2, ⟨hk.1.1.1.2, hk.1.1.2⟩⟩⟩⟩⟩)), (by (with_reducible repeat (first | apply Kd.R_alloc | apply Kd.R_drewN | apply Kd.R_drew)); exact Kd.R_mono HO133.out (fun _ hk => ⟨hk.1.1.1, ⟨hk.2, hk.1.2⟩⟩)), (by (with_reducible repeat (first | apply Kd.R_alloc | apply Kd.R_drewN | apply Kd.R_drew)); exact Kd.R_mono HO136.out (fun _ hk => ⟨hk.1.1.1, ⟨hk.1.2, hk.2⟩⟩)), (by (with_reducible repeat (first | refine blk_drewN ?_ _ | refine blk_drew ?_ | refine blk_alloc ?_ _)); exact BK128.out), (by (with_reducible repeat (first | refine blk_drewN ?_ _ | refine blk_drew ?_ | refine blk_alloc ?_ _)); exact BK129.out), (by (with_reducible repeat (first | refine blk_drewN ?_ _ | refine blk_drew ?_ | refine blk_alloc ?_ _)); exact BK130.out), (by repeat (first | (with_reducible first | exact HB.out | apply below_alloc | apply pw_below_drewN | apply below_drew1 | refine below_set ?_ GE128.out | refine below_set ?_ GE129.out | refine below_set ?_ GE130.out) | exact HB.out))⟩)
      · skip
        refine Kd.R_lit_step k34 _ 34 ?hg (N := 13) ?hd (xs := ([(⟨a1_0, a1_1, a1_2⟩ : S34)] : List (S34))) (inner := [.int .i64 a1_0, .int .i64 a1_1, .int .i64 a1_2]) (ok := fun _ => True) (okp := fun _ => True) ?hr ?hp (fun _ hk => hk) trivial (Below.refl _ _) (Nat.le_refl _) (by simp) ?_; (case hd => rfl); (case hg => rfl); (case hr => first | (go_simp; done) | (go_simp; rfl)); (case hp => exact (Reps.c3 (show Kd.M k34 _ _ _ (⟨a1_0, a1_1, a1_2⟩ : S34) [.int .i64 a1_0, .int .i64 a1_1, .int .i64 a1_2] from (k34_mkM _ _ _ (⟨a1_0, a1_1, a1_2⟩ : S34) )) (Reps.none _ _)))
        intro v135 w9 ho10 hb hg_ hnew_
        clear hg_ hnew_
        (first | rw [← Ny134.out] at ho10 | (simp only [Int.reduceToNat] at ho10; rw [← Ny134.out] at ho10))
        have n0_ := Aside0.mk (Kd.V_elder' (by (with_reducible repeat (first | apply Kd.V_alloc | apply Kd.V_drewN | apply Kd.V_drew)); exact HO0_1.out) (Kd.R_base ho10) hb)
        have n1_ := Aside0.mk (Kd.R_lower (Kd.R_newB (Kd.R_newM (M := fun k_ => (w.heap.size ≤ k_)) ho10 (below_size (by repeat (first | (with_reducible first | exact HB.out | apply below_alloc | apply pw_below_drewN | apply below_drew1 | refine below_set ?_ GE128.out | refine below_set ?_ GE129.out | refine below_set ?_ GE130.out) | exact HB.out))) (fun k_ h_ => h_)) (g := gb129) (o := .cells #[.int .i64 a1_0, .int .i64 a1_1, .int .i64 a1_2] 34 (0, 0)) (by (with_reducible repeat (first | refine blk_drewN ?_ _ | refine blk_drew ?_ | refine blk_alloc ?_ _)); exact BK129.out)) (below_size (by repeat (first | (with_reducible first | exact HB.out | apply below_alloc | apply pw_below_drewN | apply below_drew1 | refine below_set ?_ GE128.out | refine below_set ?_ GE129.out | refine below_set ?_ GE130.out) | exact HB.out))))
        have n2_ := Aside0.mk (blk_below (g := gb128) (o := .cells #[.bool a0_0, .slice A0_1 l0_1.length c0_1, .slice A0_2 l0_2.length c0_2] 25 (0, 0)) (by (with_reducible repeat (first | refine blk_drewN ?_ _ | refine blk_drew ?_ | refine blk_alloc ?_ _)); exact BK128.out) hb)
        have n3_ := Aside0.mk (blk_below (g := gb129) (o := .cells #[.int .i64 a1_0, .int .i64 a1_1, .int .i64 a1_2] 34 (0, 0)) (by (with_reducible repeat (first | refine blk_drewN ?_ _ | refine blk_drew ?_ | refine blk_alloc ?_ _)); exact BK129.out) hb)
        have n4_ := Aside0.mk (blk_below (g := gb130) (o := .cells #[.bool false, .slice none 0 0, .slice none 0 0] 25 (0, 0)) (by (with_reducible repeat (first | refine blk_drewN ?_ _ | refine blk_drew ?_ | refine blk_alloc ?_ _)); exact BK130.out) hb)
        have n5_ := Aside0.mk (below_step (by repeat (first | (with_reducible first | exact HB.out | apply below_alloc | apply pw_below_drewN | apply below_drew1 | refine below_set ?_ GE128.out | refine below_set ?_ GE129.out | refine below_set ?_ GE130.out) | exact HB.out)) hb)
        clear HO0_1
        clear BK128
        clear BK129
        clear BK130
        clear HB
        have HO0_1 := n0_
        have HO136 := n1_
        have BK128 := n2_
        have BK129 := n3_
        have BK130 := n4_
        have HB := n5_
        clear n0_ n1_ n2_ n3_ n4_ n5_
        clear hb ho10
        refine hK.out _ _ ⟨(blk_cell BK128.out 0).trans rfl, (blk_cell BK128.out 1).trans rfl, (blk_cell BK128.out 2).trans rfl, (blk_cell BK129.out 0).trans rfl, (blk_cell BK129.out 1).trans rfl, (blk_cell BK129.out 2).trans rfl⟩ (fun hHeld => ?_)
        clear hK K
        refine norm_ (a' := ?_) ?_ ?_
        rotate_left
        · show Act.put _ (some 13) _ = _
          simp only [Act.put, List.setIfInBounds_toArray, List.set_cons_zero, List.set_cons_succ, i64_w, i32_w]
          rfl
        refine one_ (i := 6) (N := some 11) #[true, true, true, true, true, true, true, true, true, false, false, false] rfl rfl (one_of HT_.out (by kernel_rfl)) (by decide) (fun K hK => ?_)
        refine goes_ Tryz.func30 (by kernel_rfl) rfl #[.slice A0_2 l0_2.length c0_2] (by rfl) rfl rfl (by (try simp only [List.map_toArray, List.map_cons, List.map_nil]); first | done | rfl | (simp only [List.length_drop, List.length_take]; rfl)) ?_
        with_reducible refine (impl_Edge.calls _ _ l0_2 t131 _ ?side1 ?side2 A3.out).mono ?_
        (case side1 => repeat (first | exact (Kd.C_below HR0_2.out HB.out) | (with_reducible refine Kd.C_alloc ?_ _) | (with_reducible refine Kd.C_drewN ?_ _) | (with_reducible refine Kd.C_drew ?_)))
        (case side2 => exact HC0_2.out)
        rintro e w11 ⟨v132, rfl, ho0, hb⟩
        refine ⟨_, rfl, ?_⟩
        have n0_ := Aside0.mk (Kd.V_elder' (by (with_reducible repeat (first | apply Kd.V_alloc | apply Kd.V_drewN | apply Kd.V_drew)); exact HO0_1.out) (Kd.R_base ho0) hb)
        have n1_ := Aside0.mk (Kd.R_elder' (by (with_reducible repeat (first | apply Kd.R_alloc | apply Kd.R_drewN | apply Kd.R_drew)); exact HO136.out) (Kd.R_base ho0) hb)
        have n2_ := Aside0.mk (Kd.R_lower (Kd.R_newB (Kd.R_new' (Kd.R_newM (M := fun k_ => (w.heap.size ≤ k_)) ho0 (below_size (by repeat (first | (with_reducible first | exact HB.out | apply below_alloc | apply pw_below_drewN | apply below_drew1 | refine below_set ?_ GE128.out | refine below_set ?_ GE129.out | refine below_set ?_ GE130.out) | exact HB.out))) (fun k_ h_ => h_)) (Kd.R_lt (by (with_reducible repeat (first | apply Kd.R_alloc | apply Kd.R_drewN | apply Kd.R_drew)); exact HO136.out))) (g := gb129) (o := .cells #[.int .i64 a1_0, .int .i64 a1_1, .int .i64 a1_2] 34 (0, 0)) (by (with_reducible repeat (first | refine blk_drewN ?_ _ | refine blk_drew ?_ | refine blk_alloc ?_ _)); exact BK129.out)) (below_size (by repeat (first | (with_reducible first | exact HB.out | apply below_alloc | apply pw_below_drewN | apply below_drew1 | refine below_set ?_ GE128.out | refine below_set ?_ GE129.out | refine below_set ?_ GE130.out) | exact HB.out))))
        have n3_ := Aside0.mk (blk_below (g := gb128) (o := .cells #[.bool a0_0, .slice A0_1 l0_1.length c0_1, .slice A0_2 l0_2.length c0_2] 25 (0, 0)) (by (with_reducible repeat (first | refine blk_drewN ?_ _ | refine blk_drew ?_ | refine blk_alloc ?_ _)); exact BK128.out) hb)
        have n4_ := Aside0.mk (blk_below (g := gb129) (o := .cells #[.int .i64 a1_0, .int .i64 a1_1, .int .i64 a1_2] 34 (0, 0)) (by (with_reducible repeat (first | refine blk_drewN ?_ _ | refine blk_drew ?_ | refine blk_alloc ?_ _)); exact BK129.out) hb)
        have n5_ := Aside0.mk (blk_below (g := gb130) (o := .cells #[.bool false, .slice none 0 0, .slice none 0 0] 25 (0, 0)) (by (with_reducible repeat (first | refine blk_drewN ?_ _ | refine blk_drew ?_ | refine blk_alloc ?_ _)); exact BK130.out) hb)
        have n6_ := Aside0.mk (below_step (by repeat (first | (with_reducible first | exact HB.out | apply below_alloc | apply pw_below_drewN | apply below_drew1 | refine below_set ?_ GE128.out | refine below_set ?_ GE129.out | refine below_set ?_ GE130.out) | exact HB.out)) hb)
        clear HO0_1
        clear HO136
        clear BK128
        clear BK129
        clear BK130
        clear HB
        have HO0_1 := n0_
        have HO136 := n1_
        have HO133 := n2_
        have BK128 := n3_
        have BK129 := n4_
        have BK130 := n5_
        have HB := n6_
        clear n0_ n1_ n2_ n3_ n4_ n5_ n6_
        (try clear hb)
        (try clear hb2)
        (try clear hk)
        (try clear hi)
        (try clear ho0)
        refine hK.out _ _ ⟨(blk_cell BK128.out 0).trans rfl, (blk_cell BK128.out 1).trans rfl, (blk_cell BK128.out 2).trans rfl, (blk_cell BK129.out 0).trans rfl, (blk_cell BK129.out 1).trans rfl, (blk_cell BK129.out 2).trans rfl⟩ (fun hHeld => ?_)
        clear hK K
        refine norm_ (a' := ?_) ?_ ?_
        rotate_left
        · show Act.put _ (some 11) _ = _
          simp only [Act.put, List.setIfInBounds_toArray, List.set_cons_zero, List.set_cons_succ, i64_w, i32_w]
          rfl
        exact norm_ (by simp only [putAll, Act.put, List.setIfInBounds_toArray, List.set_cons_zero, List.set_cons_succ]) (hCont (v132, v135) _ ⟨hHeld, (by (with_reducible repeat (first | apply Kd.V_alloc | apply Kd.V_drewN | apply Kd.V_drew)); exact Kd.V_mono HO0_1.out (fun _ hk => ⟨hk.1.1.1.1.1, ⟨hk.2, ⟨hk.1.2, ⟨hk.1.1.1.1.2, ⟨hk.1.1.1.2, hk.1.1.2⟩⟩⟩⟩⟩)), (by (with_reducible repeat (first | apply Kd.R_alloc | apply Kd.R_drewN | apply Kd.R_drew)); exact Kd.R_mono HO133.out (fun _ hk => ⟨hk.1.1.1, ⟨hk.1.2, hk.2⟩⟩)), (by (with_reducible repeat (first | apply Kd.R_alloc | apply Kd.R_drewN | apply Kd.R_drew)); exact Kd.R_mono HO136.out (fun _ hk => ⟨hk.1.1.1, ⟨hk.2, hk.1.2⟩⟩)), (by (with_reducible repeat (first | refine blk_drewN ?_ _ | refine blk_drew ?_ | refine blk_alloc ?_ _)); exact BK128.out), (by (with_reducible repeat (first | refine blk_drewN ?_ _ | refine blk_drew ?_ | refine blk_alloc ?_ _)); exact BK129.out), (by (with_reducible repeat (first | refine blk_drewN ?_ _ | refine blk_drew ?_ | refine blk_alloc ?_ _)); exact BK130.out), (by repeat (first | (with_reducible first | exact HB.out | apply below_alloc | apply pw_below_drewN | apply below_drew1 | refine below_set ?_ GE128.out | refine below_set ?_ GE129.out | refine below_set ?_ GE130.out) | exact HB.out))⟩)
    rintro ⟨v132, v135⟩ w12 ⟨hS_, h0_, h1_, h2_, h3_, h4_, h5_, h6_⟩
    have n0_ : Aside0 (Kd.V (Kd.int .i64) 3 w12 w.heap.size (fun k_ => (P0_1_ k_ ∨ w.heap.size ≤ k_) ∧ some k_ ≠ (v132 : Value).ownBlock ∧ some k_ ≠ (v135 : Value).ownBlock ∧ k_ ≠ gb128 ∧ k_ ≠ gb129 ∧ k_ ≠ gb130) (.slice A0_1 l0_1.length c0_1) l0_1) := ⟨h0_⟩
    have n1_ : Aside0 (Kd.R k34 34 w12 w.heap.size (fun k_ => (w.heap.size ≤ k_) ∧ some k_ ≠ (v135 : Value).ownBlock ∧ k_ ≠ gb129) v132 t131) := ⟨h1_⟩
    have n2_ : Aside0 (Kd.R k34 34 w12 w.heap.size (fun k_ => (w.heap.size ≤ k_) ∧ some k_ ≠ (v132 : Value).ownBlock ∧ k_ ≠ gb129) v135 y134) := ⟨h2_⟩
    have n3_ : Aside0 (w12.heap[gb128]? = some (.cells #[.bool a0_0, .slice A0_1 l0_1.length c0_1, .slice A0_2 l0_2.length c0_2] 25 (0, 0))) := ⟨h3_⟩
    have n4_ : Aside0 (w12.heap[gb129]? = some (.cells #[.int .i64 a1_0, .int .i64 a1_1, .int .i64 a1_2] 34 (0, 0))) := ⟨h4_⟩
    have n5_ : Aside0 (w12.heap[gb130]? = some (.cells #[.bool false, .slice none 0 0, .slice none 0 0] 25 (0, 0))) := ⟨h5_⟩
    have n6_ : Aside0 (Below w.heap.size w w12) := ⟨h6_⟩
    clear HO0_1
    clear BK128
    clear BK129
    clear BK130
    clear HB
    clear h0_ h1_ h2_ h3_ h4_ h5_ h6_
    have HO0_1 := n0_
    have HO133 := n1_
    have HO136 := n2_
    have BK128 := n3_
    have BK129 := n4_
    have BK130 := n5_
    have HB := n6_
    clear n0_ n1_ n2_ n3_ n4_ n5_ n6_
    have hHeld : w12.cell? ⟨gb128, 0, none⟩ = some (.bool a0_0) ∧ w12.cell? ⟨gb128, 1, none⟩ = some (.slice A0_1 l0_1.length c0_1) ∧ w12.cell? ⟨gb128, 2, none⟩ = some (.slice A0_2 l0_2.length c0_2) ∧ w12.cell? ⟨gb129, 0, none⟩ = some (.int .i64 a1_0) ∧ w12.cell? ⟨gb129, 1, none⟩ = some (.int .i64 a1_1) ∧ w12.cell? ⟨gb129, 2, none⟩ = some (.int .i64 a1_2) := hS_
    obtain ⟨Ao14, co14, eo14⟩ := Kd.R_slice HO136.out
    (first | subst eo14 | (injection eo14 with f1_ f2_ f3_; have f4_ := f1_.symm; have f5_ := f3_.symm; clear f1_ f2_ f3_; subst f4_; subst f5_))
    refine norm_ (a' := ?_) ?_ ?_
    rotate_left
    · simp only [putAll, Act.put, List.setIfInBounds_toArray, List.set_cons_zero, List.set_cons_succ]
      rfl
    refine one_ (i := 9) (N := some 14) #[true, true, true, true, true, true, true, true, true, true, false, false] rfl rfl (one_of HT_.out (by kernel_rfl)) (by decide) (fun K hK => ?_)
    refine Kd.R_append_rows_step k34 (w0 := w) w.heap.size (by rfl) (.tmp 11) (.tmp 13) 23 34 (.agg #[(.int .i64 0), (.int .i64 0), (.int .i64 0)]) 24 rfl Tryz.underlying23 info34 rfl (by decide) (by omega) v132 t131 y134 _ _ _ (fun k_ => (w.heap.size ≤ k_) ∧ some k_ ≠ (.slice Ao14 y134.length co14 : Value).ownBlock ∧ k_ ≠ gb129) (fun _ => False) rfl rfl ?aO ?aR (fun _ _ h => h) (fun _ h => h.elim) ?aF ?aB ?aS ?aL ?_
    (case aR => repeat (first | exact (Kd.R_reads' HO136.out).2.2 | (with_reducible refine Kd.C_alloc ?_ _) | (with_reducible refine Kd.C_drewN ?_ _) | (with_reducible refine Kd.C_drew ?_)))
    (case aB => exact (by repeat (first | (with_reducible first | exact HB.out | apply below_alloc | apply pw_below_drewN | apply below_drew1 | refine below_set ?_ GE128.out | refine below_set ?_ GE129.out | refine below_set ?_ GE130.out) | exact HB.out)))
    (case aF => exact (fun k_ hk => ⟨(Nat.le_trans (below_size (by repeat (first | (with_reducible first | exact HB.out | apply below_alloc | apply pw_below_drewN | apply below_drew1 | refine below_set ?_ GE128.out | refine below_set ?_ GE129.out | refine below_set ?_ GE130.out) | exact HB.out))) hk), Kd.fresh' (Kd.R_lt (by (with_reducible repeat (first | apply Kd.R_alloc | apply Kd.R_drewN | apply Kd.R_drew)); exact HO136.out)) k_ hk, Kd.freshB (g := gb129) (o := .cells #[.int .i64 a1_0, .int .i64 a1_1, .int .i64 a1_2] 34 (0, 0)) (by (with_reducible repeat (first | refine blk_drewN ?_ _ | refine blk_drew ?_ | refine blk_alloc ?_ _)); exact BK129.out) k_ hk⟩))
    (case aO => exact (by (with_reducible repeat (first | apply Kd.R_alloc | apply Kd.R_drewN | apply Kd.R_drew)); exact HO133.out))
    (case aS => exact (below_size (by repeat (first | (with_reducible first | exact HB.out | apply below_alloc | apply pw_below_drewN | apply below_drew1 | refine below_set ?_ GE128.out | refine below_set ?_ GE129.out | refine below_set ?_ GE130.out) | exact HB.out))))
    (case aL => have := LMc4.out; omega)
    intro v138 w13 ho hb hg hat
    rw [← Ny137.out] at ho
    have n0_ := Aside0.mk (Kd.V_afterv (ok := (fun k_ => (P0_1_ k_ ∨ w.heap.size ≤ k_) ∧ some k_ ≠ (.slice Ao14 y134.length co14 : Value).ownBlock ∧ k_ ≠ gb128 ∧ k_ ≠ gb129 ∧ k_ ≠ gb130)) (by (with_reducible repeat (first | apply Kd.V_alloc | apply Kd.V_drewN | apply Kd.V_drew)); exact Kd.V_mono HO0_1.out (fun _ hk => ⟨⟨hk.1, ⟨hk.2.2.1, ⟨hk.2.2.2.1, ⟨hk.2.2.2.2.1, hk.2.2.2.2.2⟩⟩⟩⟩, hk.2.1⟩)) hg hat)
    have n1_ := Aside0.mk (blk_grown (g := gb128) (o := .cells #[.bool a0_0, .slice A0_1 l0_1.length c0_1, .slice A0_2 l0_2.length c0_2] 25 (0, 0)) (by (with_reducible repeat (first | refine blk_drewN ?_ _ | refine blk_drew ?_ | refine blk_alloc ?_ _)); exact BK128.out) hg (Kd.R_ne HO133.out BK128.out (by decide)))
    have n2_ := Aside0.mk (blk_grown (g := gb129) (o := .cells #[.int .i64 a1_0, .int .i64 a1_1, .int .i64 a1_2] 34 (0, 0)) (by (with_reducible repeat (first | refine blk_drewN ?_ _ | refine blk_drew ?_ | refine blk_alloc ?_ _)); exact BK129.out) hg (Kd.R_away HO133.out (fun _ hk => hk.2.2)))
    have n3_ := Aside0.mk (blk_grown (g := gb130) (o := .cells #[.bool false, .slice none 0 0, .slice none 0 0] 25 (0, 0)) (by (with_reducible repeat (first | refine blk_drewN ?_ _ | refine blk_drew ?_ | refine blk_alloc ?_ _)); exact BK130.out) hg (Kd.R_ne HO133.out BK130.out (by decide)))
    have n4_ := Aside0.mk (Kd.R_after (ok := (fun k_ => (w.heap.size ≤ k_) ∧ k_ ≠ gb129)) (by (with_reducible repeat (first | apply Kd.R_alloc | apply Kd.R_drewN | apply Kd.R_drew)); exact Kd.R_mono HO136.out (fun _ hk => ⟨⟨hk.1, hk.2.2⟩, hk.2.1⟩)) hg hat)
    have n5_ := Aside0.mk (hb)
    have n6_ := Aside0.mk (ho)
    clear HO0_1
    clear BK128
    clear BK129
    clear BK130
    clear HO136
    clear HB
    clear HO133
    have HO0_1 := n0_
    have BK128 := n1_
    have BK129 := n2_
    have BK130 := n3_
    have HO136 := n4_
    have HB := n5_
    have HO139 := n6_
    clear n0_ n1_ n2_ n3_ n4_ n5_ n6_
    clear ho hb hg hat
    obtain ⟨Ao15, co15, eo15⟩ := Kd.R_slice HO139.out
    (first | subst eo15 | (injection eo15 with f1_ f2_ f3_; have f4_ := f1_.symm; have f5_ := f3_.symm; clear f1_ f2_ f3_; subst f4_; subst f5_))
    refine hK.out _ _ ⟨(blk_cell BK128.out 0).trans rfl, (blk_cell BK128.out 1).trans rfl, (blk_cell BK128.out 2).trans rfl, (blk_cell BK129.out 0).trans rfl, (blk_cell BK129.out 1).trans rfl, (blk_cell BK129.out 2).trans rfl⟩ (fun hHeld => ?_)
    clear hK K
    refine norm_ (a' := ?_) ?_ ?_
    rotate_left
    · show Act.put _ (some 14) _ = _
      simp only [Act.put, List.setIfInBounds_toArray, List.set_cons_zero, List.set_cons_succ, i64_w, i32_w]
      rfl
    refine pure_ (i := 10) (N := some 15) (v := ?_) (a' := ?_) #[true, true, true, true, true, true, true, true, true, true, true, false] rfl rfl (any_of HT_.out (by kernel_rfl)) (fun _ _ _ h => h) (Or.inl ⟨by rfl, ?_⟩) ?_ ?_
    rotate_left
    · intro w'
      go_simp
      with_reducible rfl
    rotate_left
    · simp only [Act.put, List.setIfInBounds_toArray, List.set_cons_zero, List.set_cons_succ, i64_w, i32_w]
      rfl
    refine one_ (i := 11) (N := none) #[true, true, true, true, true, true, true, true, true, true, true, true] rfl rfl (one_of HT_.out (by kernel_rfl)) (by decide) (fun K hK => ?_)
    have hs16 : w13.cell? ⟨gb130, 0, none⟩ = some (.bool false) := (blk_cell BK130.out 0).trans rfl
    have hfs16 := blk_frozen BK130.out 0
    have hns16_0 := NB128_130.out
    have hns16_1 := NB129_130.out
    have hms16_0 := NB130_128.out
    have hms16_1 := NB130_129.out
    have hs17 : w13.cell? ⟨gb130, 1, none⟩ = some (.slice none 0 0) := (blk_cell BK130.out 1).trans rfl
    have hfs17 := blk_frozen BK130.out 1
    have hns17_0 := NB128_130.out
    have hns17_1 := NB129_130.out
    have hms17_0 := NB130_128.out
    have hms17_1 := NB130_129.out
    have hs18 : w13.cell? ⟨gb130, 2, none⟩ = some (.slice none 0 0) := (blk_cell BK130.out 2).trans rfl
    have hfs18 := blk_frozen BK130.out 2
    have hns18_0 := NB128_130.out
    have hns18_1 := NB129_130.out
    have hms18_0 := NB130_128.out
    have hms18_1 := NB130_129.out
    refine skip_ (w1 := ?_) (by rfl) rfl ?_ ?_
    rotate_left
    · go_simp
      rfl
    refine hK.out _ _ ⟨((cell_far (p := ⟨gb130, _, none⟩) NB128_130.out _).trans (((cell_far (p := ⟨gb130, _, none⟩) NB128_130.out _).trans (((cell_far (p := ⟨gb130, _, none⟩) NB128_130.out _).trans (hHeld.1)))))), ((cell_far (p := ⟨gb130, _, none⟩) NB128_130.out _).trans (((cell_far (p := ⟨gb130, _, none⟩) NB128_130.out _).trans (((cell_far (p := ⟨gb130, _, none⟩) NB128_130.out _).trans (hHeld.2.1)))))), ((cell_far (p := ⟨gb130, _, none⟩) NB128_130.out _).trans (((cell_far (p := ⟨gb130, _, none⟩) NB128_130.out _).trans (((cell_far (p := ⟨gb130, _, none⟩) NB128_130.out _).trans (hHeld.2.2.1)))))), ((cell_far (p := ⟨gb130, _, none⟩) NB129_130.out _).trans (((cell_far (p := ⟨gb130, _, none⟩) NB129_130.out _).trans (((cell_far (p := ⟨gb130, _, none⟩) NB129_130.out _).trans (hHeld.2.2.2.1)))))), ((cell_far (p := ⟨gb130, _, none⟩) NB129_130.out _).trans (((cell_far (p := ⟨gb130, _, none⟩) NB129_130.out _).trans (((cell_far (p := ⟨gb130, _, none⟩) NB129_130.out _).trans (hHeld.2.2.2.2.1)))))), ((cell_far (p := ⟨gb130, _, none⟩) NB129_130.out _).trans (((cell_far (p := ⟨gb130, _, none⟩) NB129_130.out _).trans (((cell_far (p := ⟨gb130, _, none⟩) NB129_130.out _).trans (hHeld.2.2.2.2.2))))))⟩ (fun hHeld => ?_)
    clear hK K
    refine done_ (done_of HT_.out (by kernel_rfl)) ?_
    try go_wp2
    refine bodyPost_ret (results_cell_row rfl _ _ gb130 25 #[.bool a0_0, .slice A0_1 l0_1.length c0_1, .slice Ao15 y137.length co15] (0, 0) _ rfl (by (with_reducible repeat (first | refine blk_drewN ?_ _ | refine blk_drew ?_ | refine blk_alloc ?_ _)); refine blk_put (cs := #[.bool a0_0, .slice A0_1 l0_1.length c0_1, .slice none 0 0]) ?_ 2 _ rfl; (with_reducible repeat (first | refine blk_drewN ?_ _ | refine blk_drew ?_ | refine blk_alloc ?_ _)); refine blk_put (cs := #[.bool a0_0, .slice none 0 0, .slice none 0 0]) ?_ 1 _ rfl; (with_reducible repeat (first | refine blk_drewN ?_ _ | refine blk_drew ?_ | refine blk_alloc ?_ _)); refine blk_put (cs := #[.bool false, .slice none 0 0, .slice none 0 0]) ?_ 0 _ rfl; (with_reducible repeat (first | refine blk_drewN ?_ _ | refine blk_drew ?_ | refine blk_alloc ?_ _)); exact BK130.out) Tryz.underlying25 rfl (by kernel_rfl)) rfl ?_
    exact ⟨_, _, by first | rfl | (simp [errW_none, errW_some] <;> rfl) | (simp [*, errW_none, errW_some] <;> rfl), by (with_reducible repeat (first | apply Kd.V_alloc | apply Kd.V_drewN | apply Kd.V_drew)); exact Kd.V_mono (Kd.V_far (p := ⟨gb130, 2, none⟩) (Kd.V_far (p := ⟨gb130, 1, none⟩) (Kd.V_far (p := ⟨gb130, 0, none⟩) (Kd.V_mono HO0_1.out (fun k_ hk => (⟨hk, hk.1.2.2.2.2⟩ : _ ∧ k_ ≠ gb130))) (fun _ hk => hk.2) (.bool a0_0)) (fun _ hk => hk.2) (.slice A0_1 l0_1.length c0_1)) (fun _ hk => hk.2) (.slice Ao15 y137.length co15)) (fun _ hk => ⟨hk.1.1.1, hk.1.2⟩), by (with_reducible repeat (first | apply Kd.R_alloc | apply Kd.R_drewN | apply Kd.R_drew)); exact Kd.R_mono (Kd.R_far (p := ⟨gb130, 2, none⟩) (Kd.R_far (p := ⟨gb130, 1, none⟩) (Kd.R_far (p := ⟨gb130, 0, none⟩) (Kd.R_types HO139.out BK130.out (by decide)) (fun _ hk => hk.2) (.bool a0_0)) (fun _ hk => hk.2) (.slice A0_1 l0_1.length c0_1)) (fun _ hk => hk.2) (.slice Ao15 y137.length co15)) (fun _ hk => hk.1.1), by repeat (first | (with_reducible first | exact HB.out | apply below_alloc | apply pw_below_drewN | apply below_drew1 | refine below_set ?_ GE128.out | refine below_set ?_ GE129.out | refine below_set ?_ GE130.out) | exact HB.out)⟩
  · rw [if_neg c4] at H
    exact absurd H (by simp)

end Go.Proofs.YtolbfjjgdheikaaGreat.PL
