/- Printed by a program (the kit's printer, run over contracts that were proved by hand). -/
import Derived.Test.YtfkmpnpliadohaaGreatFT2
namespace Go.Proofs.YtfkmpnpliadohaaGreat.PL
open Go.RowKit Go.Proofs.YtfkmpnpliadohaaGreatW.PrintWords Go.Proofs.YtfkmpnpliadohaaGreatW.PrintLast Go.Proofs.YtfkmpnpliadohaaGreatW.PrintMore
attribute [local go_sem] max2_int min2_int max_two min_two max_three min_three max_four min_four   -- for this text's walks alone
set_option linter.unusedVariables false
set_option linter.unusedSimpArgs false
/-! ### laws_sized: function 19 -/
mutual
def laws_sized.j0 : Nat → Bool → Bool → List Int → List (S38) → Option (Bool)
  | 0, _, _, _, _ => none
  | k + 1, x16, x102000, x102001, x102002 => if x16 = true then (some false) else (laws_sized.l0 k 0 x102000 x102001 x102002)
def laws_sized.l0 : Nat → Int → Bool → List Int → List (S38) → Option (Bool)
  | 0, _, _, _, _ => none
  | k + 1, x5, x102000, x102001, x102002 => if x5 < (x102002.length : Int) then (if 0 ≤ x5 then (if ((rd_T38 x102002 x5).f2) > 1099511627776 then (some false) else (if ((rd_T38 x102002 x5).f2) < (-1099511627776) then (some false) else (laws_sized.l0 k (wrap64 (x5 + 1)) x102000 x102001 x102002))) else (none)) else (some true)
end
def laws_sized.f (k : Nat) (a0_0 : Bool) (l0_1 : List Int) (l0_2 : List (S38)) (a1 : Int) : Option (Bool) := if (l0_1.length : Int) > a1 then (laws_sized.j0 k true a0_0 l0_1 l0_2) else (laws_sized.j0 k (decide ((l0_2.length : Int) > 200)) a0_0 l0_1 l0_2)
set_option maxHeartbeats 8000000 in
set_option maxRecDepth 100000 in
theorem laws_sized.calls (k : Nat) (a0_0 : Bool) (A0_1 : Option Addr) (c0_1 : Nat) (l0_1 : List Int) (A0_2 : Option Addr) (c0_2 : Nat) (l0_2 : List (S38)) (a1 : Int) (r : Bool) (w : World) (hr0_1 : Kd.C (Kd.int .i64) w A0_1 l0_1.length l0_1) (hc0_1 : l0_1.length ≤ c0_1) (hr0_2 : Kd.C k38 w A0_2 l0_2.length l0_2) (hc0_2 : l0_2.length ≤ c0_2) (h : laws_sized.f k a0_0 l0_1 l0_2 a1 = some r) :
    Calls Tryz.prog 19 #[.agg #[.bool a0_0, .slice A0_1 l0_1.length c0_1, .slice A0_2 l0_2.length c0_2], .int .i64 a1] w fun e w' => e = .returned (.bool r) ∧ Below w.heap.size w w' := by
  have hu25 := Tryz.underlying25
  have HR0_1 := Aside0.mk hr0_1
  have HC0_1 := Aside0.mk hc0_1
  clear hr0_1 hc0_1
  have HR0_2 := Aside0.mk hr0_2
  have HC0_2 := Aside0.mk hc0_2
  clear hr0_2 hc0_2
  have HB := Aside0.mk (Below.refl w.heap.size w)
  have H : (if (l0_1.length : Int) > a1 then (laws_sized.j0 k true a0_0 l0_1 l0_2) else (laws_sized.j0 k (decide ((l0_2.length : Int) > 200)) a0_0 l0_1 l0_2)) = some r := h
  clear h
  have HC3 := Aside0.mk H
  clear H
  go_enter Tryz.func19, Tryz.ntmps19
  go_upto_region 1 with (first | ((with_reducible refine gate_dst (N := 2) rfl ?_); (try (refine gate_guard (by rfl) ?_; dsimp only)); refine box_event ?hg (N := 2) ?hd (cs := #[.bool a0_0, .slice A0_1 l0_1.length c0_1, .slice A0_2 l0_2.length c0_2]) (t := 25) ?hr ?_; (case hd => rfl); (case hg => rfl); (case hr => first | (go_simp; done) | (go_simp; rfl)); intro gb101 hg w4 hbox hb; have n0_ := Aside0.mk (below_step (by repeat (first | (with_reducible first | exact HB.out | apply below_alloc | apply pw_below_drewN | apply below_drew1) | exact HB.out)) hb); have n1_ := Aside0.mk (hbox); have n2_ := Aside0.mk ((by rw [hg]; exact (below_size (by repeat (first | (with_reducible first | exact HB.out | apply below_alloc | apply pw_below_drewN | apply below_drew1) | exact HB.out))) : w.heap.size ≤ gb101)); have n3_ := Aside0.mk ((by rw [hg]; exact (below_size (by repeat (first | (with_reducible first | exact HB.out | apply below_alloc | apply pw_below_drewN | apply below_drew1) | exact HB.out))) : w.heap.size ≤ gb101)); clear HB; have HB := n0_; have BK101 := n1_; have GW101 := n2_; have GE101 := n3_; clear n0_ n1_ n2_ n3_; clear hb hbox hg))
  (try simp only [Act.put, List.setIfInBounds_toArray, List.set_cons_zero, List.set_cons_succ])
  go_cut [16] (fun v16 wc => ∃ (kq : Nat) (x16_2 : Bool), v16 = .bool x16_2 ∧ Aside0 (laws_sized.j0 kq x16_2 a0_0 l0_1 l0_2 = some r) ∧ Aside0 (kq ≤ k) ∧ Aside0 (wc.heap[gb101]? = some (.cells #[.bool a0_0, (.slice A0_1 l0_1.length c0_1), (.slice A0_2 l0_2.length c0_2)] 25 (0, 0))) ∧ Aside0 (Below w.heap.size w wc))
  case first =>
    have H := HC3.out
    clear HC3
    by_cases c5 : (l0_1.length : Int) > a1
    · rw [if_pos c5] at H
      have c5b0 : decide (a1 < (l0_1.length : Int)) = true := decide_eq_true c5
      clear c5
      (first | rw [c5b0] | (simp only [i64_w, i32_w]; rw [c5b0]) | skip)
      have H' := Aside0.mk H
      clear H
      have hcz6_0 : w4.cell? ⟨gb101, 0, none⟩ = some (.bool a0_0) := (blk_cell BK101.out 0).trans rfl
      have hcz6_1 : w4.cell? ⟨gb101, 1, none⟩ = some (.slice A0_1 l0_1.length c0_1) := (blk_cell BK101.out 1).trans rfl
      have hcz6_2 : w4.cell? ⟨gb101, 2, none⟩ = some (.slice A0_2 l0_2.length c0_2) := (blk_cell BK101.out 2).trans rfl
      have hfz6_0 := blk_frozen BK101.out 0
      have hfz6_1 := blk_frozen BK101.out 1
      have hfz6_2 := blk_frozen BK101.out 2
      go_wp2
      go_meet
      case rel => exact ⟨_, (true), (by first | rfl | (simp; done) | (simp [*]; done)), H', ⟨by first | omega | exact Nat.le_refl _⟩, ⟨by (with_reducible repeat (first | refine blk_drewN ?_ _ | refine blk_drew ?_ | refine blk_alloc ?_ _)); exact BK101.out⟩, ⟨by repeat (first | (with_reducible first | exact HB.out | apply below_alloc | apply pw_below_drewN | apply below_drew1 | refine below_set ?_ GE101.out) | exact HB.out)⟩⟩
    · rw [if_neg c5] at H
      have c5b0 : decide (a1 < (l0_1.length : Int)) = false := decide_eq_false c5
      clear c5
      (first | rw [c5b0] | (simp only [i64_w, i32_w]; rw [c5b0]) | skip)
      have H' := Aside0.mk H
      clear H
      have hcz7_0 : w4.cell? ⟨gb101, 0, none⟩ = some (.bool a0_0) := (blk_cell BK101.out 0).trans rfl
      have hcz7_1 : w4.cell? ⟨gb101, 1, none⟩ = some (.slice A0_1 l0_1.length c0_1) := (blk_cell BK101.out 1).trans rfl
      have hcz7_2 : w4.cell? ⟨gb101, 2, none⟩ = some (.slice A0_2 l0_2.length c0_2) := (blk_cell BK101.out 2).trans rfl
      have hfz7_0 := blk_frozen BK101.out 0
      have hfz7_1 := blk_frozen BK101.out 1
      have hfz7_2 := blk_frozen BK101.out 2
      go_wp2
      go_meet
      case rel => exact ⟨_, (decide ((l0_2.length : Int) > 200)), (by first | rfl | (simp; done) | (simp [*]; done)), H', ⟨by first | omega | exact Nat.le_refl _⟩, ⟨by (with_reducible repeat (first | refine blk_drewN ?_ _ | refine blk_drew ?_ | refine blk_alloc ?_ _)); exact BK101.out⟩, ⟨by repeat (first | (with_reducible first | exact HB.out | apply below_alloc | apply pw_below_drewN | apply below_drew1 | refine below_set ?_ GE101.out) | exact HB.out)⟩⟩
  case rest =>
    clear HC3
    try clear c1
    try clear p2
    try clear c5
    try clear c5b0
    try clear hcz6_0
    try clear hcz6_1
    try clear hcz6_2
    try clear hcz7_0
    try clear hcz7_1
    try clear hcz7_2
    try clear hfz6_0
    try clear hfz6_1
    try clear hfz6_2
    try clear hfz7_0
    try clear hfz7_1
    try clear hfz7_2
    obtain ⟨kq, x16_2, rfl, HA, HJ2, BK101, HB⟩ := hcut
    cases kq with
    | zero => exact absurd HA.out (by simp [laws_sized.j0])
    | succ kj2 =>
      have H := HA.out
      clear HA
      simp only [laws_sized.j0] at H
      by_cases c8 : x16_2 = true
      · subst c8
        have H1 : (some false) = some r := by rw [if_pos rfl] at H; exact H
        clear H
        have H := H1
        clear H1
        obtain rfl := Option.some.inj H
        go_wp2
        go_ret
        exact ⟨by first | rfl | (simp [errW_none, errW_some] <;> rfl) | (simp [*, errW_none, errW_some] <;> rfl), by repeat (first | (with_reducible first | exact HB.out | apply below_alloc | apply pw_below_drewN | apply below_drew1 | refine below_set ?_ GE101.out) | exact HB.out)⟩
      · replace c8 := Bool.eq_false_iff.mpr c8
        subst c8
        have H1 : (laws_sized.l0 kj2 0 a0_0 l0_1 l0_2) = some r := by rw [if_neg (show ¬ (false = true) by decide)] at H; exact H
        clear H
        have H := H1
        clear H1
        have H' := Aside0.mk H
        clear H
        go_wp2
        go_loopg [5] kj2 (fun kq v5 w' => ∃ (x5_2 : Int), v5 = .int .i64 x5_2 ∧ Aside0 (laws_sized.l0 kq x5_2 a0_0 l0_1 l0_2 = some r) ∧ Aside0 (kq ≤ kj2) ∧ Aside0 (w'.heap[gb101]? = some (.cells #[.bool a0_0, (.slice A0_1 l0_1.length c0_1), (.slice A0_2 l0_2.length c0_2)] 25 (0, 0))) ∧ Aside0 (Below w.heap.size w w'))
        case atStart => exact ⟨(0), (by first | rfl | (simp; done) | (simp [*]; done)), H', ⟨Nat.le_refl _⟩, ⟨by (with_reducible repeat (first | refine blk_drewN ?_ _ | refine blk_drew ?_ | refine blk_alloc ?_ _)); exact BK101.out⟩, ⟨by repeat (first | (with_reducible first | exact HB.out | apply below_alloc | apply pw_below_drewN | apply below_drew1 | refine below_set ?_ GE101.out) | exact HB.out)⟩⟩
        case round =>
          clear H'
          try clear c1
          try clear p2
          try clear c5
          try clear c5b0
          try clear c8
          try clear hcz6_0
          try clear hcz6_1
          try clear hcz6_2
          try clear hcz7_0
          try clear hcz7_1
          try clear hcz7_2
          try clear hfz6_0
          try clear hfz6_1
          try clear hfz6_2
          try clear hfz7_0
          try clear hfz7_1
          try clear hfz7_2
          try clear p2
          obtain ⟨x5_2, rfl, HA, HK2, BK101, HB⟩ := hrel
          cases gk with
          | zero => exact absurd HA.out (by simp [laws_sized.l0])
          | succ k2 =>
            have H := HA.out
            clear HA
            simp only [laws_sized.l0] at H
            by_cases c9 : x5_2 < (l0_2.length : Int)
            · rw [if_pos c9] at H
              have c9b0 : decide (x5_2 < (l0_2.length : Int)) = true := decide_eq_true c9
              clear c9
              by_cases c10 : 0 ≤ x5_2
              · rw [if_pos c10] at H
                have c10b0 : decide (0 ≤ x5_2) = true := decide_eq_true c10
                clear c10
                by_cases c11 : ((rd_T38 l0_2 x5_2).f2) > 1099511627776
                · rw [if_pos c11] at H
                  have c11b0 : decide (1099511627776 < ((rd_T38 l0_2 x5_2).f2)) = true := decide_eq_true c11
                  clear c11
                  obtain rfl := Option.some.inj H
                  have hcz12_0 : wr.cell? ⟨gb101, 0, none⟩ = some (.bool a0_0) := (blk_cell BK101.out 0).trans rfl
                  have hcz12_1 : wr.cell? ⟨gb101, 1, none⟩ = some (.slice A0_1 l0_1.length c0_1) := (blk_cell BK101.out 1).trans rfl
                  have hcz12_2 : wr.cell? ⟨gb101, 2, none⟩ = some (.slice A0_2 l0_2.length c0_2) := (blk_cell BK101.out 2).trans rfl
                  have hfz12_0 := blk_frozen BK101.out 0
                  have hfz12_1 := blk_frozen BK101.out 1
                  have hfz12_2 := blk_frozen BK101.out 2
                  have p102 : 0 ≤ (x5_2 : Int) := of_decide_eq_true (by first | (with_reducible assumption) | assumption)
                  have q102 : x5_2 < (l0_2.length : Int) := of_decide_eq_true (by first | (with_reducible assumption) | assumption)
                  obtain ⟨ad102, e102, hx102_0, hx102_1, hx102_2⟩ := at_T38 HR0_2.out x5_2 p102 q102
                  cases e102
                  replace hx102_0 := (HB.out.cell (World.block_lt_of_cell? w _ hx102_0)).trans hx102_0
                  replace hx102_1 := (HB.out.cell (World.block_lt_of_cell? w _ hx102_1)).trans hx102_1
                  replace hx102_2 := (HB.out.cell (World.block_lt_of_cell? w _ hx102_2)).trans hx102_2
                  replace p102 := eq_true p102
                  replace q102 := eq_true q102
                  go_wp2
                  go_ret
                  exact ⟨by first | rfl | (simp [errW_none, errW_some] <;> rfl) | (simp [*, errW_none, errW_some] <;> rfl), by repeat (first | (with_reducible first | exact HB.out | apply below_alloc | apply pw_below_drewN | apply below_drew1 | refine below_set ?_ GE101.out) | exact HB.out)⟩
                · rw [if_neg c11] at H
                  have c11b0 : decide (1099511627776 < ((rd_T38 l0_2 x5_2).f2)) = false := decide_eq_false c11
                  clear c11
                  by_cases c13 : ((rd_T38 l0_2 x5_2).f2) < (-1099511627776)
                  · rw [if_pos c13] at H
                    have c13b0 : decide (((rd_T38 l0_2 x5_2).f2) < (-1099511627776)) = true := decide_eq_true c13
                    clear c13
                    obtain rfl := Option.some.inj H
                    have hcz14_0 : wr.cell? ⟨gb101, 0, none⟩ = some (.bool a0_0) := (blk_cell BK101.out 0).trans rfl
                    have hcz14_1 : wr.cell? ⟨gb101, 1, none⟩ = some (.slice A0_1 l0_1.length c0_1) := (blk_cell BK101.out 1).trans rfl
                    have hcz14_2 : wr.cell? ⟨gb101, 2, none⟩ = some (.slice A0_2 l0_2.length c0_2) := (blk_cell BK101.out 2).trans rfl
                    have hfz14_0 := blk_frozen BK101.out 0
                    have hfz14_1 := blk_frozen BK101.out 1
                    have hfz14_2 := blk_frozen BK101.out 2
                    have p102 : 0 ≤ (x5_2 : Int) := of_decide_eq_true (by first | (with_reducible assumption) | assumption)
                    have q102 : x5_2 < (l0_2.length : Int) := of_decide_eq_true (by first | (with_reducible assumption) | assumption)
                    obtain ⟨ad102, e102, hx102_0, hx102_1, hx102_2⟩ := at_T38 HR0_2.out x5_2 p102 q102
                    cases e102
                    replace hx102_0 := (HB.out.cell (World.block_lt_of_cell? w _ hx102_0)).trans hx102_0
                    replace hx102_1 := (HB.out.cell (World.block_lt_of_cell? w _ hx102_1)).trans hx102_1
                    replace hx102_2 := (HB.out.cell (World.block_lt_of_cell? w _ hx102_2)).trans hx102_2
                    replace p102 := eq_true p102
                    replace q102 := eq_true q102
                    have p103 : 0 ≤ (x5_2 : Int) := of_decide_eq_true (by first | (with_reducible assumption) | assumption)
                    have q103 : x5_2 < (l0_2.length : Int) := of_decide_eq_true (by first | (with_reducible assumption) | assumption)
                    obtain ⟨ad103, e103, hx103_0, hx103_1, hx103_2⟩ := at_T38 HR0_2.out x5_2 p103 q103
                    obtain rfl : ad102 = ad103 := (by injection e103)
                    replace hx103_0 := (HB.out.cell (World.block_lt_of_cell? w _ hx103_0)).trans hx103_0
                    replace hx103_1 := (HB.out.cell (World.block_lt_of_cell? w _ hx103_1)).trans hx103_1
                    replace hx103_2 := (HB.out.cell (World.block_lt_of_cell? w _ hx103_2)).trans hx103_2
                    replace p103 := eq_true p103
                    replace q103 := eq_true q103
                    go_wp2
                    go_ret
                    exact ⟨by first | rfl | (simp [errW_none, errW_some] <;> rfl) | (simp [*, errW_none, errW_some] <;> rfl), by repeat (first | (with_reducible first | exact HB.out | apply below_alloc | apply pw_below_drewN | apply below_drew1 | refine below_set ?_ GE101.out) | exact HB.out)⟩
                  · rw [if_neg c13] at H
                    have c13b0 : decide (((rd_T38 l0_2 x5_2).f2) < (-1099511627776)) = false := decide_eq_false c13
                    clear c13
                    have H' := Aside0.mk H
                    clear H
                    have hcz15_0 : wr.cell? ⟨gb101, 0, none⟩ = some (.bool a0_0) := (blk_cell BK101.out 0).trans rfl
                    have hcz15_1 : wr.cell? ⟨gb101, 1, none⟩ = some (.slice A0_1 l0_1.length c0_1) := (blk_cell BK101.out 1).trans rfl
                    have hcz15_2 : wr.cell? ⟨gb101, 2, none⟩ = some (.slice A0_2 l0_2.length c0_2) := (blk_cell BK101.out 2).trans rfl
                    have hfz15_0 := blk_frozen BK101.out 0
                    have hfz15_1 := blk_frozen BK101.out 1
                    have hfz15_2 := blk_frozen BK101.out 2
                    have p102 : 0 ≤ (x5_2 : Int) := of_decide_eq_true (by first | (with_reducible assumption) | assumption)
                    have q102 : x5_2 < (l0_2.length : Int) := of_decide_eq_true (by first | (with_reducible assumption) | assumption)
                    obtain ⟨ad102, e102, hx102_0, hx102_1, hx102_2⟩ := at_T38 HR0_2.out x5_2 p102 q102
                    cases e102
                    replace hx102_0 := (HB.out.cell (World.block_lt_of_cell? w _ hx102_0)).trans hx102_0
                    replace hx102_1 := (HB.out.cell (World.block_lt_of_cell? w _ hx102_1)).trans hx102_1
                    replace hx102_2 := (HB.out.cell (World.block_lt_of_cell? w _ hx102_2)).trans hx102_2
                    replace p102 := eq_true p102
                    replace q102 := eq_true q102
                    have p103 : 0 ≤ (x5_2 : Int) := of_decide_eq_true (by first | (with_reducible assumption) | assumption)
                    have q103 : x5_2 < (l0_2.length : Int) := of_decide_eq_true (by first | (with_reducible assumption) | assumption)
                    obtain ⟨ad103, e103, hx103_0, hx103_1, hx103_2⟩ := at_T38 HR0_2.out x5_2 p103 q103
                    obtain rfl : ad102 = ad103 := (by injection e103)
                    replace hx103_0 := (HB.out.cell (World.block_lt_of_cell? w _ hx103_0)).trans hx103_0
                    replace hx103_1 := (HB.out.cell (World.block_lt_of_cell? w _ hx103_1)).trans hx103_1
                    replace hx103_2 := (HB.out.cell (World.block_lt_of_cell? w _ hx103_2)).trans hx103_2
                    replace p103 := eq_true p103
                    replace q103 := eq_true q103
                    go_wp2
                    go_roundg k2
                    case measure => have := HJ2.out; have := HK2.out; omega
                    case rel => exact ⟨(wrap64 (x5_2 + 1)), (by first | rfl | (simp; done) | (simp [*]; done)), H', ⟨by have := HJ2.out; have := HK2.out; omega⟩, ⟨by (with_reducible repeat (first | refine blk_drewN ?_ _ | refine blk_drew ?_ | refine blk_alloc ?_ _)); exact BK101.out⟩, ⟨by repeat (first | (with_reducible first | exact HB.out | apply below_alloc | apply pw_below_drewN | apply below_drew1 | refine below_set ?_ GE101.out) | exact HB.out)⟩⟩
              · rw [if_neg c10] at H
                exact absurd H (by simp)
            · rw [if_neg c9] at H
              have c9b0 : decide (x5_2 < (l0_2.length : Int)) = false := decide_eq_false c9
              clear c9
              obtain rfl := Option.some.inj H
              have hcz16_0 : wr.cell? ⟨gb101, 0, none⟩ = some (.bool a0_0) := (blk_cell BK101.out 0).trans rfl
              have hcz16_1 : wr.cell? ⟨gb101, 1, none⟩ = some (.slice A0_1 l0_1.length c0_1) := (blk_cell BK101.out 1).trans rfl
              have hcz16_2 : wr.cell? ⟨gb101, 2, none⟩ = some (.slice A0_2 l0_2.length c0_2) := (blk_cell BK101.out 2).trans rfl
              have hfz16_0 := blk_frozen BK101.out 0
              have hfz16_1 := blk_frozen BK101.out 1
              have hfz16_2 := blk_frozen BK101.out 2
              go_wp2
              go_ret
              exact ⟨by first | rfl | (simp [errW_none, errW_some] <;> rfl) | (simp [*, errW_none, errW_some] <;> rfl), by repeat (first | (with_reducible first | exact HB.out | apply below_alloc | apply pw_below_drewN | apply below_drew1 | refine below_set ?_ GE101.out) | exact HB.out)⟩


attribute [local go_sem high] eqA99
-- NOT PRINTED: function 194 (slices_partitionOrdered_int64)

-- NOT PRINTED: function 158 (slices_pdqsortOrdered_int64)

-- NOT PRINTED: function 139 (slices_Sort_int64_int64)

-- NOT PRINTED: function 140 (slices_Compact_int64_int64)

-- NOT PRINTED: function 141 (slices_Clone_int64_int64)

-- NOT PRINTED: function 195 (impl_arc_int)

-- NOT PRINTED: function 225 (impl_arc_225)

-- NOT PRINTED: function 244 (impl_arc_244)

-- NOT PRINTED: function 234 (impl_arc_234)

-- NOT PRINTED: function 226 (impl_arc_226)

-- NOT PRINTED: function 197 (impl_arc_197)

-- NOT PRINTED: function 159 (impl_set)

-- NOT PRINTED: function 142 (impl_plain_lay)

-- NOT PRINTED: function 103 (impl_read)

-- NOT PRINTED: function 80 (impl_open)

-- NOT PRINTED: function 64 (impl_from)

-- NOT PRINTED: function 66 (impl_number)

-- NOT PRINTED: function 67 (impl_free)

-- NOT PRINTED: function 115 (linear_NodeQueue_Len)

-- NOT PRINTED: function 112 (linear_NodeQueue_Enqueue)

-- NOT PRINTED: function 113 (set_Ints_int64_Has)

-- NOT PRINTED: function 114 (set_Ints_int64_Add)

-- NOT PRINTED: function 116 (linear_NodeQueue_Dequeue)

-- NOT PRINTED: function 68 (traverse_BreadthFirst_Walk)


-- NOT PRINTED: function 117 (linear_NodeStack_Push)

-- NOT PRINTED: function 118 (linear_NodeStack_Len)

-- NOT PRINTED: function 119 (linear_NodeStack_Pop)

-- NOT PRINTED: function 71 (traverse_DepthFirst_Walk)


/-! ### slices_Equal_int_int: function 55 -/
def slices_Equal_int_int.l0 : Nat → List Int → List Int → Int → Int → Option (Bool)
  | 0, _, _, _, _ => none
  | k + 1, x0, x1, x12, x13 => if x13 < x12 then (if 0 ≤ x13 then (if x13 < (x0.length : Int) then (if x13 < (x1.length : Int) then (if (rd x0 x13) = (rd x1 x13) then (slices_Equal_int_int.l0 k x0 x1 x12 (wrap64 (x13 + 1))) else (some false)) else (none)) else (none)) else (none)) else (some true)
def slices_Equal_int_int.f (k : Nat) (l0 : List Int) (l1 : List Int) : Option (Bool) := if (l0.length : Int) = (l1.length : Int) then (slices_Equal_int_int.l0 k l0 l1 (l0.length : Int) 0) else (some false)
theorem slices_Equal_int_int.mono_l : ∀ k, (∀ y0 y1 y2 y3, LeO (slices_Equal_int_int.l0 k y0 y1 y2 y3) (slices_Equal_int_int.l0 (k + 1) y0 y1 y2 y3))
  | 0 => fun _ _ _ _ r h => by simp [slices_Equal_int_int.l0] at h
  | k + 1 => by
    have ih0 := slices_Equal_int_int.mono_l k
    · intro y0 y1 y2 y3
      unfold slices_Equal_int_int.l0
      repeat' first
      | (with_reducible exact ih0 _ _ _ _)
      | (with_reducible exact LeO.refl _)
      | (with_reducible exact LeO.none _)
      | (with_reducible refine LeO.ite ?_ ?_)
      | (with_reducible refine LeO.bind ?_ (fun _ => ?_))
      | exact ih0 _ _ _ _
      | exact LeO.none _
      | refine LeO.ite ?_ ?_
      | refine LeO.bind ?_ (fun _ => ?_)
theorem slices_Equal_int_int.mono : ∀ a0 a1 k, LeO (slices_Equal_int_int.f k a0 a1) (slices_Equal_int_int.f (k + 1) a0 a1) := by
  intro a0 a1 k
  have ih0 := slices_Equal_int_int.mono_l k
  unfold slices_Equal_int_int.f
  repeat' first
      | (with_reducible exact ih0 _ _ _ _)
      | (with_reducible exact LeO.refl _)
      | (with_reducible exact LeO.none _)
      | (with_reducible refine LeO.ite ?_ ?_)
      | (with_reducible refine LeO.bind ?_ (fun _ => ?_))
      | exact ih0 _ _ _ _
      | exact LeO.none _
      | refine LeO.ite ?_ ?_
      | refine LeO.bind ?_ (fun _ => ?_)
set_option maxHeartbeats 8000000 in
set_option maxRecDepth 100000 in
theorem slices_Equal_int_int.calls (k : Nat) (A0 : Option Addr) (c0 : Nat) (l0 : List Int) (A1 : Option Addr) (c1 : Nat) (l1 : List Int) (r : Bool) (w : World) (hr0 : Kd.C (Kd.int .i64) w A0 l0.length l0) (hc0 : l0.length ≤ c0) (hr1 : Kd.C (Kd.int .i64) w A1 l1.length l1) (hc1 : l1.length ≤ c1) (h : slices_Equal_int_int.f k l0 l1 = some r) :
    Calls Tryz.prog 55 #[.slice A0 l0.length c0, .slice A1 l1.length c1] w fun e w' => e = .returned (.bool r) ∧ Drawn0 w w' := by
  have HR0 := Aside0.mk hr0
  have HC0 := Aside0.mk hc0
  clear hr0 hc0
  have HR1 := Aside0.mk hr1
  have HC1 := Aside0.mk hc1
  clear hr1 hc1
  have H : (if (l0.length : Int) = (l1.length : Int) then (slices_Equal_int_int.l0 k l0 l1 (l0.length : Int) 0) else (some false)) = some r := h
  clear h
  by_cases c3 : (l0.length : Int) = (l1.length : Int)
  · rw [if_pos c3] at H
    have c3b0 : ((l0.length : Int) == (l1.length : Int)) = true := beq_iff_eq.mpr c3
    have c3b1 : ((l0.length : Int) != (l1.length : Int)) = false := bne_eq_false_iff_eq.mpr c3
    have c3b2 : (l0.length == l1.length) = true := by first | simpa using c3 | (simp at c3 ⊢; omega)
    clear c3
    have H' := Aside0.mk H
    clear H
    go_enter Tryz.func55, Tryz.ntmps55
    go_wp2
    repeat (go_quiet (fail); try go_wp2)
    go_loopg [13] k (fun kq v13 w' => ∃ (x13_1 : Int), v13 = .int .i64 x13_1 ∧ Aside0 (slices_Equal_int_int.l0 kq l0 l1 (l0.length : Int) x13_1 = some r) ∧ Aside0 (kq ≤ k) ∧ Drawn0 w w')
    case atStart => exact ⟨(0), (by first | rfl | (simp; done) | (simp [*]; done)), H', ⟨Nat.le_refl _⟩, by repeat (first | exact Drawn0.refl _ | apply Drawn0.step)⟩
    case round =>
      clear H'
      try clear c1
      try clear p2
      try clear c3
      try clear c3b0
      try clear c3b1
      try clear c3b2
      obtain ⟨x13_1, rfl, HA, HK1, ⟨m1, rfl⟩⟩ := hrel
      cases gk with
      | zero => exact absurd HA.out (by simp [slices_Equal_int_int.l0])
      | succ k1 =>
        have H := HA.out
        clear HA
        simp only [slices_Equal_int_int.l0] at H
        by_cases c4 : x13_1 < (l0.length : Int)
        · rw [if_pos c4] at H
          have c4b0 : decide (x13_1 < (l0.length : Int)) = true := decide_eq_true c4
          clear c4
          by_cases c5 : 0 ≤ x13_1
          · rw [if_pos c5] at H
            have c5b0 : decide (0 ≤ x13_1) = true := decide_eq_true c5
            clear c5
            by_cases c6 : x13_1 < (l0.length : Int)
            · rw [if_pos c6] at H
              have c6b0 : decide (x13_1 < (l0.length : Int)) = true := decide_eq_true c6
              clear c6
              by_cases c7 : x13_1 < (l1.length : Int)
              · rw [if_pos c7] at H
                have c7b0 : decide (x13_1 < (l1.length : Int)) = true := decide_eq_true c7
                clear c7
                by_cases c8 : (rd l0 x13_1) = (rd l1 x13_1)
                · rw [if_pos c8] at H
                  have c8b0 : ((rd l0 x13_1) == (rd l1 x13_1)) = true := beq_iff_eq.mpr c8
                  have c8b1 : ((rd l0 x13_1) != (rd l1 x13_1)) = false := bne_eq_false_iff_eq.mpr c8
                  clear c8
                  have H' := Aside0.mk H
                  clear H
                  have p244 : 0 ≤ (x13_1 : Int) := of_decide_eq_true (by first | (with_reducible assumption) | assumption)
                  have q244 : x13_1 < (l0.length : Int) := of_decide_eq_true (by first | (with_reducible assumption) | assumption)
                  obtain ⟨ad244, e244, hx244_0⟩ := Kd.at_int HR0.out x13_1 p244 q244
                  cases e244
                  replace p244 := eq_true p244
                  replace q244 := eq_true q244
                  have p245 : 0 ≤ (x13_1 : Int) := of_decide_eq_true (by first | (with_reducible assumption) | assumption)
                  have q245 : x13_1 < (l1.length : Int) := of_decide_eq_true (by first | (with_reducible assumption) | assumption)
                  obtain ⟨ad245, e245, hx245_0⟩ := Kd.at_int HR1.out x13_1 p245 q245
                  cases e245
                  replace p245 := eq_true p245
                  replace q245 := eq_true q245
                  go_wp2
                  repeat (go_quiet (fail); try go_wp2)
                  go_roundg k1
                  case measure => have := HK1.out; omega
                  case rel => exact ⟨(wrap64 (x13_1 + 1)), (by first | rfl | (simp; done) | (simp [*]; done)), H', ⟨by have := HK1.out; omega⟩, by repeat (first | exact Drawn0.refl _ | apply Drawn0.step)⟩
                · rw [if_neg c8] at H
                  have c8b0 : ((rd l0 x13_1) == (rd l1 x13_1)) = false := beq_eq_false_iff_ne.mpr c8
                  have c8b1 : ((rd l0 x13_1) != (rd l1 x13_1)) = true := bne_iff_ne.mpr c8
                  obtain rfl := Option.some.inj H
                  have p244 : 0 ≤ (x13_1 : Int) := of_decide_eq_true (by first | (with_reducible assumption) | assumption)
                  have q244 : x13_1 < (l0.length : Int) := of_decide_eq_true (by first | (with_reducible assumption) | assumption)
                  obtain ⟨ad244, e244, hx244_0⟩ := Kd.at_int HR0.out x13_1 p244 q244
                  cases e244
                  replace p244 := eq_true p244
                  replace q244 := eq_true q244
                  have p245 : 0 ≤ (x13_1 : Int) := of_decide_eq_true (by first | (with_reducible assumption) | assumption)
                  have q245 : x13_1 < (l1.length : Int) := of_decide_eq_true (by first | (with_reducible assumption) | assumption)
                  obtain ⟨ad245, e245, hx245_0⟩ := Kd.at_int HR1.out x13_1 p245 q245
                  cases e245
                  replace p245 := eq_true p245
                  replace q245 := eq_true q245
                  go_wp2
                  repeat (go_quiet (fail); try go_wp2)
                  go_ret
                  exact ⟨by first | rfl | (simp; done) | (simp [*]; done), by repeat (first | exact Drawn0.refl _ | apply Drawn0.step)⟩
              · rw [if_neg c7] at H
                exact absurd H (by simp)
            · rw [if_neg c6] at H
              exact absurd H (by simp)
          · rw [if_neg c5] at H
            exact absurd H (by simp)
        · rw [if_neg c4] at H
          have c4b0 : decide (x13_1 < (l0.length : Int)) = false := decide_eq_false c4
          clear c4
          obtain rfl := Option.some.inj H
          go_wp2
          repeat (go_quiet (fail); try go_wp2)
          go_ret
          exact ⟨by first | rfl | (simp; done) | (simp [*]; done), by repeat (first | exact Drawn0.refl _ | apply Drawn0.step)⟩
  · rw [if_neg c3] at H
    have c3b0 : ((l0.length : Int) == (l1.length : Int)) = false := beq_eq_false_iff_ne.mpr c3
    have c3b1 : ((l0.length : Int) != (l1.length : Int)) = true := bne_iff_ne.mpr c3
    have c3b2 : (l0.length == l1.length) = false := by first | simpa using c3 | (simp at c3 ⊢; omega)
    obtain rfl := Option.some.inj H
    go_enter Tryz.func55, Tryz.ntmps55
    go_wp2
    repeat (go_quiet (fail); try go_wp2)
    go_ret
    exact ⟨by first | rfl | (simp; done) | (simp [*]; done), by repeat (first | exact Drawn0.refl _ | apply Drawn0.step)⟩

/-! ### laws_oneEdge: function 62 -/
def laws_oneEdge.f (a0 : Bool) (a1 : Int) : Option (Bool × List Int × (List (S38))) := some (a0, (([1, 2] : List Int)), (([(⟨1, 2, a1⟩ : S38)] : List (S38))))
set_option maxHeartbeats 8000000 in
set_option maxRecDepth 100000 in
theorem laws_oneEdge.calls (a0 : Bool) (a1 : Int) (r1 : Bool) (r2 : List Int) (r3 : List (S38)) (w : World) (h : laws_oneEdge.f a0 a1 = some (r1, r2, r3)) :
    Calls Tryz.prog 62 #[.bool a0, .int .i64 a1] w fun e w' => ∃ v1_ v2_ : Value, e = .returned (.agg #[.bool r1, v1_, v2_]) ∧ Kd.R (Kd.int .i64) 3 w' w.heap.size (fun _ => True) v1_ r2 ∧ Kd.R k38 38 w' w.heap.size (fun _ => True) v2_ r3 ∧ Below w.heap.size w w' := by
  have hu25 := Tryz.underlying25
  have hu38 := Tryz.underlying38
  have HB := Aside0.mk (Below.refl w.heap.size w)
  have H : (some (a0, (([1, 2] : List Int)), (([(⟨1, 2, a1⟩ : S38)] : List (S38))))) = some (r1, r2, r3) := h
  clear h
  obtain ⟨y247, hy247⟩ : ∃ y_ : List Int, y_ = (([1, 2] : List Int)) := ⟨_, rfl⟩
  replace H : (some (a0, y247, (([(⟨1, 2, a1⟩ : S38)] : List (S38))))) = some (r1, r2, r3) := by first | (rw [hy247]; with_reducible exact H) | (have H2_ := (Option.bind_some _ _).symm.trans H; rw [hy247]; with_reducible exact H2_) | (have H2_ := (Option.bind_some _ _).symm.trans H; with_reducible exact H2_) | with_reducible exact H | (rw [hy247]; exact H) | exact H
  have Ny247 := Aside0.mk hy247
  clear hy247
  obtain ⟨y250, hy250⟩ : ∃ y_ : List (S38), y_ = (([(⟨1, 2, a1⟩ : S38)] : List (S38))) := ⟨_, rfl⟩
  replace H : (some (a0, y247, y250)) = some (r1, r2, r3) := by first | (rw [hy250]; with_reducible exact H) | (have H2_ := (Option.bind_some _ _).symm.trans H; rw [hy250]; with_reducible exact H2_) | (have H2_ := (Option.bind_some _ _).symm.trans H; with_reducible exact H2_) | with_reducible exact H | (rw [hy250]; exact H) | exact H
  have Ny250 := Aside0.mk hy250
  clear hy250
  simp only [Option.some.injEq, Prod.mk.injEq] at H
  obtain ⟨rfl, rfl, rfl⟩ := H
  go_enter Tryz.func62, Tryz.ntmps62
  go_wp2_with (first | ((with_reducible refine gate_dst (N := 4) rfl ?_); refine box_event ?hg (N := 4) ?hd (cs := #[.bool false, .slice none 0 0, .slice none 0 0]) (t := 25) ?hr ?_; (case hd => rfl); (case hg => rfl); (case hr => first | (go_simp; done) | (go_simp; rfl)); intro gb246 hg w3 hbox hb; have n0_ := Aside0.mk (below_step (by repeat (first | (with_reducible first | exact HB.out | apply below_alloc | apply pw_below_drewN | apply below_drew1) | exact HB.out)) hb); have n1_ := Aside0.mk (hbox); have n2_ := Aside0.mk ((by rw [hg]; exact (below_size (by repeat (first | (with_reducible first | exact HB.out | apply below_alloc | apply pw_below_drewN | apply below_drew1) | exact HB.out))) : w.heap.size ≤ gb246)); have n3_ := Aside0.mk ((by rw [hg]; exact (below_size (by repeat (first | (with_reducible first | exact HB.out | apply below_alloc | apply pw_below_drewN | apply below_drew1) | exact HB.out))) : w.heap.size ≤ gb246)); clear HB; have HB := n0_; have BK246 := n1_; have GW246 := n2_; have GE246 := n3_; clear n0_ n1_ n2_ n3_; clear hb hbox hg) | ((with_reducible refine gate_dst (N := 6) rfl ?_); refine Kd.R_lit (Kd.int .i64) _ 3 ?hg (N := 6) ?hd (xs := ([1, 2] : List Int)) (inner := [.int .i64 1, .int .i64 2]) (ok := fun _ => True) (okp := fun _ => True) ?hr ?hp (fun _ hk => hk) trivial (Below.refl _ _) (Nat.le_refl _) (by simp) ?_; (case hd => rfl); (case hg => rfl); (case hr => first | (go_simp; done) | (go_simp; rfl)); (case hp => exact (Reps.one (show Kd.M (Kd.int .i64) _ _ _ 1 [.int .i64 1] from rfl) (Reps.one (show Kd.M (Kd.int .i64) _ _ _ 2 [.int .i64 2] from rfl) (Reps.none _ _)))); intro v248 w4 ho5 hb hg_ hnew_; clear hg_ hnew_; (first | rw [← Ny247.out] at ho5 | (simp only [Int.reduceToNat] at ho5; rw [← Ny247.out] at ho5)); have n0_ := Aside0.mk (Kd.R_lower ho5 (below_size (by repeat (first | (with_reducible first | exact HB.out | apply below_alloc | apply pw_below_drewN | apply below_drew1 | refine below_set ?_ GE246.out) | exact HB.out)))); have n1_ := Aside0.mk (blk_below (g := gb246) (o := .cells #[.bool false, .slice none 0 0, .slice none 0 0] 25 (0, 0)) (by (with_reducible repeat (first | refine blk_drewN ?_ _ | refine blk_drew ?_ | refine blk_alloc ?_ _)); exact BK246.out) hb); have n2_ := Aside0.mk (below_step (by repeat (first | (with_reducible first | exact HB.out | apply below_alloc | apply pw_below_drewN | apply below_drew1 | refine below_set ?_ GE246.out) | exact HB.out)) hb); clear BK246; clear HB; have HO249 := n0_; have BK246 := n1_; have HB := n2_; clear n0_ n1_ n2_; clear hb ho5) | ((with_reducible refine gate_dst (N := 9) rfl ?_); refine Kd.R_lit k38 _ 38 ?hg (N := 9) ?hd (xs := ([(⟨1, 2, a1⟩ : S38)] : List (S38))) (inner := [.int .i64 1, .int .i64 2, .int .i64 a1]) (ok := fun _ => True) (okp := fun _ => True) ?hr ?hp (fun _ hk => hk) trivial (Below.refl _ _) (Nat.le_refl _) (by simp) ?_; (case hd => rfl); (case hg => rfl); (case hr => first | (go_simp; done) | (go_simp; rfl)); (case hp => exact (Reps.c3 (show Kd.M k38 _ _ _ (⟨1, 2, a1⟩ : S38) [.int .i64 1, .int .i64 2, .int .i64 a1] from (k38_mkM _ _ _ (⟨1, 2, a1⟩ : S38) )) (Reps.none _ _))); intro v251 w6 ho7 hb hg_ hnew_; clear hg_ hnew_; (first | rw [← Ny250.out] at ho7 | (simp only [Int.reduceToNat] at ho7; rw [← Ny250.out] at ho7)); have n0_ := Aside0.mk (Kd.R_below (by (with_reducible repeat (first | apply Kd.R_alloc | apply Kd.R_drewN | apply Kd.R_drew)); exact HO249.out) hb); have n1_ := Aside0.mk (Kd.R_lower ho7 (below_size (by repeat (first | (with_reducible first | exact HB.out | apply below_alloc | apply pw_below_drewN | apply below_drew1 | refine below_set ?_ GE246.out) | exact HB.out)))); have n2_ := Aside0.mk (blk_below (g := gb246) (o := .cells #[.bool false, .slice none 0 0, .slice none 0 0] 25 (0, 0)) (by (with_reducible repeat (first | refine blk_drewN ?_ _ | refine blk_drew ?_ | refine blk_alloc ?_ _)); exact BK246.out) hb); have n3_ := Aside0.mk (below_step (by repeat (first | (with_reducible first | exact HB.out | apply below_alloc | apply pw_below_drewN | apply below_drew1 | refine below_set ?_ GE246.out) | exact HB.out)) hb); clear HO249; clear BK246; clear HB; have HO249 := n0_; have HO252 := n1_; have BK246 := n2_; have HB := n3_; clear n0_ n1_ n2_ n3_; clear hb ho7; obtain ⟨Ao8, co8, eo8⟩ := Kd.R_slice HO252.out; subst eo8; obtain ⟨Ao9, co9, eo9⟩ := Kd.R_slice HO249.out; subst eo9; have hcz10_0 : w6.cell? ⟨gb246, 0, none⟩ = some (.bool false) := (blk_cell BK246.out 0).trans rfl; have hcz10_1 : w6.cell? ⟨gb246, 1, none⟩ = some (.slice none 0 0) := (blk_cell BK246.out 1).trans rfl; have hcz10_2 : w6.cell? ⟨gb246, 2, none⟩ = some (.slice none 0 0) := (blk_cell BK246.out 2).trans rfl; have hfz10_0 := blk_frozen BK246.out 0; have hfz10_1 := blk_frozen BK246.out 1; have hfz10_2 := blk_frozen BK246.out 2))
  refine bodyPost_ret (results_cell_row rfl _ _ gb246 25 #[.bool a0, .slice Ao9 y247.length co9, .slice Ao8 y250.length co8] (0, 0) _ rfl (by (with_reducible repeat (first | refine blk_drewN ?_ _ | refine blk_drew ?_ | refine blk_alloc ?_ _)); refine blk_put (cs := #[.bool a0, .slice Ao9 y247.length co9, .slice none 0 0]) ?_ 2 _ rfl; (with_reducible repeat (first | refine blk_drewN ?_ _ | refine blk_drew ?_ | refine blk_alloc ?_ _)); refine blk_put (cs := #[.bool a0, .slice none 0 0, .slice none 0 0]) ?_ 1 _ rfl; (with_reducible repeat (first | refine blk_drewN ?_ _ | refine blk_drew ?_ | refine blk_alloc ?_ _)); refine blk_put (cs := #[.bool false, .slice none 0 0, .slice none 0 0]) ?_ 0 _ rfl; (with_reducible repeat (first | refine blk_drewN ?_ _ | refine blk_drew ?_ | refine blk_alloc ?_ _)); exact BK246.out) Tryz.underlying25 rfl (by kernel_rfl)) rfl ?_
  exact ⟨_, _, by first | rfl | (simp [errW_none, errW_some] <;> rfl) | (simp [*, errW_none, errW_some] <;> rfl), by (with_reducible repeat (first | apply Kd.R_alloc | apply Kd.R_drewN | apply Kd.R_drew)); exact Kd.R_mono (Kd.R_far (p := ⟨gb246, 2, none⟩) (Kd.R_far (p := ⟨gb246, 1, none⟩) (Kd.R_far (p := ⟨gb246, 0, none⟩) (Kd.R_types HO249.out BK246.out (by decide)) (fun _ hk => hk.2) (.bool a0)) (fun _ hk => hk.2) (.slice Ao9 y247.length co9)) (fun _ hk => hk.2) (.slice Ao8 y250.length co8)) (fun _ hk => trivial), by (with_reducible repeat (first | apply Kd.R_alloc | apply Kd.R_drewN | apply Kd.R_drew)); exact Kd.R_mono (Kd.R_far (p := ⟨gb246, 2, none⟩) (Kd.R_far (p := ⟨gb246, 1, none⟩) (Kd.R_far (p := ⟨gb246, 0, none⟩) (Kd.R_types HO252.out BK246.out (by decide)) (fun _ hk => hk.2) (.bool a0)) (fun _ hk => hk.2) (.slice Ao9 y247.length co9)) (fun _ hk => hk.2) (.slice Ao8 y250.length co8)) (fun _ hk => trivial), by repeat (first | (with_reducible first | exact HB.out | apply below_alloc | apply pw_below_drewN | apply below_drew1 | refine below_set ?_ GE246.out) | exact HB.out)⟩

/-! ### impl_Visit: function 63 -/
def impl_Visit.l0 : Nat → List (S99) → List (S99) → Int → Int → Option (Bool)
  | 0, _, _, _, _ => none
  | k + 1, x0, x1, x12, x13 => if x13 < x12 then (if 0 ≤ x13 then (if x13 < (x0.length : Int) then (if x13 < (x1.length : Int) then (if (!(((rd_T99 x0 x13).f0) == ((rd_T99 x1 x13).f0)) || (!(((rd_T99 x0 x13).f1) == ((rd_T99 x1 x13).f1)))) = true then (some false) else (impl_Visit.l0 k x0 x1 x12 (wrap64 (x13 + 1)))) else (none)) else (none)) else (none)) else (some true)
def impl_Visit.f (k : Nat) (l0 : List (S99)) (l1 : List (S99)) : Option (Bool) := if (l0.length : Int) = (l1.length : Int) then (impl_Visit.l0 k l0 l1 (l0.length : Int) 0) else (some false)
theorem impl_Visit.mono_l : ∀ k, (∀ y0 y1 y2 y3, LeO (impl_Visit.l0 k y0 y1 y2 y3) (impl_Visit.l0 (k + 1) y0 y1 y2 y3))
  | 0 => fun _ _ _ _ r h => by simp [impl_Visit.l0] at h
  | k + 1 => by
    have ih0 := impl_Visit.mono_l k
    · intro y0 y1 y2 y3
      unfold impl_Visit.l0
      repeat' first
      | (with_reducible exact ih0 _ _ _ _)
      | (with_reducible exact LeO.refl _)
      | (with_reducible exact LeO.none _)
      | (with_reducible refine LeO.ite ?_ ?_)
      | (with_reducible refine LeO.bind ?_ (fun _ => ?_))
      | exact ih0 _ _ _ _
      | exact LeO.none _
      | refine LeO.ite ?_ ?_
      | refine LeO.bind ?_ (fun _ => ?_)
theorem impl_Visit.mono : ∀ a0 a1 k, LeO (impl_Visit.f k a0 a1) (impl_Visit.f (k + 1) a0 a1) := by
  intro a0 a1 k
  have ih0 := impl_Visit.mono_l k
  unfold impl_Visit.f
  repeat' first
      | (with_reducible exact ih0 _ _ _ _)
      | (with_reducible exact LeO.refl _)
      | (with_reducible exact LeO.none _)
      | (with_reducible refine LeO.ite ?_ ?_)
      | (with_reducible refine LeO.bind ?_ (fun _ => ?_))
      | exact ih0 _ _ _ _
      | exact LeO.none _
      | refine LeO.ite ?_ ?_
      | refine LeO.bind ?_ (fun _ => ?_)
set_option maxHeartbeats 8000000 in
set_option maxRecDepth 100000 in
theorem impl_Visit.calls (k : Nat) (A0 : Option Addr) (c0 : Nat) (l0 : List (S99)) (A1 : Option Addr) (c1 : Nat) (l1 : List (S99)) (r : Bool) (w : World) (hr0 : Kd.C k99 w A0 l0.length l0) (hc0 : l0.length ≤ c0) (hr1 : Kd.C k99 w A1 l1.length l1) (hc1 : l1.length ≤ c1) (h : impl_Visit.f k l0 l1 = some r) :
    Calls Tryz.prog 63 #[.slice A0 l0.length c0, .slice A1 l1.length c1] w fun e w' => e = .returned (.bool r) ∧ Drawn0 w w' := by
  have hu99 := Tryz.underlying99
  have HR0 := Aside0.mk hr0
  have HC0 := Aside0.mk hc0
  clear hr0 hc0
  have HR1 := Aside0.mk hr1
  have HC1 := Aside0.mk hc1
  clear hr1 hc1
  have H : (if (l0.length : Int) = (l1.length : Int) then (impl_Visit.l0 k l0 l1 (l0.length : Int) 0) else (some false)) = some r := h
  clear h
  by_cases c3 : (l0.length : Int) = (l1.length : Int)
  · rw [if_pos c3] at H
    have c3b0 : ((l0.length : Int) == (l1.length : Int)) = true := beq_iff_eq.mpr c3
    have c3b1 : ((l0.length : Int) != (l1.length : Int)) = false := bne_eq_false_iff_eq.mpr c3
    have c3b2 : (l0.length == l1.length) = true := by first | simpa using c3 | (simp at c3 ⊢; omega)
    clear c3
    have H' := Aside0.mk H
    clear H
    go_enter Tryz.func63, Tryz.ntmps63
    go_wp2
    repeat (go_quiet (fail); try go_wp2)
    go_loopg [13] k (fun kq v13 w' => ∃ (x13_1 : Int), v13 = .int .i64 x13_1 ∧ Aside0 (impl_Visit.l0 kq l0 l1 (l0.length : Int) x13_1 = some r) ∧ Aside0 (kq ≤ k) ∧ Drawn0 w w')
    case atStart => exact ⟨(0), (by first | rfl | (simp; done) | (simp [*]; done)), H', ⟨Nat.le_refl _⟩, by repeat (first | exact Drawn0.refl _ | apply Drawn0.step)⟩
    case round =>
      clear H'
      try clear c1
      try clear p2
      try clear c3
      try clear c3b0
      try clear c3b1
      try clear c3b2
      obtain ⟨x13_1, rfl, HA, HK1, ⟨m1, rfl⟩⟩ := hrel
      cases gk with
      | zero => exact absurd HA.out (by simp [impl_Visit.l0])
      | succ k1 =>
        have H := HA.out
        clear HA
        simp only [impl_Visit.l0] at H
        by_cases c4 : x13_1 < (l0.length : Int)
        · rw [if_pos c4] at H
          have c4b0 : decide (x13_1 < (l0.length : Int)) = true := decide_eq_true c4
          clear c4
          by_cases c5 : 0 ≤ x13_1
          · rw [if_pos c5] at H
            have c5b0 : decide (0 ≤ x13_1) = true := decide_eq_true c5
            clear c5
            by_cases c6 : x13_1 < (l0.length : Int)
            · rw [if_pos c6] at H
              have c6b0 : decide (x13_1 < (l0.length : Int)) = true := decide_eq_true c6
              clear c6
              by_cases c7 : x13_1 < (l1.length : Int)
              · rw [if_pos c7] at H
                have c7b0 : decide (x13_1 < (l1.length : Int)) = true := decide_eq_true c7
                clear c7
                by_cases c8 : (!(((rd_T99 l0 x13_1).f0) == ((rd_T99 l1 x13_1).f0)) || (!(((rd_T99 l0 x13_1).f1) == ((rd_T99 l1 x13_1).f1)))) = true
                · rw [if_pos c8] at H
                  have c8b0 : (!(((rd_T99 l0 x13_1).f0) == ((rd_T99 l1 x13_1).f0)) || (!(((rd_T99 l0 x13_1).f1) == ((rd_T99 l1 x13_1).f1)))) = true := c8
                  clear c8
                  obtain rfl := Option.some.inj H
                  have p253 : 0 ≤ (x13_1 : Int) := of_decide_eq_true (by first | (with_reducible assumption) | assumption)
                  have q253 : x13_1 < (l0.length : Int) := of_decide_eq_true (by first | (with_reducible assumption) | assumption)
                  obtain ⟨ad253, e253, hx253_0, hx253_1⟩ := at_T99 HR0.out x13_1 p253 q253
                  cases e253
                  replace p253 := eq_true p253
                  replace q253 := eq_true q253
                  have p254 : 0 ≤ (x13_1 : Int) := of_decide_eq_true (by first | (with_reducible assumption) | assumption)
                  have q254 : x13_1 < (l1.length : Int) := of_decide_eq_true (by first | (with_reducible assumption) | assumption)
                  obtain ⟨ad254, e254, hx254_0, hx254_1⟩ := at_T99 HR1.out x13_1 p254 q254
                  cases e254
                  replace p254 := eq_true p254
                  replace q254 := eq_true q254
                  go_wp2
                  repeat (go_quiet (fail); try go_wp2)
                  go_ret
                  exact ⟨by first | rfl | (simp; done) | (simp [*]; done), by repeat (first | exact Drawn0.refl _ | apply Drawn0.step)⟩
                · rw [if_neg c8] at H
                  have c8b0 : (!(((rd_T99 l0 x13_1).f0) == ((rd_T99 l1 x13_1).f0)) || (!(((rd_T99 l0 x13_1).f1) == ((rd_T99 l1 x13_1).f1)))) = false := by simpa using c8
                  clear c8
                  have H' := Aside0.mk H
                  clear H
                  have p253 : 0 ≤ (x13_1 : Int) := of_decide_eq_true (by first | (with_reducible assumption) | assumption)
                  have q253 : x13_1 < (l0.length : Int) := of_decide_eq_true (by first | (with_reducible assumption) | assumption)
                  obtain ⟨ad253, e253, hx253_0, hx253_1⟩ := at_T99 HR0.out x13_1 p253 q253
                  cases e253
                  replace p253 := eq_true p253
                  replace q253 := eq_true q253
                  have p254 : 0 ≤ (x13_1 : Int) := of_decide_eq_true (by first | (with_reducible assumption) | assumption)
                  have q254 : x13_1 < (l1.length : Int) := of_decide_eq_true (by first | (with_reducible assumption) | assumption)
                  obtain ⟨ad254, e254, hx254_0, hx254_1⟩ := at_T99 HR1.out x13_1 p254 q254
                  cases e254
                  replace p254 := eq_true p254
                  replace q254 := eq_true q254
                  go_wp2
                  repeat (go_quiet (fail); try go_wp2)
                  go_roundg k1
                  case measure => have := HK1.out; omega
                  case rel => exact ⟨(wrap64 (x13_1 + 1)), (by first | rfl | (simp; done) | (simp [*]; done)), H', ⟨by have := HK1.out; omega⟩, by repeat (first | exact Drawn0.refl _ | apply Drawn0.step)⟩
              · rw [if_neg c7] at H
                exact absurd H (by simp)
            · rw [if_neg c6] at H
              exact absurd H (by simp)
          · rw [if_neg c5] at H
            exact absurd H (by simp)
        · rw [if_neg c4] at H
          have c4b0 : decide (x13_1 < (l0.length : Int)) = false := decide_eq_false c4
          clear c4
          obtain rfl := Option.some.inj H
          go_wp2
          repeat (go_quiet (fail); try go_wp2)
          go_ret
          exact ⟨by first | rfl | (simp; done) | (simp [*]; done), by repeat (first | exact Drawn0.refl _ | apply Drawn0.step)⟩
  · rw [if_neg c3] at H
    have c3b0 : ((l0.length : Int) == (l1.length : Int)) = false := beq_eq_false_iff_ne.mpr c3
    have c3b1 : ((l0.length : Int) != (l1.length : Int)) = true := bne_iff_ne.mpr c3
    have c3b2 : (l0.length == l1.length) = false := by first | simpa using c3 | (simp at c3 ⊢; omega)
    obtain rfl := Option.some.inj H
    go_enter Tryz.func63, Tryz.ntmps63
    go_wp2
    repeat (go_quiet (fail); try go_wp2)
    go_ret
    exact ⟨by first | rfl | (simp; done) | (simp [*]; done), by repeat (first | exact Drawn0.refl _ | apply Drawn0.step)⟩

/-! ### slices_Index_int_int: function 73 -/
def slices_Index_int_int.l0 : Nat → List Int → Int → Int → Int → Option (Int)
  | 0, _, _, _, _ => none
  | k + 1, x0, x1, x7, x8 => if x8 < x7 then (if 0 ≤ x8 then (if x8 < (x0.length : Int) then (if x1 = (rd x0 x8) then (some x8) else (slices_Index_int_int.l0 k x0 x1 x7 (wrap64 (x8 + 1)))) else (none)) else (none)) else (some (-1))
def slices_Index_int_int.f (k : Nat) (l0 : List Int) (a1 : Int) : Option (Int) := slices_Index_int_int.l0 k l0 a1 (l0.length : Int) 0
set_option maxHeartbeats 8000000 in
set_option maxRecDepth 100000 in
theorem slices_Index_int_int.calls (k : Nat) (A0 : Option Addr) (c0 : Nat) (l0 : List Int) (a1 : Int) (r : Int) (w : World) (hr0 : Kd.C (Kd.int .i64) w A0 l0.length l0) (hc0 : l0.length ≤ c0) (h : slices_Index_int_int.f k l0 a1 = some r) :
    Calls Tryz.prog 73 #[.slice A0 l0.length c0, .int .i64 a1] w fun e w' => e = .returned (.int .i64 r) ∧ Drawn0 w w' := by
  have HR0 := Aside0.mk hr0
  have HC0 := Aside0.mk hc0
  clear hr0 hc0
  have H : (slices_Index_int_int.l0 k l0 a1 (l0.length : Int) 0) = some r := h
  clear h
  have H' := Aside0.mk H
  clear H
  go_enter Tryz.func73, Tryz.ntmps73
  go_wp2
  go_loopg [8] k (fun kq v8 w' => ∃ (x8_1 : Int), v8 = .int .i64 x8_1 ∧ Aside0 (slices_Index_int_int.l0 kq l0 a1 (l0.length : Int) x8_1 = some r) ∧ Aside0 (kq ≤ k) ∧ Drawn0 w w')
  case atStart => exact ⟨(0), (by first | rfl | (simp; done) | (simp [*]; done)), H', ⟨Nat.le_refl _⟩, by repeat (first | exact Drawn0.refl _ | apply Drawn0.step)⟩
  case round =>
    clear H'
    try clear p2
    obtain ⟨x8_1, rfl, HA, HK1, ⟨m1, rfl⟩⟩ := hrel
    cases gk with
    | zero => exact absurd HA.out (by simp [slices_Index_int_int.l0])
    | succ k1 =>
      have H := HA.out
      clear HA
      simp only [slices_Index_int_int.l0] at H
      by_cases c3 : x8_1 < (l0.length : Int)
      · rw [if_pos c3] at H
        have c3b0 : decide (x8_1 < (l0.length : Int)) = true := decide_eq_true c3
        clear c3
        by_cases c4 : 0 ≤ x8_1
        · rw [if_pos c4] at H
          have c4b0 : decide (0 ≤ x8_1) = true := decide_eq_true c4
          clear c4
          by_cases c5 : x8_1 < (l0.length : Int)
          · rw [if_pos c5] at H
            have c5b0 : decide (x8_1 < (l0.length : Int)) = true := decide_eq_true c5
            clear c5
            by_cases c6 : a1 = (rd l0 x8_1)
            · rw [if_pos c6] at H
              have c6b0 : (a1 == (rd l0 x8_1)) = true := beq_iff_eq.mpr c6
              have c6b1 : (a1 != (rd l0 x8_1)) = false := bne_eq_false_iff_eq.mpr c6
              clear c6
              obtain rfl := Option.some.inj H
              have p289 : 0 ≤ (x8_1 : Int) := of_decide_eq_true (by first | (with_reducible assumption) | assumption)
              have q289 : x8_1 < (l0.length : Int) := of_decide_eq_true (by first | (with_reducible assumption) | assumption)
              obtain ⟨ad289, e289, hx289_0⟩ := Kd.at_int HR0.out x8_1 p289 q289
              cases e289
              replace p289 := eq_true p289
              replace q289 := eq_true q289
              go_wp2
              go_ret
              exact ⟨by first | rfl | (simp; done) | (simp [*]; done), by repeat (first | exact Drawn0.refl _ | apply Drawn0.step)⟩
            · rw [if_neg c6] at H
              have c6b0 : (a1 == (rd l0 x8_1)) = false := beq_eq_false_iff_ne.mpr c6
              have c6b1 : (a1 != (rd l0 x8_1)) = true := bne_iff_ne.mpr c6
              have H' := Aside0.mk H
              clear H
              have p289 : 0 ≤ (x8_1 : Int) := of_decide_eq_true (by first | (with_reducible assumption) | assumption)
              have q289 : x8_1 < (l0.length : Int) := of_decide_eq_true (by first | (with_reducible assumption) | assumption)
              obtain ⟨ad289, e289, hx289_0⟩ := Kd.at_int HR0.out x8_1 p289 q289
              cases e289
              replace p289 := eq_true p289
              replace q289 := eq_true q289
              go_wp2
              go_roundg k1
              case measure => have := HK1.out; omega
              case rel => exact ⟨(wrap64 (x8_1 + 1)), (by first | rfl | (simp; done) | (simp [*]; done)), H', ⟨by have := HK1.out; omega⟩, by repeat (first | exact Drawn0.refl _ | apply Drawn0.step)⟩
          · rw [if_neg c5] at H
            exact absurd H (by simp)
        · rw [if_neg c4] at H
          exact absurd H (by simp)
      · rw [if_neg c3] at H
        have c3b0 : decide (x8_1 < (l0.length : Int)) = false := decide_eq_false c3
        clear c3
        obtain rfl := Option.some.inj H
        go_wp2
        go_ret
        exact ⟨by first | rfl | (simp; done) | (simp [*]; done), by repeat (first | exact Drawn0.refl _ | apply Drawn0.step)⟩

/-! ### slices_Contains_int_int: function 24 -/
def slices_Contains_int_int.f (k : Nat) (l0 : List Int) (a1 : Int) : Option (Bool) := (slices_Index_int_int.f k l0 a1).bind fun t290 => (some (decide (t290 ≥ 0)))
set_option maxHeartbeats 8000000 in
set_option maxRecDepth 100000 in
theorem slices_Contains_int_int.calls (k : Nat) (A0 : Option Addr) (c0 : Nat) (l0 : List Int) (a1 : Int) (r : Bool) (w : World) (hr0 : Kd.C (Kd.int .i64) w A0 l0.length l0) (hc0 : l0.length ≤ c0) (h : slices_Contains_int_int.f k l0 a1 = some r) :
    Calls Tryz.prog 24 #[.slice A0 l0.length c0, .int .i64 a1] w fun e w' => e = .returned (.bool r) ∧ Drawn0 w w' := by
  have HR0 := Aside0.mk hr0
  have HC0 := Aside0.mk hc0
  clear hr0 hc0
  have H : ((slices_Index_int_int.f k l0 a1).bind fun t290 => (some (decide (t290 ≥ 0)))) = some r := h
  clear h
  replace H := Option.bind_eq_some_iff.mp H
  obtain ⟨t290, A30, H⟩ := H
  replace H : (some (decide (t290 ≥ 0))) = some r := H
  have A3 := Aside0.mk A30
  clear A30
  obtain rfl := Option.some.inj H
  go_enter Tryz.func24, Tryz.ntmps24
  go_wp2_with (first | ((with_reducible refine gate_callee (f := 73) rfl ?_); refine goesL_ (some 7) rfl rfl Tryz.func73 (by kernel_rfl) rfl #[.slice A0 l0.length c0, .int .i64 a1] rfl (by (try simp only [List.map_toArray, List.map_cons, List.map_nil]); first | done | rfl | (simp only [List.length_drop, List.length_take]; rfl)) ?_; (with_reducible refine (slices_Index_int_int.calls k _ _ l0 a1 t290 _ ?side1 ?side2 A3.out).mono ?_); (case side1 => repeat (first | exact HR0.out | (with_reducible refine Kd.C_alloc ?_ _) | (with_reducible refine Kd.C_drewN ?_ _) | (with_reducible refine Kd.C_drew ?_))); (case side2 => exact HC0.out); rintro e w' ⟨rfl, ⟨nd, rfl⟩⟩; refine ⟨_, rfl, ?_⟩))
  go_ret
  exact ⟨by first | rfl | (simp; done) | (simp [*]; done), by repeat (first | exact Drawn0.refl _ | apply Drawn0.step)⟩

end Go.Proofs.YtfkmpnpliadohaaGreat.PL
