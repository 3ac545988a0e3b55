/- Printed by a program (the kit's printer, run over contracts that were proved by hand). -/
import Derived.Test.YtfkmpnpliadohaaGreatDT0
import Derived.Test.YtfkmpnpliadohaaGreatDB8
set_option linter.unusedVariables false
set_option linter.unusedSimpArgs false
namespace Go.Proofs.YtfkmpnpliadohaaGreat.PL
open Go.RowKit Go.Proofs.YtfkmpnpliadohaaGreatW.PrintWords Go.Proofs.YtfkmpnpliadohaaGreatW.PrintLast Go.Proofs.YtfkmpnpliadohaaGreatW.PrintMore
attribute [local go_sem] max2_int min2_int max_two min_two max_three min_three max_four min_four   -- for this text's walks alone
set_option linter.unusedVariables false
set_option linter.unusedSimpArgs false

/-! ### laws_light: function 17 -/
def laws_light.l0 : Nat → Int → Bool → List Int → List (S38) → Option (Bool)
 | 0, _, _, _, _ => none
 | k + 1, x3, x219000, x219001, x219002 => if x3 < (x219002.length : Int) then (if 0 ≤ x3 then (if ((rd_T38 x219002 x3).f2) > 1099511627776 then (some false) else (if ((rd_T38 x219002 x3).f2) < (-1099511627776) then (some false) else (laws_light.l0 k (wrap64 (x3 + 1)) x219000 x219001 x219002))) else (none)) else (some true)
def laws_light.f (k : Nat) (a0_0 : Bool) (l0_1 : List Int) (l0_2 : List (S38)) : Option (Bool) := laws_light.l0 k 0 a0_0 l0_1 l0_2
theorem laws_light.mono_l : ∀ k, (∀ y0 y1 y2 y3, LeO (laws_light.l0 k y0 y1 y2 y3) (laws_light.l0 (k + 1) y0 y1 y2 y3))
 | 0 => fun _ _ _ _ r h => by simp [laws_light.l0] at h
 | k + 1 => by
  have ih0 := laws_light.mono_l k
  ·intro y0 y1 y2 y3
   unfold laws_light.l0
   repeat' first
   | (with_reducible exact ih0 _ _ _ _)
   | (with_reducible exact LeO.refl _)
   | (with_reducible exact LeO.none _)
   | (with_reducible refine LeO.ite ?_ ?_)
   | (with_reducible refine LeO.bind ?_ (fun _ => ?_))
   | exact ih0 _ _ _ _
   | exact LeO.none _
   | refine LeO.ite ?_ ?_
   | refine LeO.bind ?_ (fun _ => ?_)
theorem laws_light.mono : ∀ a0 a1 a2 k, LeO (laws_light.f k a0 a1 a2) (laws_light.f (k + 1) a0 a1 a2) := by
 intro a0 a1 a2 k
 have ih0 := laws_light.mono_l k
 unfold laws_light.f
 repeat' first
   | (with_reducible exact ih0 _ _ _ _)
   | (with_reducible exact LeO.refl _)
   | (with_reducible exact LeO.none _)
   | (with_reducible refine LeO.ite ?_ ?_)
   | (with_reducible refine LeO.bind ?_ (fun _ => ?_))
   | exact ih0 _ _ _ _
   | exact LeO.none _
   | refine LeO.ite ?_ ?_
   | refine LeO.bind ?_ (fun _ => ?_)
set_option maxHeartbeats 8000000 in
set_option maxRecDepth 100000 in
theorem laws_light.calls (k : Nat) (a0_0 : Bool) (A0_1 : Option Addr) (c0_1 : Nat) (l0_1 : List Int) (A0_2 : Option Addr) (c0_2 : Nat) (l0_2 : List (S38)) (r : Bool) (w : World) (hr0_1 : Kd.C (Kd.int .i64) w A0_1 l0_1.length l0_1) (hc0_1 : l0_1.length ≤ c0_1) (hr0_2 : Kd.C k38 w A0_2 l0_2.length l0_2) (hc0_2 : l0_2.length ≤ c0_2) (h : laws_light.f k a0_0 l0_1 l0_2 = some r) :
  Calls Tryz.prog 17 #[.agg #[.bool a0_0, .slice A0_1 l0_1.length c0_1, .slice A0_2 l0_2.length c0_2]] w fun e w' => e = .returned (.bool r) ∧ Below w.heap.size w w' := by
 have hu25 := Tryz.underlying25
 have HR0_1 := Aside0.mk hr0_1
 have HC0_1 := Aside0.mk hc0_1
 clear hr0_1 hc0_1
 have HR0_2 := Aside0.mk hr0_2
 have HC0_2 := Aside0.mk hc0_2
 clear hr0_2 hc0_2
 have HB := Aside0.mk (Below.refl w.heap.size w)
 have H : (laws_light.l0 k 0 a0_0 l0_1 l0_2) = some r := h
 clear h
 have H' := Aside0.mk H
 clear H
 go_enter Tryz.func17, Tryz.ntmps17
 go_wp2_with (first | ((with_reducible refine gate_dst (N := 1) rfl ?_); refine box_event ?hg (N := 1) ?hd (cs := #[.bool a0_0, .slice A0_1 l0_1.length c0_1, .slice A0_2 l0_2.length c0_2]) (t := 25) ?hr ?_; (case hd => rfl); (case hg => rfl); (case hr => first | (go_simp; done) | (go_simp; rfl)); intro gb218 hg w2 hbox hb; have n0_ := Aside0.mk (below_step (by repeat (first | (with_reducible first | exact HB.out | apply below_alloc | apply pw_below_drewN | apply below_drew1) | exact HB.out)) hb); have n1_ := Aside0.mk (hbox); have n2_ := Aside0.mk ((by rw [hg]; exact (below_size (by repeat (first | (with_reducible first | exact HB.out | apply below_alloc | apply pw_below_drewN | apply below_drew1) | exact HB.out))) : w.heap.size ≤ gb218)); have n3_ := Aside0.mk ((by rw [hg]; exact (below_size (by repeat (first | (with_reducible first | exact HB.out | apply below_alloc | apply pw_below_drewN | apply below_drew1) | exact HB.out))) : w.heap.size ≤ gb218)); clear HB; have HB := n0_; have BK218 := n1_; have GW218 := n2_; have GE218 := n3_; clear n0_ n1_ n2_ n3_; clear hb hbox hg))
 go_loopg [3] k (fun kq v3 w' => ∃ (x3_1 : Int), v3 = .int .i64 x3_1 ∧ Aside0 (laws_light.l0 kq x3_1 a0_0 l0_1 l0_2 = some r) ∧ Aside0 (kq ≤ k) ∧ Aside0 (w'.heap[gb218]? = some (.cells #[.bool a0_0, (.slice A0_1 l0_1.length c0_1), (.slice A0_2 l0_2.length c0_2)] 25 (0, 0))) ∧ Aside0 (Below w.heap.size w w'))
 case atStart => exact ⟨(0), (by first | rfl | (simp; done) | (simp [*]; done)), H', ⟨Nat.le_refl _⟩, ⟨by (with_reducible repeat (first | refine blk_drewN ?_ _ | refine blk_drew ?_ | refine blk_alloc ?_ _)); exact BK218.out⟩, ⟨by repeat (first | (with_reducible first | exact HB.out | apply below_alloc | apply pw_below_drewN | apply below_drew1 | refine below_set ?_ GE218.out) | exact HB.out)⟩⟩
 case round =>
  clear H'
  try clear c1
  try clear p2
  obtain ⟨x3_1, rfl, HA, HK1, BK218, HB⟩ := hrel
  cases gk with
  | zero => exact absurd HA.out (by simp [laws_light.l0])
  | succ k1 =>
   have H := HA.out
   clear HA
   simp only [laws_light.l0] at H
   by_cases c3 : x3_1 < (l0_2.length : Int)
   ·rw [if_pos c3] at H
    have c3b0 : decide (x3_1 < (l0_2.length : Int)) = true := decide_eq_true c3
    clear c3
    by_cases c4 : 0 ≤ x3_1
    ·rw [if_pos c4] at H
     have c4b0 : decide (0 ≤ x3_1) = true := decide_eq_true c4
     clear c4
     by_cases c5 : ((rd_T38 l0_2 x3_1).f2) > 1099511627776
     ·rw [if_pos c5] at H
      have c5b0 : decide (1099511627776 < ((rd_T38 l0_2 x3_1).f2)) = true := decide_eq_true c5
      clear c5
      obtain rfl := Option.some.inj H
      have hcz6_0 : wr.cell? ⟨gb218, 0, none⟩ = some (.bool a0_0) := (blk_cell BK218.out 0).trans rfl
      have hcz6_1 : wr.cell? ⟨gb218, 1, none⟩ = some (.slice A0_1 l0_1.length c0_1) := (blk_cell BK218.out 1).trans rfl
      have hcz6_2 : wr.cell? ⟨gb218, 2, none⟩ = some (.slice A0_2 l0_2.length c0_2) := (blk_cell BK218.out 2).trans rfl
      have hfz6_0 := blk_frozen BK218.out 0
      have hfz6_1 := blk_frozen BK218.out 1
      have hfz6_2 := blk_frozen BK218.out 2
      have p219 : 0 ≤ (x3_1 : Int) := of_decide_eq_true (by first | (with_reducible assumption) | assumption)
      have q219 : x3_1 < (l0_2.length : Int) := of_decide_eq_true (by first | (with_reducible assumption) | assumption)
      obtain ⟨ad219, e219, hx219_0, hx219_1, hx219_2⟩ := at_T38 HR0_2.out x3_1 p219 q219
      cases e219
      replace hx219_0 := (HB.out.cell (World.block_lt_of_cell? w _ hx219_0)).trans hx219_0
      replace hx219_1 := (HB.out.cell (World.block_lt_of_cell? w _ hx219_1)).trans hx219_1
      replace hx219_2 := (HB.out.cell (World.block_lt_of_cell? w _ hx219_2)).trans hx219_2
      replace p219 := eq_true p219
      replace q219 := eq_true q219
      go_wp2
      go_ret
      exact ⟨by first | rfl | (simp [errW_none, errW_some] <;> rfl) | (simp [*, errW_none, errW_some] <;> rfl), by repeat (first | (with_reducible first | exact HB.out | apply below_alloc | apply pw_below_drewN | apply below_drew1 | refine below_set ?_ GE218.out) | exact HB.out)⟩
     ·rw [if_neg c5] at H
      have c5b0 : decide (1099511627776 < ((rd_T38 l0_2 x3_1).f2)) = false := decide_eq_false c5
      clear c5
      by_cases c7 : ((rd_T38 l0_2 x3_1).f2) < (-1099511627776)
      ·rw [if_pos c7] at H
       have c7b0 : decide (((rd_T38 l0_2 x3_1).f2) < (-1099511627776)) = true := decide_eq_true c7
       clear c7
       obtain rfl := Option.some.inj H
       have hcz8_0 : wr.cell? ⟨gb218, 0, none⟩ = some (.bool a0_0) := (blk_cell BK218.out 0).trans rfl
       have hcz8_1 : wr.cell? ⟨gb218, 1, none⟩ = some (.slice A0_1 l0_1.length c0_1) := (blk_cell BK218.out 1).trans rfl
       have hcz8_2 : wr.cell? ⟨gb218, 2, none⟩ = some (.slice A0_2 l0_2.length c0_2) := (blk_cell BK218.out 2).trans rfl
       have hfz8_0 := blk_frozen BK218.out 0
       have hfz8_1 := blk_frozen BK218.out 1
       have hfz8_2 := blk_frozen BK218.out 2
       have p219 : 0 ≤ (x3_1 : Int) := of_decide_eq_true (by first | (with_reducible assumption) | assumption)
       have q219 : x3_1 < (l0_2.length : Int) := of_decide_eq_true (by first | (with_reducible assumption) | assumption)
       obtain ⟨ad219, e219, hx219_0, hx219_1, hx219_2⟩ := at_T38 HR0_2.out x3_1 p219 q219
       cases e219
       replace hx219_0 := (HB.out.cell (World.block_lt_of_cell? w _ hx219_0)).trans hx219_0
       replace hx219_1 := (HB.out.cell (World.block_lt_of_cell? w _ hx219_1)).trans hx219_1
       replace hx219_2 := (HB.out.cell (World.block_lt_of_cell? w _ hx219_2)).trans hx219_2
       replace p219 := eq_true p219
       replace q219 := eq_true q219
       have p220 : 0 ≤ (x3_1 : Int) := of_decide_eq_true (by first | (with_reducible assumption) | assumption)
       have q220 : x3_1 < (l0_2.length : Int) := of_decide_eq_true (by first | (with_reducible assumption) | assumption)
       obtain ⟨ad220, e220, hx220_0, hx220_1, hx220_2⟩ := at_T38 HR0_2.out x3_1 p220 q220
       obtain rfl : ad219 = ad220 := (by injection e220)
       replace hx220_0 := (HB.out.cell (World.block_lt_of_cell? w _ hx220_0)).trans hx220_0
       replace hx220_1 := (HB.out.cell (World.block_lt_of_cell? w _ hx220_1)).trans hx220_1
       replace hx220_2 := (HB.out.cell (World.block_lt_of_cell? w _ hx220_2)).trans hx220_2
       replace p220 := eq_true p220
       replace q220 := eq_true q220
       go_wp2
       go_ret
       exact ⟨by first | rfl | (simp [errW_none, errW_some] <;> rfl) | (simp [*, errW_none, errW_some] <;> rfl), by repeat (first | (with_reducible first | exact HB.out | apply below_alloc | apply pw_below_drewN | apply below_drew1 | refine below_set ?_ GE218.out) | exact HB.out)⟩
      ·rw [if_neg c7] at H
       have c7b0 : decide (((rd_T38 l0_2 x3_1).f2) < (-1099511627776)) = false := decide_eq_false c7
       clear c7
       have H' := Aside0.mk H
       clear H
       have hcz9_0 : wr.cell? ⟨gb218, 0, none⟩ = some (.bool a0_0) := (blk_cell BK218.out 0).trans rfl
       have hcz9_1 : wr.cell? ⟨gb218, 1, none⟩ = some (.slice A0_1 l0_1.length c0_1) := (blk_cell BK218.out 1).trans rfl
       have hcz9_2 : wr.cell? ⟨gb218, 2, none⟩ = some (.slice A0_2 l0_2.length c0_2) := (blk_cell BK218.out 2).trans rfl
       have hfz9_0 := blk_frozen BK218.out 0
       have hfz9_1 := blk_frozen BK218.out 1
       have hfz9_2 := blk_frozen BK218.out 2
       have p219 : 0 ≤ (x3_1 : Int) := of_decide_eq_true (by first | (with_reducible assumption) | assumption)
       have q219 : x3_1 < (l0_2.length : Int) := of_decide_eq_true (by first | (with_reducible assumption) | assumption)
       obtain ⟨ad219, e219, hx219_0, hx219_1, hx219_2⟩ := at_T38 HR0_2.out x3_1 p219 q219
       cases e219
       replace hx219_0 := (HB.out.cell (World.block_lt_of_cell? w _ hx219_0)).trans hx219_0
       replace hx219_1 := (HB.out.cell (World.block_lt_of_cell? w _ hx219_1)).trans hx219_1
       replace hx219_2 := (HB.out.cell (World.block_lt_of_cell? w _ hx219_2)).trans hx219_2
       replace p219 := eq_true p219
       replace q219 := eq_true q219
       have p220 : 0 ≤ (x3_1 : Int) := of_decide_eq_true (by first | (with_reducible assumption) | assumption)
       have q220 : x3_1 < (l0_2.length : Int) := of_decide_eq_true (by first | (with_reducible assumption) | assumption)
       obtain ⟨ad220, e220, hx220_0, hx220_1, hx220_2⟩ := at_T38 HR0_2.out x3_1 p220 q220
       obtain rfl : ad219 = ad220 := (by injection e220)
       replace hx220_0 := (HB.out.cell (World.block_lt_of_cell? w _ hx220_0)).trans hx220_0
       replace hx220_1 := (HB.out.cell (World.block_lt_of_cell? w _ hx220_1)).trans hx220_1
       replace hx220_2 := (HB.out.cell (World.block_lt_of_cell? w _ hx220_2)).trans hx220_2
       replace p220 := eq_true p220
       replace q220 := eq_true q220
       go_wp2
       go_roundg k1
       case measure => have := HK1.out; omega
       case rel => exact ⟨(wrap64 (x3_1 + 1)), (by first | rfl | (simp; done) | (simp [*]; done)), H', ⟨by have := HK1.out; omega⟩, ⟨by (with_reducible repeat (first | refine blk_drewN ?_ _ | refine blk_drew ?_ | refine blk_alloc ?_ _)); exact BK218.out⟩, ⟨by repeat (first | (with_reducible first | exact HB.out | apply below_alloc | apply pw_below_drewN | apply below_drew1 | refine below_set ?_ GE218.out) | exact HB.out)⟩⟩
    ·rw [if_neg c4] at H
     exact absurd H (by simp)
   ·rw [if_neg c3] at H
    have c3b0 : decide (x3_1 < (l0_2.length : Int)) = false := decide_eq_false c3
    clear c3
    obtain rfl := Option.some.inj H
    have hcz10_0 : wr.cell? ⟨gb218, 0, none⟩ = some (.bool a0_0) := (blk_cell BK218.out 0).trans rfl
    have hcz10_1 : wr.cell? ⟨gb218, 1, none⟩ = some (.slice A0_1 l0_1.length c0_1) := (blk_cell BK218.out 1).trans rfl
    have hcz10_2 : wr.cell? ⟨gb218, 2, none⟩ = some (.slice A0_2 l0_2.length c0_2) := (blk_cell BK218.out 2).trans rfl
    have hfz10_0 := blk_frozen BK218.out 0
    have hfz10_1 := blk_frozen BK218.out 1
    have hfz10_2 := blk_frozen BK218.out 2
    go_wp2
    go_ret
    exact ⟨by first | rfl | (simp [errW_none, errW_some] <;> rfl) | (simp [*, errW_none, errW_some] <;> rfl), by repeat (first | (with_reducible first | exact HB.out | apply below_alloc | apply pw_below_drewN | apply below_drew1 | refine below_set ?_ GE218.out) | exact HB.out)⟩

/-! ### spec_hasInt: function 106 -/
def spec_hasInt.l0 : Nat → Int → List Int → Int → Int → Option (Bool)
 | 0, _, _, _, _ => none
 | k + 1, x1, x7, x8, x9 => if x9 < x8 then (if 0 ≤ x9 then (if x9 < (x7.length : Int) then (if (rd x7 x9) = x1 then (some true) else (spec_hasInt.l0 k x1 x7 x8 (wrap64 (x9 + 1)))) else (none)) else (none)) else (some false)
def spec_hasInt.f (k : Nat) (l0 : List Int) (a1 : Int) : Option (Bool) := spec_hasInt.l0 k a1 l0 (l0.length : Int) 0
theorem spec_hasInt.mono_l : ∀ k, (∀ y0 y1 y2 y3, LeO (spec_hasInt.l0 k y0 y1 y2 y3) (spec_hasInt.l0 (k + 1) y0 y1 y2 y3))
 | 0 => fun _ _ _ _ r h => by simp [spec_hasInt.l0] at h
 | k + 1 => by
  have ih0 := spec_hasInt.mono_l k
  ·intro y0 y1 y2 y3
   unfold spec_hasInt.l0
   repeat' first
   | (with_reducible exact ih0 _ _ _ _)
   | (with_reducible exact LeO.refl _)
   | (with_reducible exact LeO.none _)
   | (with_reducible refine LeO.ite ?_ ?_)
   | (with_reducible refine LeO.bind ?_ (fun _ => ?_))
   | exact ih0 _ _ _ _
   | exact LeO.none _
   | refine LeO.ite ?_ ?_
   | refine LeO.bind ?_ (fun _ => ?_)
theorem spec_hasInt.mono : ∀ a0 a1 k, LeO (spec_hasInt.f k a0 a1) (spec_hasInt.f (k + 1) a0 a1) := by
 intro a0 a1 k
 have ih0 := spec_hasInt.mono_l k
 unfold spec_hasInt.f
 repeat' first
   | (with_reducible exact ih0 _ _ _ _)
   | (with_reducible exact LeO.refl _)
   | (with_reducible exact LeO.none _)
   | (with_reducible refine LeO.ite ?_ ?_)
   | (with_reducible refine LeO.bind ?_ (fun _ => ?_))
   | exact ih0 _ _ _ _
   | exact LeO.none _
   | refine LeO.ite ?_ ?_
   | refine LeO.bind ?_ (fun _ => ?_)
set_option maxHeartbeats 8000000 in
set_option maxRecDepth 100000 in
theorem spec_hasInt.calls (k : Nat) (A0 : Option Addr) (c0 : Nat) (l0 : List Int) (a1 : Int) (r : Bool) (w : World) (hr0 : Kd.C (Kd.int .i64) w A0 l0.length l0) (hc0 : l0.length ≤ c0) (h : spec_hasInt.f k l0 a1 = some r) :
  Calls Tryz.prog 106 #[.slice A0 l0.length c0, .int .i64 a1] w fun e w' => e = .returned (.bool r) ∧ Drawn0 w w' := by
 have HR0 := Aside0.mk hr0
 have HC0 := Aside0.mk hc0
 clear hr0 hc0
 have H : (spec_hasInt.l0 k a1 l0 (l0.length : Int) 0) = some r := h
 clear h
 have H' := Aside0.mk H
 clear H
 go_enter Tryz.func106, Tryz.ntmps106
 go_wp2
 go_loopg [9] k (fun kq v9 w' => ∃ (x9_1 : Int), v9 = .int .i64 x9_1 ∧ Aside0 (spec_hasInt.l0 kq a1 l0 (l0.length : Int) x9_1 = some r) ∧ Aside0 (kq ≤ k) ∧ Drawn0 w w')
 case atStart => exact ⟨(0), (by first | rfl | (simp; done) | (simp [*]; done)), H', ⟨Nat.le_refl _⟩, by repeat (first | exact Drawn0.refl _ | apply Drawn0.step)⟩
 case round =>
  clear H'
  try clear c1
  try clear p2
  obtain ⟨x9_1, rfl, HA, HK1, ⟨m1, rfl⟩⟩ := hrel
  cases gk with
  | zero => exact absurd HA.out (by simp [spec_hasInt.l0])
  | succ k1 =>
   have H := HA.out
   clear HA
   simp only [spec_hasInt.l0] at H
   by_cases c3 : x9_1 < (l0.length : Int)
   ·rw [if_pos c3] at H
    have c3b0 : decide (x9_1 < (l0.length : Int)) = true := decide_eq_true c3
    clear c3
    by_cases c4 : 0 ≤ x9_1
    ·rw [if_pos c4] at H
     have c4b0 : decide (0 ≤ x9_1) = true := decide_eq_true c4
     clear c4
     by_cases c5 : x9_1 < (l0.length : Int)
     ·rw [if_pos c5] at H
      have c5b0 : decide (x9_1 < (l0.length : Int)) = true := decide_eq_true c5
      clear c5
      by_cases c6 : (rd l0 x9_1) = a1
      ·rw [if_pos c6] at H
       have c6b0 : ((rd l0 x9_1) == a1) = true := beq_iff_eq.mpr c6
       have c6b1 : ((rd l0 x9_1) != a1) = false := bne_eq_false_iff_eq.mpr c6
       clear c6
       obtain rfl := Option.some.inj H
       have p221 : 0 ≤ (x9_1 : Int) := of_decide_eq_true (by first | (with_reducible assumption) | assumption)
       have q221 : x9_1 < (l0.length : Int) := of_decide_eq_true (by first | (with_reducible assumption) | assumption)
       obtain ⟨ad221, e221, hx221_0⟩ := Kd.at_int HR0.out x9_1 p221 q221
       cases e221
       replace p221 := eq_true p221
       replace q221 := eq_true q221
       go_wp2
       go_ret
       exact ⟨by first | rfl | (simp; done) | (simp [*]; done), by repeat (first | exact Drawn0.refl _ | apply Drawn0.step)⟩
      ·rw [if_neg c6] at H
       have c6b0 : ((rd l0 x9_1) == a1) = false := beq_eq_false_iff_ne.mpr c6
       have c6b1 : ((rd l0 x9_1) != a1) = true := bne_iff_ne.mpr c6
       have H' := Aside0.mk H
       clear H
       have p221 : 0 ≤ (x9_1 : Int) := of_decide_eq_true (by first | (with_reducible assumption) | assumption)
       have q221 : x9_1 < (l0.length : Int) := of_decide_eq_true (by first | (with_reducible assumption) | assumption)
       obtain ⟨ad221, e221, hx221_0⟩ := Kd.at_int HR0.out x9_1 p221 q221
       cases e221
       replace p221 := eq_true p221
       replace q221 := eq_true q221
       go_wp2
       go_roundg k1
       case measure => have := HK1.out; omega
       case rel => exact ⟨(wrap64 (x9_1 + 1)), (by first | rfl | (simp; done) | (simp [*]; done)), H', ⟨by have := HK1.out; omega⟩, by repeat (first | exact Drawn0.refl _ | apply Drawn0.step)⟩
     ·rw [if_neg c5] at H
      exact absurd H (by simp)
    ·rw [if_neg c4] at H
     exact absurd H (by simp)
   ·rw [if_neg c3] at H
    have c3b0 : decide (x9_1 < (l0.length : Int)) = false := decide_eq_false c3
    clear c3
    obtain rfl := Option.some.inj H
    go_wp2
    go_ret
    exact ⟨by first | rfl | (simp; done) | (simp [*]; done), by repeat (first | exact Drawn0.refl _ | apply Drawn0.step)⟩

/-! ### spec_twice: function 107 -/
def spec_twice.l0 : Nat → List Int → List Int → Int → Int → Option (Bool)
 | 0, _, _, _, _ => none
 | k + 1, x0, x5, x6, x7 => if x7 < x6 then (if 0 ≤ x7 then (if x7 < (x5.length : Int) then (if x7 ≤ (x0.length : Int) then ((spec_hasInt.f k (x0.take (x7 : Int).toNat) (rd x5 x7)).bind fun t224 => (if t224 = true then (some true) else (spec_twice.l0 k x0 x5 x6 (wrap64 (x7 + 1))))) else (none)) else (none)) else (none)) else (some false)
def spec_twice.f (k : Nat) (l0 : List Int) : Option (Bool) := spec_twice.l0 k l0 l0 (l0.length : Int) 0
theorem spec_twice.mono_l : ∀ k, (∀ y0 y1 y2 y3, LeO (spec_twice.l0 k y0 y1 y2 y3) (spec_twice.l0 (k + 1) y0 y1 y2 y3))
 | 0 => fun _ _ _ _ r h => by simp [spec_twice.l0] at h
 | k + 1 => by
  have ih0 := spec_twice.mono_l k
  ·intro y0 y1 y2 y3
   unfold spec_twice.l0
   repeat' first
   | (with_reducible exact ih0 _ _ _ _)
   | (with_reducible exact spec_hasInt.mono _ _ _)
   | (with_reducible exact LeO.refl _)
   | (with_reducible exact LeO.none _)
   | (with_reducible refine LeO.ite ?_ ?_)
   | (with_reducible refine LeO.bind ?_ (fun _ => ?_))
   | exact ih0 _ _ _ _
   | exact spec_hasInt.mono _ _ _
   | exact LeO.none _
   | refine LeO.ite ?_ ?_
   | refine LeO.bind ?_ (fun _ => ?_)
theorem spec_twice.mono : ∀ a0 k, LeO (spec_twice.f k a0) (spec_twice.f (k + 1) a0) := by
 intro a0 k
 have ih0 := spec_twice.mono_l k
 unfold spec_twice.f
 repeat' first
   | (with_reducible exact ih0 _ _ _ _)
   | (with_reducible exact spec_hasInt.mono _ _ _)
   | (with_reducible exact LeO.refl _)
   | (with_reducible exact LeO.none _)
   | (with_reducible refine LeO.ite ?_ ?_)
   | (with_reducible refine LeO.bind ?_ (fun _ => ?_))
   | exact ih0 _ _ _ _
   | exact spec_hasInt.mono _ _ _
   | exact LeO.none _
   | refine LeO.ite ?_ ?_
   | refine LeO.bind ?_ (fun _ => ?_)
set_option maxHeartbeats 8000000 in
set_option maxRecDepth 100000 in
theorem spec_twice.calls (k : Nat) (A0 : Option Addr) (c0 : Nat) (l0 : List Int) (r : Bool) (w : World) (hr0 : Kd.C (Kd.int .i64) w A0 l0.length l0) (hc0 : l0.length ≤ c0) (h : spec_twice.f k l0 = some r) :
  Calls Tryz.prog 107 #[.slice A0 l0.length c0] w fun e w' => e = .returned (.bool r) ∧ Drawn0 w w' := by
 have HR0 := Aside0.mk hr0
 have HC0 := Aside0.mk hc0
 clear hr0 hc0
 have H : (spec_twice.l0 k l0 l0 (l0.length : Int) 0) = some r := h
 clear h
 have H' := Aside0.mk H
 clear H
 go_enter Tryz.func107, Tryz.ntmps107
 go_wp2
 go_loopg [7] k (fun kq v7 w' => ∃ (x7_1 : Int), v7 = .int .i64 x7_1 ∧ Aside0 (spec_twice.l0 kq l0 l0 (l0.length : Int) x7_1 = some r) ∧ Aside0 (kq ≤ k) ∧ Drawn0 w w')
 case atStart => exact ⟨(0), (by first | rfl | (simp; done) | (simp [*]; done)), H', ⟨Nat.le_refl _⟩, by repeat (first | exact Drawn0.refl _ | apply Drawn0.step)⟩
 case round =>
  clear H'
  try clear c1
  obtain ⟨x7_1, rfl, HA, HK1, ⟨m1, rfl⟩⟩ := hrel
  cases gk with
  | zero => exact absurd HA.out (by simp [spec_twice.l0])
  | succ k1 =>
   have H := HA.out
   clear HA
   simp only [spec_twice.l0] at H
   by_cases c2 : x7_1 < (l0.length : Int)
   ·rw [if_pos c2] at H
    have c2b0 : decide (x7_1 < (l0.length : Int)) = true := decide_eq_true c2
    clear c2
    by_cases c3 : 0 ≤ x7_1
    ·rw [if_pos c3] at H
     have c3b0 : decide (0 ≤ x7_1) = true := decide_eq_true c3
     clear c3
     by_cases c4 : x7_1 < (l0.length : Int)
     ·rw [if_pos c4] at H
      have c4b0 : decide (x7_1 < (l0.length : Int)) = true := decide_eq_true c4
      clear c4
      have c5b0 := eq_true (of_decide_eq_true (by first | (with_reducible assumption) | assumption) : 0 ≤ x7_1)
      by_cases c6 : x7_1 ≤ (l0.length : Int)
      ·rw [if_pos c6] at H
       have c6b0 := eq_true c6
       have c6b1 : decide (x7_1 ≤ (l0.length : Int)) = true := decide_eq_true c6
       clear c6
       replace H := Option.bind_eq_some_iff.mp H
       obtain ⟨t224, A70, H⟩ := H
       replace H : (if t224 = true then (some true) else (spec_twice.l0 k1 l0 l0 (l0.length : Int) (wrap64 (x7_1 + 1)))) = some r := H
       have A7 := Aside0.mk A70
       clear A70
       by_cases c8 : t224 = true
       ·subst c8
        have H1 : (some true) = some r := by rw [if_pos rfl] at H; exact H
        clear H
        have H := H1
        clear H1
        obtain rfl := Option.some.inj H
        have p222 : 0 ≤ (x7_1 : Int) := of_decide_eq_true (by first | (with_reducible assumption) | assumption)
        have q222 : x7_1 < (l0.length : Int) := of_decide_eq_true (by first | (with_reducible assumption) | assumption)
        obtain ⟨ad222, e222, hx222_0⟩ := Kd.at_int HR0.out x7_1 p222 q222
        cases e222
        replace p222 := eq_true p222
        replace q222 := eq_true q222
        obtain ⟨i09, hi09, _, hsz9, _⟩ := info_parts info3
        obtain ⟨hcut9, hA9, hC9⟩ := print_take_of (P := Tryz.prog) (Value.int .i64) 0 22 3 .i64 Tryz.underlying22 hi09 hsz9 (some ad222) c0 l0 x7_1 (of_decide_eq_true (by first | (with_reducible assumption) | assumption)) (of_decide_eq_true (by first | (with_reducible assumption) | assumption)) HC0.out
        have HR223 := Aside0.mk (Kd.C_of_reads (h1 := fun _ => rfl) (hA9 _ (Kd.reads_of_C HR0.out)))
        have HC223 := Aside0.mk hC9
        clear hA9 hC9 hi09 hsz9
        go_wp2_with (first | ((with_reducible refine gate_callee (f := 106) rfl ?_); refine goesL_ (some 16) rfl rfl Tryz.func106 (by kernel_rfl) rfl #[.slice (some ad222) (l0.take (x7_1 : Int).toNat).length c0, .int .i64 (rd l0 x7_1)] rfl (by (try simp only [List.map_toArray, List.map_cons, List.map_nil]); first | done | (rw [show (l0.take (x7_1 : Int).toNat).length = x7_1.toNat from (by rw [List.length_take]; have h_ : (x7_1 : Int) ≤ (l0.length : Int) := of_decide_eq_true (by first | (with_reducible assumption) | assumption); omega)] <;> rfl) | rfl | (simp only [List.length_drop, List.length_take]; rfl)) ?_; (with_reducible refine (spec_hasInt.calls k1 _ _ (l0.take (x7_1 : Int).toNat) (rd l0 x7_1) true _ ?side1 ?side2 A7.out).mono ?_); (case side1 => repeat (first | exact HR223.out | (with_reducible refine Kd.C_alloc ?_ _) | (with_reducible refine Kd.C_drewN ?_ _) | (with_reducible refine Kd.C_drew ?_))); (case side2 => exact HC223.out); rintro e w' ⟨rfl, ⟨nd, rfl⟩⟩; refine ⟨_, rfl, ?_⟩))
        go_ret
        exact ⟨by first | rfl | (simp; done) | (simp [*]; done), by repeat (first | exact Drawn0.refl _ | apply Drawn0.step)⟩
       ·replace c8 := Bool.eq_false_iff.mpr c8
        subst c8
        have H1 : (spec_twice.l0 k1 l0 l0 (l0.length : Int) (wrap64 (x7_1 + 1))) = some r := by rw [if_neg (show ¬ (false = true) by decide)] at H; exact H
        clear H
        have H := H1
        clear H1
        have H' := Aside0.mk H
        clear H
        have p222 : 0 ≤ (x7_1 : Int) := of_decide_eq_true (by first | (with_reducible assumption) | assumption)
        have q222 : x7_1 < (l0.length : Int) := of_decide_eq_true (by first | (with_reducible assumption) | assumption)
        obtain ⟨ad222, e222, hx222_0⟩ := Kd.at_int HR0.out x7_1 p222 q222
        cases e222
        replace p222 := eq_true p222
        replace q222 := eq_true q222
        obtain ⟨i010, hi010, _, hsz10, _⟩ := info_parts info3
        obtain ⟨hcut10, hA10, hC10⟩ := print_take_of (P := Tryz.prog) (Value.int .i64) 0 22 3 .i64 Tryz.underlying22 hi010 hsz10 (some ad222) c0 l0 x7_1 (of_decide_eq_true (by first | (with_reducible assumption) | assumption)) (of_decide_eq_true (by first | (with_reducible assumption) | assumption)) HC0.out
        have HR223 := Aside0.mk (Kd.C_of_reads (h1 := fun _ => rfl) (hA10 _ (Kd.reads_of_C HR0.out)))
        have HC223 := Aside0.mk hC10
        clear hA10 hC10 hi010 hsz10
        go_wp2_with (first | ((with_reducible refine gate_callee (f := 106) rfl ?_); refine goesL_ (some 16) rfl rfl Tryz.func106 (by kernel_rfl) rfl #[.slice (some ad222) (l0.take (x7_1 : Int).toNat).length c0, .int .i64 (rd l0 x7_1)] rfl (by (try simp only [List.map_toArray, List.map_cons, List.map_nil]); first | done | (rw [show (l0.take (x7_1 : Int).toNat).length = x7_1.toNat from (by rw [List.length_take]; have h_ : (x7_1 : Int) ≤ (l0.length : Int) := of_decide_eq_true (by first | (with_reducible assumption) | assumption); omega)] <;> rfl) | rfl | (simp only [List.length_drop, List.length_take]; rfl)) ?_; (with_reducible refine (spec_hasInt.calls k1 _ _ (l0.take (x7_1 : Int).toNat) (rd l0 x7_1) false _ ?side1 ?side2 A7.out).mono ?_); (case side1 => repeat (first | exact HR223.out | (with_reducible refine Kd.C_alloc ?_ _) | (with_reducible refine Kd.C_drewN ?_ _) | (with_reducible refine Kd.C_drew ?_))); (case side2 => exact HC223.out); rintro e w' ⟨rfl, ⟨nd, rfl⟩⟩; refine ⟨_, rfl, ?_⟩))
        go_roundg k1
        case measure => have := HK1.out; omega
        case rel => exact ⟨(wrap64 (x7_1 + 1)), (by first | rfl | (simp; done) | (simp [*]; done)), H', ⟨by have := HK1.out; omega⟩, by repeat (first | exact Drawn0.refl _ | apply Drawn0.step)⟩
      ·rw [if_neg c6] at H
       exact absurd H (by simp)
     ·rw [if_neg c4] at H
      exact absurd H (by simp)
    ·rw [if_neg c3] at H
     exact absurd H (by simp)
   ·rw [if_neg c2] at H
    have c2b0 : decide (x7_1 < (l0.length : Int)) = false := decide_eq_false c2
    clear c2
    obtain rfl := Option.some.inj H
    go_wp2
    go_ret
    exact ⟨by first | rfl | (simp; done) | (simp [*]; done), by repeat (first | exact Drawn0.refl _ | apply Drawn0.step)⟩

/-! ### spec_Well: function 57 -/
def spec_Well.l0 : Nat → List (S38) → Int → Int → Bool → List Int → List (S38) → Option (Bool)
 | 0, _, _, _, _, _, _ => none
 | k + 1, x6, x7, x8, x226000, x226001, x226002 => if x8 < x7 then (if 0 ≤ x8 then (if x8 < (x6.length : Int) then (if ((rd_T38 x6 x8).f0) = ((rd_T38 x6 x8).f1) then (some false) else ((spec_hasInt.f k x226001 ((rd_T38 x6 x8).f0)).bind fun t229 => (if t229 = true then ((spec_hasInt.f k x226001 ((rd_T38 x6 x8).f1)).bind fun t230 => (if t230 = true then (if ((rd_T38 x6 x8).f2) > 1099511627776 then (some false) else (if ((rd_T38 x6 x8).f2) < (-1099511627776) then (some false) else (spec_Well.l0 k x6 x7 (wrap64 (x8 + 1)) x226000 x226001 x226002))) else (some false))) else (some false)))) else (none)) else (none)) else ((spec_twice.f k x226001).bind fun t226 => (some (!t226)))
def spec_Well.f (k : Nat) (a0_0 : Bool) (l0_1 : List Int) (l0_2 : List (S38)) : Option (Bool) := spec_Well.l0 k l0_2 (l0_2.length : Int) 0 a0_0 l0_1 l0_2
theorem spec_Well.mono_l : ∀ k, (∀ y0 y1 y2 y3 y4 y5, LeO (spec_Well.l0 k y0 y1 y2 y3 y4 y5) (spec_Well.l0 (k + 1) y0 y1 y2 y3 y4 y5))
 | 0 => fun _ _ _ _ _ _ r h => by simp [spec_Well.l0] at h
 | k + 1 => by
  have ih0 := spec_Well.mono_l k
  ·intro y0 y1 y2 y3 y4 y5
   unfold spec_Well.l0
   repeat' first
   | (with_reducible exact ih0 _ _ _ _ _ _)
   | (with_reducible exact spec_hasInt.mono _ _ _)
   | (with_reducible exact spec_twice.mono _ _)
   | (with_reducible exact LeO.refl _)
   | (with_reducible exact LeO.none _)
   | (with_reducible refine LeO.ite ?_ ?_)
   | (with_reducible refine LeO.bind ?_ (fun _ => ?_))
   | exact ih0 _ _ _ _ _ _
   | exact spec_hasInt.mono _ _ _
   | exact spec_twice.mono _ _
   | exact LeO.none _
   | refine LeO.ite ?_ ?_
   | refine LeO.bind ?_ (fun _ => ?_)
theorem spec_Well.mono : ∀ a0 a1 a2 k, LeO (spec_Well.f k a0 a1 a2) (spec_Well.f (k + 1) a0 a1 a2) := by
 intro a0 a1 a2 k
 have ih0 := spec_Well.mono_l k
 unfold spec_Well.f
 repeat' first
   | (with_reducible exact ih0 _ _ _ _ _ _)
   | (with_reducible exact spec_hasInt.mono _ _ _)
   | (with_reducible exact spec_twice.mono _ _)
   | (with_reducible exact LeO.refl _)
   | (with_reducible exact LeO.none _)
   | (with_reducible refine LeO.ite ?_ ?_)
   | (with_reducible refine LeO.bind ?_ (fun _ => ?_))
   | exact ih0 _ _ _ _ _ _
   | exact spec_hasInt.mono _ _ _
   | exact spec_twice.mono _ _
   | exact LeO.none _
   | refine LeO.ite ?_ ?_
   | refine LeO.bind ?_ (fun _ => ?_)
set_option maxHeartbeats 8000000 in
set_option maxRecDepth 100000 in
theorem spec_Well.calls (k : Nat) (a0_0 : Bool) (A0_1 : Option Addr) (c0_1 : Nat) (l0_1 : List Int) (A0_2 : Option Addr) (c0_2 : Nat) (l0_2 : List (S38)) (r : Bool) (w : World) (hr0_1 : Kd.C (Kd.int .i64) w A0_1 l0_1.length l0_1) (hc0_1 : l0_1.length ≤ c0_1) (hr0_2 : Kd.C k38 w A0_2 l0_2.length l0_2) (hc0_2 : l0_2.length ≤ c0_2) (h : spec_Well.f k a0_0 l0_1 l0_2 = some r) :
  Calls Tryz.prog 57 #[.agg #[.bool a0_0, .slice A0_1 l0_1.length c0_1, .slice A0_2 l0_2.length c0_2]] w fun e w' => e = .returned (.bool r) ∧ Below w.heap.size w w' := by
 have hu25 := Tryz.underlying25
 have hu38 := Tryz.underlying38
 have HR0_1 := Aside0.mk hr0_1
 have HC0_1 := Aside0.mk hc0_1
 clear hr0_1 hc0_1
 have HR0_2 := Aside0.mk hr0_2
 have HC0_2 := Aside0.mk hc0_2
 clear hr0_2 hc0_2
 have HB := Aside0.mk (Below.refl w.heap.size w)
 have H : (spec_Well.l0 k l0_2 (l0_2.length : Int) 0 a0_0 l0_1 l0_2) = some r := h
 clear h
 have H' := Aside0.mk H
 clear H
 go_enter Tryz.func57, Tryz.ntmps57
 go_wp2_with (first | ((with_reducible refine gate_dst (N := 1) rfl ?_); refine box_event ?hg (N := 1) ?hd (cs := #[.bool a0_0, .slice A0_1 l0_1.length c0_1, .slice A0_2 l0_2.length c0_2]) (t := 25) ?hr ?_; (case hd => rfl); (case hg => rfl); (case hr => first | (go_simp; done) | (go_simp; rfl)); intro gb225 hg w2 hbox hb; have n0_ := Aside0.mk (below_step (by repeat (first | (with_reducible first | exact HB.out | apply below_alloc | apply pw_below_drewN | apply below_drew1) | exact HB.out)) hb); have n1_ := Aside0.mk (hbox); have n2_ := Aside0.mk ((by rw [hg]; exact (below_size (by repeat (first | (with_reducible first | exact HB.out | apply below_alloc | apply pw_below_drewN | apply below_drew1) | exact HB.out))) : w.heap.size ≤ gb225)); have n3_ := Aside0.mk ((by rw [hg]; exact (below_size (by repeat (first | (with_reducible first | exact HB.out | apply below_alloc | apply pw_below_drewN | apply below_drew1) | exact HB.out))) : w.heap.size ≤ gb225)); clear HB; have HB := n0_; have BK225 := n1_; have GW225 := n2_; have GE225 := n3_; clear n0_ n1_ n2_ n3_; clear hb hbox hg; have hcz3_0 : w2.cell? ⟨gb225, 0, none⟩ = some (.bool a0_0) := (blk_cell BK225.out 0).trans rfl; have hcz3_1 : w2.cell? ⟨gb225, 1, none⟩ = some (.slice A0_1 l0_1.length c0_1) := (blk_cell BK225.out 1).trans rfl; have hcz3_2 : w2.cell? ⟨gb225, 2, none⟩ = some (.slice A0_2 l0_2.length c0_2) := (blk_cell BK225.out 2).trans rfl; have hfz3_0 := blk_frozen BK225.out 0; have hfz3_1 := blk_frozen BK225.out 1; have hfz3_2 := blk_frozen BK225.out 2))
 go_loopg [8] k (fun kq v8 w' => ∃ (x8_1 : Int), v8 = .int .i64 x8_1 ∧ Aside0 (spec_Well.l0 kq l0_2 (l0_2.length : Int) x8_1 a0_0 l0_1 l0_2 = some r) ∧ Aside0 (kq ≤ k) ∧ Aside0 (w'.heap[gb225]? = some (.cells #[.bool a0_0, (.slice A0_1 l0_1.length c0_1), (.slice A0_2 l0_2.length c0_2)] 25 (0, 0))) ∧ Aside0 (Below w.heap.size w w'))
 case atStart => exact ⟨(0), (by first | rfl | (simp; done) | (simp [*]; done)), H', ⟨Nat.le_refl _⟩, ⟨by (with_reducible repeat (first | refine blk_drewN ?_ _ | refine blk_drew ?_ | refine blk_alloc ?_ _)); exact BK225.out⟩, ⟨by repeat (first | (with_reducible first | exact HB.out | apply below_alloc | apply pw_below_drewN | apply below_drew1 | refine below_set ?_ GE225.out) | exact HB.out)⟩⟩
 case round =>
  clear H'
  try clear p2
  try clear hcz3_0
  try clear hcz3_1
  try clear hcz3_2
  try clear hfz3_0
  try clear hfz3_1
  try clear hfz3_2
  obtain ⟨x8_1, rfl, HA, HK1, BK225, HB⟩ := hrel
  cases gk with
  | zero => exact absurd HA.out (by simp [spec_Well.l0])
  | succ k1 =>
   have H := HA.out
   clear HA
   simp only [spec_Well.l0] at H
   by_cases c4 : x8_1 < (l0_2.length : Int)
   ·rw [if_pos c4] at H
    have c4b0 : decide (x8_1 < (l0_2.length : Int)) = true := decide_eq_true c4
    clear c4
    by_cases c5 : 0 ≤ x8_1
    ·rw [if_pos c5] at H
     have c5b0 : decide (0 ≤ x8_1) = true := decide_eq_true c5
     clear c5
     by_cases c6 : x8_1 < (l0_2.length : Int)
     ·rw [if_pos c6] at H
      have c6b0 : decide (x8_1 < (l0_2.length : Int)) = true := decide_eq_true c6
      clear c6
      by_cases c7 : ((rd_T38 l0_2 x8_1).f0) = ((rd_T38 l0_2 x8_1).f1)
      ·rw [if_pos c7] at H
       have c7b0 : (((rd_T38 l0_2 x8_1).f0) == ((rd_T38 l0_2 x8_1).f1)) = true := beq_iff_eq.mpr c7
       have c7b1 : (((rd_T38 l0_2 x8_1).f0) != ((rd_T38 l0_2 x8_1).f1)) = false := bne_eq_false_iff_eq.mpr c7
       clear c7
       obtain rfl := Option.some.inj H
       have p227 : 0 ≤ (x8_1 : Int) := of_decide_eq_true (by first | (with_reducible assumption) | assumption)
       have q227 : x8_1 < (l0_2.length : Int) := of_decide_eq_true (by first | (with_reducible assumption) | assumption)
       obtain ⟨ad227, e227, hx227_0, hx227_1, hx227_2⟩ := at_T38 HR0_2.out x8_1 p227 q227
       cases e227
       replace hx227_0 := (HB.out.cell (World.block_lt_of_cell? w _ hx227_0)).trans hx227_0
       replace hx227_1 := (HB.out.cell (World.block_lt_of_cell? w _ hx227_1)).trans hx227_1
       replace hx227_2 := (HB.out.cell (World.block_lt_of_cell? w _ hx227_2)).trans hx227_2
       replace p227 := eq_true p227
       replace q227 := eq_true q227
       go_wp2_with (first | ((with_reducible refine gate_dst (N := 4) rfl ?_); refine box_event ?hg (N := 4) ?hd (cs := #[.int .i64 0, .int .i64 0, .int .i64 0]) (t := 38) ?hr ?_; (case hd => rfl); (case hg => rfl); (case hr => first | (go_simp; done) | (go_simp; rfl)); intro gb228 hg w8 hbox hb; have n0_ := Aside0.mk (blk_below (g := gb225) (o := .cells #[.bool a0_0, .slice A0_1 l0_1.length c0_1, .slice (some ad227) l0_2.length c0_2] 25 (0, 0)) (by (with_reducible repeat (first | refine blk_drewN ?_ _ | refine blk_drew ?_ | refine blk_alloc ?_ _)); exact BK225.out) hb); have n1_ := Aside0.mk (below_step (by repeat (first | (with_reducible first | exact HB.out | apply below_alloc | apply pw_below_drewN | apply below_drew1 | refine below_set ?_ GE225.out) | exact HB.out)) hb); have n2_ := Aside0.mk (hbox); have n3_ := Aside0.mk ((by rw [hg]; exact (below_size (by repeat (first | (with_reducible first | exact HB.out | apply below_alloc | apply pw_below_drewN | apply below_drew1 | refine below_set ?_ GE225.out) | exact HB.out))) : w.heap.size ≤ gb228)); have n4_ := Aside0.mk ((by rw [hg]; exact (below_size (by repeat (first | (with_reducible first | exact HB.out | apply below_alloc | apply pw_below_drewN | apply below_drew1 | refine below_set ?_ GE225.out) | exact HB.out))) : w.heap.size ≤ gb228)); have n5_ := Aside0.mk ((by rw [hg]; exact Nat.ne_of_lt (blk_lt (g := gb225) (o := .cells #[.bool a0_0, .slice A0_1 l0_1.length c0_1, .slice (some ad227) l0_2.length c0_2] 25 (0, 0)) (by (with_reducible repeat (first | refine blk_drewN ?_ _ | refine blk_drew ?_ | refine blk_alloc ?_ _)); exact BK225.out)) : gb225 ≠ gb228)); have n6_ := Aside0.mk ((by rw [hg]; exact Nat.ne_of_gt (blk_lt (g := gb225) (o := .cells #[.bool a0_0, .slice A0_1 l0_1.length c0_1, .slice (some ad227) l0_2.length c0_2] 25 (0, 0)) (by (with_reducible repeat (first | refine blk_drewN ?_ _ | refine blk_drew ?_ | refine blk_alloc ?_ _)); exact BK225.out)) : gb228 ≠ gb225)); clear BK225; clear HB; have BK225 := n0_; have HB := n1_; have BK228 := n2_; have GW228 := n3_; have GE228 := n4_; have NB225_228 := n5_; have NB228_225 := n6_; clear n0_ n1_ n2_ n3_ n4_ n5_ n6_; clear hb hbox hg; have hnb9 := NB228_225.out; have hnc9 := NB225_228.out; have hcz10_0 : w8.cell? ⟨gb228, 0, none⟩ = some (.int .i64 0) := (blk_cell BK228.out 0).trans rfl; have hcz10_1 : w8.cell? ⟨gb228, 1, none⟩ = some (.int .i64 0) := (blk_cell BK228.out 1).trans rfl; have hcz10_2 : w8.cell? ⟨gb228, 2, none⟩ = some (.int .i64 0) := (blk_cell BK228.out 2).trans rfl; have hfz10_0 := blk_frozen BK228.out 0; have hfz10_1 := blk_frozen BK228.out 1; have hfz10_2 := blk_frozen BK228.out 2))
       go_ret
       exact ⟨by first | rfl | (simp [errW_none, errW_some] <;> rfl) | (simp [*, errW_none, errW_some] <;> rfl), by repeat (first | (with_reducible first | exact HB.out | apply below_alloc | apply pw_below_drewN | apply below_drew1 | refine below_set ?_ GE225.out | refine below_set ?_ GE228.out) | exact HB.out)⟩
      ·rw [if_neg c7] at H
       have c7b0 : (((rd_T38 l0_2 x8_1).f0) == ((rd_T38 l0_2 x8_1).f1)) = false := beq_eq_false_iff_ne.mpr c7
       have c7b1 : (((rd_T38 l0_2 x8_1).f0) != ((rd_T38 l0_2 x8_1).f1)) = true := bne_iff_ne.mpr c7
       replace H := Option.bind_eq_some_iff.mp H
       obtain ⟨t229, A110, H⟩ := H
       replace H : (if t229 = true then ((spec_hasInt.f k1 l0_1 ((rd_T38 l0_2 x8_1).f1)).bind fun t230 => (if t230 = true then (if ((rd_T38 l0_2 x8_1).f2) > 1099511627776 then (some false) else (if ((rd_T38 l0_2 x8_1).f2) < (-1099511627776) then (some false) else (spec_Well.l0 k1 l0_2 (l0_2.length : Int) (wrap64 (x8_1 + 1)) a0_0 l0_1 l0_2))) else (some false))) else (some false)) = some r := H
       have A11 := Aside0.mk A110
       clear A110
       by_cases c12 : t229 = true
       ·subst c12
        have H1 : ((spec_hasInt.f k1 l0_1 ((rd_T38 l0_2 x8_1).f1)).bind fun t230 => (if t230 = true then (if ((rd_T38 l0_2 x8_1).f2) > 1099511627776 then (some false) else (if ((rd_T38 l0_2 x8_1).f2) < (-1099511627776) then (some false) else (spec_Well.l0 k1 l0_2 (l0_2.length : Int) (wrap64 (x8_1 + 1)) a0_0 l0_1 l0_2))) else (some false))) = some r := by rw [if_pos rfl] at H; exact H
        clear H
        have H := H1
        clear H1
        replace H := Option.bind_eq_some_iff.mp H
        obtain ⟨t230, A130, H⟩ := H
        replace H : (if t230 = true then (if ((rd_T38 l0_2 x8_1).f2) > 1099511627776 then (some false) else (if ((rd_T38 l0_2 x8_1).f2) < (-1099511627776) then (some false) else (spec_Well.l0 k1 l0_2 (l0_2.length : Int) (wrap64 (x8_1 + 1)) a0_0 l0_1 l0_2))) else (some false)) = some r := H
        have A13 := Aside0.mk A130
        clear A130
        by_cases c14 : t230 = true
        ·subst c14
         have H1 : (if ((rd_T38 l0_2 x8_1).f2) > 1099511627776 then (some false) else (if ((rd_T38 l0_2 x8_1).f2) < (-1099511627776) then (some false) else (spec_Well.l0 k1 l0_2 (l0_2.length : Int) (wrap64 (x8_1 + 1)) a0_0 l0_1 l0_2))) = some r := by rw [if_pos rfl] at H; exact H
         clear H
         have H := H1
         clear H1
         by_cases c15 : ((rd_T38 l0_2 x8_1).f2) > 1099511627776
         ·rw [if_pos c15] at H
          have c15b0 : decide (1099511627776 < ((rd_T38 l0_2 x8_1).f2)) = true := decide_eq_true c15
          clear c15
          obtain rfl := Option.some.inj H
          have p227 : 0 ≤ (x8_1 : Int) := of_decide_eq_true (by first | (with_reducible assumption) | assumption)
          have q227 : x8_1 < (l0_2.length : Int) := of_decide_eq_true (by first | (with_reducible assumption) | assumption)
          obtain ⟨ad227, e227, hx227_0, hx227_1, hx227_2⟩ := at_T38 HR0_2.out x8_1 p227 q227
          cases e227
          replace hx227_0 := (HB.out.cell (World.block_lt_of_cell? w _ hx227_0)).trans hx227_0
          replace hx227_1 := (HB.out.cell (World.block_lt_of_cell? w _ hx227_1)).trans hx227_1
          replace hx227_2 := (HB.out.cell (World.block_lt_of_cell? w _ hx227_2)).trans hx227_2
          replace p227 := eq_true p227
          replace q227 := eq_true q227
          go_wp2_with (first | ((with_reducible refine gate_dst (N := 4) rfl ?_); refine box_event ?hg (N := 4) ?hd (cs := #[.int .i64 0, .int .i64 0, .int .i64 0]) (t := 38) ?hr ?_; (case hd => rfl); (case hg => rfl); (case hr => first | (go_simp; done) | (go_simp; rfl)); intro gb228 hg w16 hbox hb; have n0_ := Aside0.mk (blk_below (g := gb225) (o := .cells #[.bool a0_0, .slice A0_1 l0_1.length c0_1, .slice (some ad227) l0_2.length c0_2] 25 (0, 0)) (by (with_reducible repeat (first | refine blk_drewN ?_ _ | refine blk_drew ?_ | refine blk_alloc ?_ _)); exact BK225.out) hb); have n1_ := Aside0.mk (below_step (by repeat (first | (with_reducible first | exact HB.out | apply below_alloc | apply pw_below_drewN | apply below_drew1 | refine below_set ?_ GE225.out) | exact HB.out)) hb); have n2_ := Aside0.mk (hbox); have n3_ := Aside0.mk ((by rw [hg]; exact (below_size (by repeat (first | (with_reducible first | exact HB.out | apply below_alloc | apply pw_below_drewN | apply below_drew1 | refine below_set ?_ GE225.out) | exact HB.out))) : w.heap.size ≤ gb228)); have n4_ := Aside0.mk ((by rw [hg]; exact (below_size (by repeat (first | (with_reducible first | exact HB.out | apply below_alloc | apply pw_below_drewN | apply below_drew1 | refine below_set ?_ GE225.out) | exact HB.out))) : w.heap.size ≤ gb228)); have n5_ := Aside0.mk ((by rw [hg]; exact Nat.ne_of_lt (blk_lt (g := gb225) (o := .cells #[.bool a0_0, .slice A0_1 l0_1.length c0_1, .slice (some ad227) l0_2.length c0_2] 25 (0, 0)) (by (with_reducible repeat (first | refine blk_drewN ?_ _ | refine blk_drew ?_ | refine blk_alloc ?_ _)); exact BK225.out)) : gb225 ≠ gb228)); have n6_ := Aside0.mk ((by rw [hg]; exact Nat.ne_of_gt (blk_lt (g := gb225) (o := .cells #[.bool a0_0, .slice A0_1 l0_1.length c0_1, .slice (some ad227) l0_2.length c0_2] 25 (0, 0)) (by (with_reducible repeat (first | refine blk_drewN ?_ _ | refine blk_drew ?_ | refine blk_alloc ?_ _)); exact BK225.out)) : gb228 ≠ gb225)); clear BK225; clear HB; have BK225 := n0_; have HB := n1_; have BK228 := n2_; have GW228 := n3_; have GE228 := n4_; have NB225_228 := n5_; have NB228_225 := n6_; clear n0_ n1_ n2_ n3_ n4_ n5_ n6_; clear hb hbox hg; have hnb17 := NB228_225.out; have hnc17 := NB225_228.out; have hcz18_0 : w16.cell? ⟨gb228, 0, none⟩ = some (.int .i64 0) := (blk_cell BK228.out 0).trans rfl; have hcz18_1 : w16.cell? ⟨gb228, 1, none⟩ = some (.int .i64 0) := (blk_cell BK228.out 1).trans rfl; have hcz18_2 : w16.cell? ⟨gb228, 2, none⟩ = some (.int .i64 0) := (blk_cell BK228.out 2).trans rfl; have hfz18_0 := blk_frozen BK228.out 0; have hfz18_1 := blk_frozen BK228.out 1; have hfz18_2 := blk_frozen BK228.out 2; have hcz19_0 : w16.cell? ⟨gb225, 0, none⟩ = some (.bool a0_0) := (blk_cell BK225.out 0).trans rfl; have hcz19_1 : w16.cell? ⟨gb225, 1, none⟩ = some (.slice A0_1 l0_1.length c0_1) := (blk_cell BK225.out 1).trans rfl; have hcz19_2 : w16.cell? ⟨gb225, 2, none⟩ = some (.slice (some ad227) l0_2.length c0_2) := (blk_cell BK225.out 2).trans rfl; have hfz19_0 := blk_frozen BK225.out 0; have hfz19_1 := blk_frozen BK225.out 1; have hfz19_2 := blk_frozen BK225.out 2) | (go_at_call 106; (with_reducible refine (spec_hasInt.calls k1 _ _ l0_1 ((rd_T38 l0_2 x8_1).f0) true _ ?side1 ?side2 A11.out).mono ?_); (case side1 => exact Kd.C_below HR0_1.out (by repeat (first | (with_reducible first | exact HB.out | apply below_alloc | apply pw_below_drewN | apply below_drew1 | refine below_set ?_ GE225.out | refine below_set ?_ GE228.out) | exact HB.out))); (case side2 => exact HC0_1.out); rintro e w' ⟨rfl, ⟨nd, rfl⟩⟩) | (go_at_call 106; (with_reducible refine (spec_hasInt.calls k1 _ _ l0_1 ((rd_T38 l0_2 x8_1).f1) true _ ?side1 ?side2 A13.out).mono ?_); (case side1 => exact Kd.C_below HR0_1.out (by repeat (first | (with_reducible first | exact HB.out | apply below_alloc | apply pw_below_drewN | apply below_drew1 | refine below_set ?_ GE225.out | refine below_set ?_ GE228.out) | exact HB.out))); (case side2 => exact HC0_1.out); rintro e w' ⟨rfl, ⟨nd, rfl⟩⟩))
          go_ret
          exact ⟨by first | rfl | (simp [errW_none, errW_some] <;> rfl) | (simp [*, errW_none, errW_some] <;> rfl), by repeat (first | (with_reducible first | exact HB.out | apply below_alloc | apply pw_below_drewN | apply below_drew1 | refine below_set ?_ GE225.out | refine below_set ?_ GE228.out) | exact HB.out)⟩
         ·rw [if_neg c15] at H
          have c15b0 : decide (1099511627776 < ((rd_T38 l0_2 x8_1).f2)) = false := decide_eq_false c15
          clear c15
          by_cases c20 : ((rd_T38 l0_2 x8_1).f2) < (-1099511627776)
          ·rw [if_pos c20] at H
           have c20b0 : decide (((rd_T38 l0_2 x8_1).f2) < (-1099511627776)) = true := decide_eq_true c20
           clear c20
           obtain rfl := Option.some.inj H
           have p227 : 0 ≤ (x8_1 : Int) := of_decide_eq_true (by first | (with_reducible assumption) | assumption)
           have q227 : x8_1 < (l0_2.length : Int) := of_decide_eq_true (by first | (with_reducible assumption) | assumption)
           obtain ⟨ad227, e227, hx227_0, hx227_1, hx227_2⟩ := at_T38 HR0_2.out x8_1 p227 q227
           cases e227
           replace hx227_0 := (HB.out.cell (World.block_lt_of_cell? w _ hx227_0)).trans hx227_0
           replace hx227_1 := (HB.out.cell (World.block_lt_of_cell? w _ hx227_1)).trans hx227_1
           replace hx227_2 := (HB.out.cell (World.block_lt_of_cell? w _ hx227_2)).trans hx227_2
           replace p227 := eq_true p227
           replace q227 := eq_true q227
           go_wp2_with (first | ((with_reducible refine gate_dst (N := 4) rfl ?_); refine box_event ?hg (N := 4) ?hd (cs := #[.int .i64 0, .int .i64 0, .int .i64 0]) (t := 38) ?hr ?_; (case hd => rfl); (case hg => rfl); (case hr => first | (go_simp; done) | (go_simp; rfl)); intro gb228 hg w21 hbox hb; have n0_ := Aside0.mk (blk_below (g := gb225) (o := .cells #[.bool a0_0, .slice A0_1 l0_1.length c0_1, .slice (some ad227) l0_2.length c0_2] 25 (0, 0)) (by (with_reducible repeat (first | refine blk_drewN ?_ _ | refine blk_drew ?_ | refine blk_alloc ?_ _)); exact BK225.out) hb); have n1_ := Aside0.mk (below_step (by repeat (first | (with_reducible first | exact HB.out | apply below_alloc | apply pw_below_drewN | apply below_drew1 | refine below_set ?_ GE225.out) | exact HB.out)) hb); have n2_ := Aside0.mk (hbox); have n3_ := Aside0.mk ((by rw [hg]; exact (below_size (by repeat (first | (with_reducible first | exact HB.out | apply below_alloc | apply pw_below_drewN | apply below_drew1 | refine below_set ?_ GE225.out) | exact HB.out))) : w.heap.size ≤ gb228)); have n4_ := Aside0.mk ((by rw [hg]; exact (below_size (by repeat (first | (with_reducible first | exact HB.out | apply below_alloc | apply pw_below_drewN | apply below_drew1 | refine below_set ?_ GE225.out) | exact HB.out))) : w.heap.size ≤ gb228)); have n5_ := Aside0.mk ((by rw [hg]; exact Nat.ne_of_lt (blk_lt (g := gb225) (o := .cells #[.bool a0_0, .slice A0_1 l0_1.length c0_1, .slice (some ad227) l0_2.length c0_2] 25 (0, 0)) (by (with_reducible repeat (first | refine blk_drewN ?_ _ | refine blk_drew ?_ | refine blk_alloc ?_ _)); exact BK225.out)) : gb225 ≠ gb228)); have n6_ := Aside0.mk ((by rw [hg]; exact Nat.ne_of_gt (blk_lt (g := gb225) (o := .cells #[.bool a0_0, .slice A0_1 l0_1.length c0_1, .slice (some ad227) l0_2.length c0_2] 25 (0, 0)) (by (with_reducible repeat (first | refine blk_drewN ?_ _ | refine blk_drew ?_ | refine blk_alloc ?_ _)); exact BK225.out)) : gb228 ≠ gb225)); clear BK225; clear HB; have BK225 := n0_; have HB := n1_; have BK228 := n2_; have GW228 := n3_; have GE228 := n4_; have NB225_228 := n5_; have NB228_225 := n6_; clear n0_ n1_ n2_ n3_ n4_ n5_ n6_; clear hb hbox hg; have hnb22 := NB228_225.out; have hnc22 := NB225_228.out; have hcz23_0 : w21.cell? ⟨gb228, 0, none⟩ = some (.int .i64 0) := (blk_cell BK228.out 0).trans rfl; have hcz23_1 : w21.cell? ⟨gb228, 1, none⟩ = some (.int .i64 0) := (blk_cell BK228.out 1).trans rfl; have hcz23_2 : w21.cell? ⟨gb228, 2, none⟩ = some (.int .i64 0) := (blk_cell BK228.out 2).trans rfl; have hfz23_0 := blk_frozen BK228.out 0; have hfz23_1 := blk_frozen BK228.out 1; have hfz23_2 := blk_frozen BK228.out 2; have hcz24_0 : w21.cell? ⟨gb225, 0, none⟩ = some (.bool a0_0) := (blk_cell BK225.out 0).trans rfl; have hcz24_1 : w21.cell? ⟨gb225, 1, none⟩ = some (.slice A0_1 l0_1.length c0_1) := (blk_cell BK225.out 1).trans rfl; have hcz24_2 : w21.cell? ⟨gb225, 2, none⟩ = some (.slice (some ad227) l0_2.length c0_2) := (blk_cell BK225.out 2).trans rfl; have hfz24_0 := blk_frozen BK225.out 0; have hfz24_1 := blk_frozen BK225.out 1; have hfz24_2 := blk_frozen BK225.out 2) | (go_at_call 106; (with_reducible refine (spec_hasInt.calls k1 _ _ l0_1 ((rd_T38 l0_2 x8_1).f0) true _ ?side1 ?side2 A11.out).mono ?_); (case side1 => exact Kd.C_below HR0_1.out (by repeat (first | (with_reducible first | exact HB.out | apply below_alloc | apply pw_below_drewN | apply below_drew1 | refine below_set ?_ GE225.out | refine below_set ?_ GE228.out) | exact HB.out))); (case side2 => exact HC0_1.out); rintro e w' ⟨rfl, ⟨nd, rfl⟩⟩) | (go_at_call 106; (with_reducible refine (spec_hasInt.calls k1 _ _ l0_1 ((rd_T38 l0_2 x8_1).f1) true _ ?side1 ?side2 A13.out).mono ?_); (case side1 => exact Kd.C_below HR0_1.out (by repeat (first | (with_reducible first | exact HB.out | apply below_alloc | apply pw_below_drewN | apply below_drew1 | refine below_set ?_ GE225.out | refine below_set ?_ GE228.out) | exact HB.out))); (case side2 => exact HC0_1.out); rintro e w' ⟨rfl, ⟨nd, rfl⟩⟩))
           go_ret
           exact ⟨by first | rfl | (simp [errW_none, errW_some] <;> rfl) | (simp [*, errW_none, errW_some] <;> rfl), by repeat (first | (with_reducible first | exact HB.out | apply below_alloc | apply pw_below_drewN | apply below_drew1 | refine below_set ?_ GE225.out | refine below_set ?_ GE228.out) | exact HB.out)⟩
          ·rw [if_neg c20] at H
           have c20b0 : decide (((rd_T38 l0_2 x8_1).f2) < (-1099511627776)) = false := decide_eq_false c20
           clear c20
           have H' := Aside0.mk H
           clear H
           have p227 : 0 ≤ (x8_1 : Int) := of_decide_eq_true (by first | (with_reducible assumption) | assumption)
           have q227 : x8_1 < (l0_2.length : Int) := of_decide_eq_true (by first | (with_reducible assumption) | assumption)
           obtain ⟨ad227, e227, hx227_0, hx227_1, hx227_2⟩ := at_T38 HR0_2.out x8_1 p227 q227
           cases e227
           replace hx227_0 := (HB.out.cell (World.block_lt_of_cell? w _ hx227_0)).trans hx227_0
           replace hx227_1 := (HB.out.cell (World.block_lt_of_cell? w _ hx227_1)).trans hx227_1
           replace hx227_2 := (HB.out.cell (World.block_lt_of_cell? w _ hx227_2)).trans hx227_2
           replace p227 := eq_true p227
           replace q227 := eq_true q227
           go_wp2_with (first | ((with_reducible refine gate_dst (N := 4) rfl ?_); refine box_event ?hg (N := 4) ?hd (cs := #[.int .i64 0, .int .i64 0, .int .i64 0]) (t := 38) ?hr ?_; (case hd => rfl); (case hg => rfl); (case hr => first | (go_simp; done) | (go_simp; rfl)); intro gb228 hg w25 hbox hb; have n0_ := Aside0.mk (blk_below (g := gb225) (o := .cells #[.bool a0_0, .slice A0_1 l0_1.length c0_1, .slice (some ad227) l0_2.length c0_2] 25 (0, 0)) (by (with_reducible repeat (first | refine blk_drewN ?_ _ | refine blk_drew ?_ | refine blk_alloc ?_ _)); exact BK225.out) hb); have n1_ := Aside0.mk (below_step (by repeat (first | (with_reducible first | exact HB.out | apply below_alloc | apply pw_below_drewN | apply below_drew1 | refine below_set ?_ GE225.out) | exact HB.out)) hb); have n2_ := Aside0.mk (hbox); have n3_ := Aside0.mk ((by rw [hg]; exact (below_size (by repeat (first | (with_reducible first | exact HB.out | apply below_alloc | apply pw_below_drewN | apply below_drew1 | refine below_set ?_ GE225.out) | exact HB.out))) : w.heap.size ≤ gb228)); have n4_ := Aside0.mk ((by rw [hg]; exact (below_size (by repeat (first | (with_reducible first | exact HB.out | apply below_alloc | apply pw_below_drewN | apply below_drew1 | refine below_set ?_ GE225.out) | exact HB.out))) : w.heap.size ≤ gb228)); have n5_ := Aside0.mk ((by rw [hg]; exact Nat.ne_of_lt (blk_lt (g := gb225) (o := .cells #[.bool a0_0, .slice A0_1 l0_1.length c0_1, .slice (some ad227) l0_2.length c0_2] 25 (0, 0)) (by (with_reducible repeat (first | refine blk_drewN ?_ _ | refine blk_drew ?_ | refine blk_alloc ?_ _)); exact BK225.out)) : gb225 ≠ gb228)); have n6_ := Aside0.mk ((by rw [hg]; exact Nat.ne_of_gt (blk_lt (g := gb225) (o := .cells #[.bool a0_0, .slice A0_1 l0_1.length c0_1, .slice (some ad227) l0_2.length c0_2] 25 (0, 0)) (by (with_reducible repeat (first | refine blk_drewN ?_ _ | refine blk_drew ?_ | refine blk_alloc ?_ _)); exact BK225.out)) : gb228 ≠ gb225)); clear BK225; clear HB; have BK225 := n0_; have HB := n1_; have BK228 := n2_; have GW228 := n3_; have GE228 := n4_; have NB225_228 := n5_; have NB228_225 := n6_; clear n0_ n1_ n2_ n3_ n4_ n5_ n6_; clear hb hbox hg; have hnb26 := NB228_225.out; have hnc26 := NB225_228.out; have hcz27_0 : w25.cell? ⟨gb228, 0, none⟩ = some (.int .i64 0) := (blk_cell BK228.out 0).trans rfl; have hcz27_1 : w25.cell? ⟨gb228, 1, none⟩ = some (.int .i64 0) := (blk_cell BK228.out 1).trans rfl; have hcz27_2 : w25.cell? ⟨gb228, 2, none⟩ = some (.int .i64 0) := (blk_cell BK228.out 2).trans rfl; have hfz27_0 := blk_frozen BK228.out 0; have hfz27_1 := blk_frozen BK228.out 1; have hfz27_2 := blk_frozen BK228.out 2; have hcz28_0 : w25.cell? ⟨gb225, 0, none⟩ = some (.bool a0_0) := (blk_cell BK225.out 0).trans rfl; have hcz28_1 : w25.cell? ⟨gb225, 1, none⟩ = some (.slice A0_1 l0_1.length c0_1) := (blk_cell BK225.out 1).trans rfl; have hcz28_2 : w25.cell? ⟨gb225, 2, none⟩ = some (.slice (some ad227) l0_2.length c0_2) := (blk_cell BK225.out 2).trans rfl; have hfz28_0 := blk_frozen BK225.out 0; have hfz28_1 := blk_frozen BK225.out 1; have hfz28_2 := blk_frozen BK225.out 2) | (go_at_call 106; (with_reducible refine (spec_hasInt.calls k1 _ _ l0_1 ((rd_T38 l0_2 x8_1).f0) true _ ?side1 ?side2 A11.out).mono ?_); (case side1 => exact Kd.C_below HR0_1.out (by repeat (first | (with_reducible first | exact HB.out | apply below_alloc | apply pw_below_drewN | apply below_drew1 | refine below_set ?_ GE225.out | refine below_set ?_ GE228.out) | exact HB.out))); (case side2 => exact HC0_1.out); rintro e w' ⟨rfl, ⟨nd, rfl⟩⟩) | (go_at_call 106; (with_reducible refine (spec_hasInt.calls k1 _ _ l0_1 ((rd_T38 l0_2 x8_1).f1) true _ ?side1 ?side2 A13.out).mono ?_); (case side1 => exact Kd.C_below HR0_1.out (by repeat (first | (with_reducible first | exact HB.out | apply below_alloc | apply pw_below_drewN | apply below_drew1 | refine below_set ?_ GE225.out | refine below_set ?_ GE228.out) | exact HB.out))); (case side2 => exact HC0_1.out); rintro e w' ⟨rfl, ⟨nd, rfl⟩⟩))
           go_roundg k1
           case measure => have := HK1.out; omega
           case rel => exact ⟨(wrap64 (x8_1 + 1)), (by first | rfl | (simp; done) | (simp [*]; done)), H', ⟨by have := HK1.out; omega⟩, ⟨by (with_reducible repeat (first | refine blk_drewN ?_ _ | refine blk_drew ?_ | refine blk_alloc ?_ _)); refine blk_far ?_ NB225_228.out _; (with_reducible repeat (first | refine blk_drewN ?_ _ | refine blk_drew ?_ | refine blk_alloc ?_ _)); refine blk_far ?_ NB225_228.out _; (with_reducible repeat (first | refine blk_drewN ?_ _ | refine blk_drew ?_ | refine blk_alloc ?_ _)); refine blk_far ?_ NB225_228.out _; (with_reducible repeat (first | refine blk_drewN ?_ _ | refine blk_drew ?_ | refine blk_alloc ?_ _)); exact BK225.out⟩, ⟨by repeat (first | (with_reducible first | exact HB.out | apply below_alloc | apply pw_below_drewN | apply below_drew1 | refine below_set ?_ GE225.out | refine below_set ?_ GE228.out) | exact HB.out)⟩⟩
        ·replace c14 := Bool.eq_false_iff.mpr c14
         subst c14
         have H1 : (some false) = some r := by rw [if_neg (show ¬ (false = true) by decide)] at H; exact H
         clear H
         have H := H1
         clear H1
         obtain rfl := Option.some.inj H
         have p227 : 0 ≤ (x8_1 : Int) := of_decide_eq_true (by first | (with_reducible assumption) | assumption)
         have q227 : x8_1 < (l0_2.length : Int) := of_decide_eq_true (by first | (with_reducible assumption) | assumption)
         obtain ⟨ad227, e227, hx227_0, hx227_1, hx227_2⟩ := at_T38 HR0_2.out x8_1 p227 q227
         cases e227
         replace hx227_0 := (HB.out.cell (World.block_lt_of_cell? w _ hx227_0)).trans hx227_0
         replace hx227_1 := (HB.out.cell (World.block_lt_of_cell? w _ hx227_1)).trans hx227_1
         replace hx227_2 := (HB.out.cell (World.block_lt_of_cell? w _ hx227_2)).trans hx227_2
         replace p227 := eq_true p227
         replace q227 := eq_true q227
         go_wp2_with (first | ((with_reducible refine gate_dst (N := 4) rfl ?_); refine box_event ?hg (N := 4) ?hd (cs := #[.int .i64 0, .int .i64 0, .int .i64 0]) (t := 38) ?hr ?_; (case hd => rfl); (case hg => rfl); (case hr => first | (go_simp; done) | (go_simp; rfl)); intro gb228 hg w29 hbox hb; have n0_ := Aside0.mk (blk_below (g := gb225) (o := .cells #[.bool a0_0, .slice A0_1 l0_1.length c0_1, .slice (some ad227) l0_2.length c0_2] 25 (0, 0)) (by (with_reducible repeat (first | refine blk_drewN ?_ _ | refine blk_drew ?_ | refine blk_alloc ?_ _)); exact BK225.out) hb); have n1_ := Aside0.mk (below_step (by repeat (first | (with_reducible first | exact HB.out | apply below_alloc | apply pw_below_drewN | apply below_drew1 | refine below_set ?_ GE225.out) | exact HB.out)) hb); have n2_ := Aside0.mk (hbox); have n3_ := Aside0.mk ((by rw [hg]; exact (below_size (by repeat (first | (with_reducible first | exact HB.out | apply below_alloc | apply pw_below_drewN | apply below_drew1 | refine below_set ?_ GE225.out) | exact HB.out))) : w.heap.size ≤ gb228)); have n4_ := Aside0.mk ((by rw [hg]; exact (below_size (by repeat (first | (with_reducible first | exact HB.out | apply below_alloc | apply pw_below_drewN | apply below_drew1 | refine below_set ?_ GE225.out) | exact HB.out))) : w.heap.size ≤ gb228)); have n5_ := Aside0.mk ((by rw [hg]; exact Nat.ne_of_lt (blk_lt (g := gb225) (o := .cells #[.bool a0_0, .slice A0_1 l0_1.length c0_1, .slice (some ad227) l0_2.length c0_2] 25 (0, 0)) (by (with_reducible repeat (first | refine blk_drewN ?_ _ | refine blk_drew ?_ | refine blk_alloc ?_ _)); exact BK225.out)) : gb225 ≠ gb228)); have n6_ := Aside0.mk ((by rw [hg]; exact Nat.ne_of_gt (blk_lt (g := gb225) (o := .cells #[.bool a0_0, .slice A0_1 l0_1.length c0_1, .slice (some ad227) l0_2.length c0_2] 25 (0, 0)) (by (with_reducible repeat (first | refine blk_drewN ?_ _ | refine blk_drew ?_ | refine blk_alloc ?_ _)); exact BK225.out)) : gb228 ≠ gb225)); clear BK225; clear HB; have BK225 := n0_; have HB := n1_; have BK228 := n2_; have GW228 := n3_; have GE228 := n4_; have NB225_228 := n5_; have NB228_225 := n6_; clear n0_ n1_ n2_ n3_ n4_ n5_ n6_; clear hb hbox hg; have hnb30 := NB228_225.out; have hnc30 := NB225_228.out; have hcz31_0 : w29.cell? ⟨gb228, 0, none⟩ = some (.int .i64 0) := (blk_cell BK228.out 0).trans rfl; have hcz31_1 : w29.cell? ⟨gb228, 1, none⟩ = some (.int .i64 0) := (blk_cell BK228.out 1).trans rfl; have hcz31_2 : w29.cell? ⟨gb228, 2, none⟩ = some (.int .i64 0) := (blk_cell BK228.out 2).trans rfl; have hfz31_0 := blk_frozen BK228.out 0; have hfz31_1 := blk_frozen BK228.out 1; have hfz31_2 := blk_frozen BK228.out 2; have hcz32_0 : w29.cell? ⟨gb225, 0, none⟩ = some (.bool a0_0) := (blk_cell BK225.out 0).trans rfl; have hcz32_1 : w29.cell? ⟨gb225, 1, none⟩ = some (.slice A0_1 l0_1.length c0_1) := (blk_cell BK225.out 1).trans rfl; have hcz32_2 : w29.cell? ⟨gb225, 2, none⟩ = some (.slice (some ad227) l0_2.length c0_2) := (blk_cell BK225.out 2).trans rfl; have hfz32_0 := blk_frozen BK225.out 0; have hfz32_1 := blk_frozen BK225.out 1; have hfz32_2 := blk_frozen BK225.out 2) | (go_at_call 106; (with_reducible refine (spec_hasInt.calls k1 _ _ l0_1 ((rd_T38 l0_2 x8_1).f0) true _ ?side1 ?side2 A11.out).mono ?_); (case side1 => exact Kd.C_below HR0_1.out (by repeat (first | (with_reducible first | exact HB.out | apply below_alloc | apply pw_below_drewN | apply below_drew1 | refine below_set ?_ GE225.out | refine below_set ?_ GE228.out) | exact HB.out))); (case side2 => exact HC0_1.out); rintro e w' ⟨rfl, ⟨nd, rfl⟩⟩) | (go_at_call 106; (with_reducible refine (spec_hasInt.calls k1 _ _ l0_1 ((rd_T38 l0_2 x8_1).f1) false _ ?side1 ?side2 A13.out).mono ?_); (case side1 => exact Kd.C_below HR0_1.out (by repeat (first | (with_reducible first | exact HB.out | apply below_alloc | apply pw_below_drewN | apply below_drew1 | refine below_set ?_ GE225.out | refine below_set ?_ GE228.out) | exact HB.out))); (case side2 => exact HC0_1.out); rintro e w' ⟨rfl, ⟨nd, rfl⟩⟩))
         go_ret
         exact ⟨by first | rfl | (simp [errW_none, errW_some] <;> rfl) | (simp [*, errW_none, errW_some] <;> rfl), by repeat (first | (with_reducible first | exact HB.out | apply below_alloc | apply pw_below_drewN | apply below_drew1 | refine below_set ?_ GE225.out | refine below_set ?_ GE228.out) | exact HB.out)⟩
       ·replace c12 := Bool.eq_false_iff.mpr c12
        subst c12
        have H1 : (some false) = some r := by rw [if_neg (show ¬ (false = true) by decide)] at H; exact H
        clear H
        have H := H1
        clear H1
        obtain rfl := Option.some.inj H
        have p227 : 0 ≤ (x8_1 : Int) := of_decide_eq_true (by first | (with_reducible assumption) | assumption)
        have q227 : x8_1 < (l0_2.length : Int) := of_decide_eq_true (by first | (with_reducible assumption) | assumption)
        obtain ⟨ad227, e227, hx227_0, hx227_1, hx227_2⟩ := at_T38 HR0_2.out x8_1 p227 q227
        cases e227
        replace hx227_0 := (HB.out.cell (World.block_lt_of_cell? w _ hx227_0)).trans hx227_0
        replace hx227_1 := (HB.out.cell (World.block_lt_of_cell? w _ hx227_1)).trans hx227_1
        replace hx227_2 := (HB.out.cell (World.block_lt_of_cell? w _ hx227_2)).trans hx227_2
        replace p227 := eq_true p227
        replace q227 := eq_true q227
        go_wp2_with (first | ((with_reducible refine gate_dst (N := 4) rfl ?_); refine box_event ?hg (N := 4) ?hd (cs := #[.int .i64 0, .int .i64 0, .int .i64 0]) (t := 38) ?hr ?_; (case hd => rfl); (case hg => rfl); (case hr => first | (go_simp; done) | (go_simp; rfl)); intro gb228 hg w33 hbox hb; have n0_ := Aside0.mk (blk_below (g := gb225) (o := .cells #[.bool a0_0, .slice A0_1 l0_1.length c0_1, .slice (some ad227) l0_2.length c0_2] 25 (0, 0)) (by (with_reducible repeat (first | refine blk_drewN ?_ _ | refine blk_drew ?_ | refine blk_alloc ?_ _)); exact BK225.out) hb); have n1_ := Aside0.mk (below_step (by repeat (first | (with_reducible first | exact HB.out | apply below_alloc | apply pw_below_drewN | apply below_drew1 | refine below_set ?_ GE225.out) | exact HB.out)) hb); have n2_ := Aside0.mk (hbox); have n3_ := Aside0.mk ((by rw [hg]; exact (below_size (by repeat (first | (with_reducible first | exact HB.out | apply below_alloc | apply pw_below_drewN | apply below_drew1 | refine below_set ?_ GE225.out) | exact HB.out))) : w.heap.size ≤ gb228)); have n4_ := Aside0.mk ((by rw [hg]; exact (below_size (by repeat (first | (with_reducible first | exact HB.out | apply below_alloc | apply pw_below_drewN | apply below_drew1 | refine below_set ?_ GE225.out) | exact HB.out))) : w.heap.size ≤ gb228)); have n5_ := Aside0.mk ((by rw [hg]; exact Nat.ne_of_lt (blk_lt (g := gb225) (o := .cells #[.bool a0_0, .slice A0_1 l0_1.length c0_1, .slice (some ad227) l0_2.length c0_2] 25 (0, 0)) (by (with_reducible repeat (first | refine blk_drewN ?_ _ | refine blk_drew ?_ | refine blk_alloc ?_ _)); exact BK225.out)) : gb225 ≠ gb228)); have n6_ := Aside0.mk ((by rw [hg]; exact Nat.ne_of_gt (blk_lt (g := gb225) (o := .cells #[.bool a0_0, .slice A0_1 l0_1.length c0_1, .slice (some ad227) l0_2.length c0_2] 25 (0, 0)) (by (with_reducible repeat (first | refine blk_drewN ?_ _ | refine blk_drew ?_ | refine blk_alloc ?_ _)); exact BK225.out)) : gb228 ≠ gb225)); clear BK225; clear HB; have BK225 := n0_; have HB := n1_; have BK228 := n2_; have GW228 := n3_; have GE228 := n4_; have NB225_228 := n5_; have NB228_225 := n6_; clear n0_ n1_ n2_ n3_ n4_ n5_ n6_; clear hb hbox hg; have hnb34 := NB228_225.out; have hnc34 := NB225_228.out; have hcz35_0 : w33.cell? ⟨gb228, 0, none⟩ = some (.int .i64 0) := (blk_cell BK228.out 0).trans rfl; have hcz35_1 : w33.cell? ⟨gb228, 1, none⟩ = some (.int .i64 0) := (blk_cell BK228.out 1).trans rfl; have hcz35_2 : w33.cell? ⟨gb228, 2, none⟩ = some (.int .i64 0) := (blk_cell BK228.out 2).trans rfl; have hfz35_0 := blk_frozen BK228.out 0; have hfz35_1 := blk_frozen BK228.out 1; have hfz35_2 := blk_frozen BK228.out 2; have hcz36_0 : w33.cell? ⟨gb225, 0, none⟩ = some (.bool a0_0) := (blk_cell BK225.out 0).trans rfl; have hcz36_1 : w33.cell? ⟨gb225, 1, none⟩ = some (.slice A0_1 l0_1.length c0_1) := (blk_cell BK225.out 1).trans rfl; have hcz36_2 : w33.cell? ⟨gb225, 2, none⟩ = some (.slice (some ad227) l0_2.length c0_2) := (blk_cell BK225.out 2).trans rfl; have hfz36_0 := blk_frozen BK225.out 0; have hfz36_1 := blk_frozen BK225.out 1; have hfz36_2 := blk_frozen BK225.out 2) | (go_at_call 106; (with_reducible refine (spec_hasInt.calls k1 _ _ l0_1 ((rd_T38 l0_2 x8_1).f0) false _ ?side1 ?side2 A11.out).mono ?_); (case side1 => exact Kd.C_below HR0_1.out (by repeat (first | (with_reducible first | exact HB.out | apply below_alloc | apply pw_below_drewN | apply below_drew1 | refine below_set ?_ GE225.out | refine below_set ?_ GE228.out) | exact HB.out))); (case side2 => exact HC0_1.out); rintro e w' ⟨rfl, ⟨nd, rfl⟩⟩))
        go_ret
        exact ⟨by first | rfl | (simp [errW_none, errW_some] <;> rfl) | (simp [*, errW_none, errW_some] <;> rfl), by repeat (first | (with_reducible first | exact HB.out | apply below_alloc | apply pw_below_drewN | apply below_drew1 | refine below_set ?_ GE225.out | refine below_set ?_ GE228.out) | exact HB.out)⟩
     ·rw [if_neg c6] at H
      exact absurd H (by simp)
    ·rw [if_neg c5] at H
     exact absurd H (by simp)
   ·rw [if_neg c4] at H
    have c4b0 : decide (x8_1 < (l0_2.length : Int)) = false := decide_eq_false c4
    clear c4
    replace H := Option.bind_eq_some_iff.mp H
    obtain ⟨t226, A370, H⟩ := H
    replace H : (some (!t226)) = some r := H
    have A37 := Aside0.mk A370
    clear A370
    obtain rfl := Option.some.inj H
    have hcz38_0 : wr.cell? ⟨gb225, 0, none⟩ = some (.bool a0_0) := (blk_cell BK225.out 0).trans rfl
    have hcz38_1 : wr.cell? ⟨gb225, 1, none⟩ = some (.slice A0_1 l0_1.length c0_1) := (blk_cell BK225.out 1).trans rfl
    have hcz38_2 : wr.cell? ⟨gb225, 2, none⟩ = some (.slice A0_2 l0_2.length c0_2) := (blk_cell BK225.out 2).trans rfl
    have hfz38_0 := blk_frozen BK225.out 0
    have hfz38_1 := blk_frozen BK225.out 1
    have hfz38_2 := blk_frozen BK225.out 2
    go_wp2_with (first | ((with_reducible refine gate_callee (f := 107) rfl ?_); refine goesL_ (some 46) rfl rfl Tryz.func107 (by kernel_rfl) rfl #[.slice A0_1 l0_1.length c0_1] rfl (by (try simp only [List.map_toArray, List.map_cons, List.map_nil]); first | done | rfl | (simp only [List.length_drop, List.length_take]; rfl)) ?_; (with_reducible refine (spec_twice.calls k1 _ _ l0_1 t226 _ ?side1 ?side2 A37.out).mono ?_); (case side1 => repeat (first | exact (Kd.C_below HR0_1.out HB.out) | (with_reducible refine Kd.C_alloc ?_ _) | (with_reducible refine Kd.C_drewN ?_ _) | (with_reducible refine Kd.C_drew ?_))); (case side2 => exact HC0_1.out); rintro e w' ⟨rfl, ⟨nd, rfl⟩⟩; refine ⟨_, rfl, ?_⟩))
    go_ret
    exact ⟨by first | rfl | (simp [errW_none, errW_some] <;> rfl) | (simp [*, errW_none, errW_some] <;> rfl), by repeat (first | (with_reducible first | exact HB.out | apply below_alloc | apply pw_below_drewN | apply below_drew1 | refine below_set ?_ GE225.out) | exact HB.out)⟩

-- GIVEN: function 108 (spec_sortInts)

/-! ### spec_Nodes: function 58 -/
def spec_Nodes.f (a0_0 : Bool) (l0_1 : List Int) (l0_2 : List (S38)) : Option (List Int) := (spec_sortInts.f l0_1).bind fun t232 => (some t232)
set_option maxHeartbeats 8000000 in
set_option maxRecDepth 100000 in
theorem spec_Nodes.calls (a0_0 : Bool) (A0_1 : Option Addr) (c0_1 : Nat) (l0_1 : List Int) (A0_2 : Option Addr) (c0_2 : Nat) (l0_2 : List (S38)) (r : List Int) (w : World) (hr0_1 : Kd.C (Kd.int .i64) w A0_1 l0_1.length l0_1) (hc0_1 : l0_1.length ≤ c0_1) (hr0_2 : Kd.C k38 w A0_2 l0_2.length l0_2) (hc0_2 : l0_2.length ≤ c0_2) (h : spec_Nodes.f a0_0 l0_1 l0_2 = some r) :
  Calls Tryz.prog 58 #[.agg #[.bool a0_0, .slice A0_1 l0_1.length c0_1, .slice A0_2 l0_2.length c0_2]] w fun e w' => ∃ v0_ : Value, e = .returned (v0_) ∧ Kd.R (Kd.int .i64) 3 w' w.heap.size (fun _ => True) v0_ r ∧ Below w.heap.size w w' := by
 have hu25 := Tryz.underlying25
 have HR0_1 := Aside0.mk hr0_1
 have HC0_1 := Aside0.mk hc0_1
 clear hr0_1 hc0_1
 have HR0_2 := Aside0.mk hr0_2
 have HC0_2 := Aside0.mk hc0_2
 clear hr0_2 hc0_2
 have HB := Aside0.mk (Below.refl w.heap.size w)
 have H : ((spec_sortInts.f l0_1).bind fun t232 => (some t232)) = some r := h
 clear h
 replace H := Option.bind_eq_some_iff.mp H
 obtain ⟨t232, A20, H⟩ := H
 replace H : (some t232) = some r := H
 have A2 := Aside0.mk A20
 clear A20
 obtain rfl := Option.some.inj H
 go_enter Tryz.func58, Tryz.ntmps58
 go_wp2_with (first | ((with_reducible refine gate_dst (N := 1) rfl ?_); refine box_event ?hg (N := 1) ?hd (cs := #[.bool a0_0, .slice A0_1 l0_1.length c0_1, .slice A0_2 l0_2.length c0_2]) (t := 25) ?hr ?_; (case hd => rfl); (case hg => rfl); (case hr => first | (go_simp; done) | (go_simp; rfl)); intro gb231 hg w3 hbox hb; have n0_ := Aside0.mk (below_step (by repeat (first | (with_reducible first | exact HB.out | apply below_alloc | apply pw_below_drewN | apply below_drew1) | exact HB.out)) hb); have n1_ := Aside0.mk (hbox); have n2_ := Aside0.mk ((by rw [hg]; exact (below_size (by repeat (first | (with_reducible first | exact HB.out | apply below_alloc | apply pw_below_drewN | apply below_drew1) | exact HB.out))) : w.heap.size ≤ gb231)); have n3_ := Aside0.mk ((by rw [hg]; exact (below_size (by repeat (first | (with_reducible first | exact HB.out | apply below_alloc | apply pw_below_drewN | apply below_drew1) | exact HB.out))) : w.heap.size ≤ gb231)); clear HB; have HB := n0_; have BK231 := n1_; have GW231 := n2_; have GE231 := n3_; clear n0_ n1_ n2_ n3_; clear hb hbox hg; have hcz4_0 : w3.cell? ⟨gb231, 0, none⟩ = some (.bool a0_0) := (blk_cell BK231.out 0).trans rfl; have hcz4_1 : w3.cell? ⟨gb231, 1, none⟩ = some (.slice A0_1 l0_1.length c0_1) := (blk_cell BK231.out 1).trans rfl; have hcz4_2 : w3.cell? ⟨gb231, 2, none⟩ = some (.slice A0_2 l0_2.length c0_2) := (blk_cell BK231.out 2).trans rfl; have hfz4_0 := blk_frozen BK231.out 0; have hfz4_1 := blk_frozen BK231.out 1; have hfz4_2 := blk_frozen BK231.out 2) | ((with_reducible refine gate_callee (f := 108) rfl ?_); refine goesL_ (some 5) rfl rfl Tryz.func108 (by kernel_rfl) rfl #[.slice A0_1 l0_1.length c0_1] rfl (by (try simp only [List.map_toArray, List.map_cons, List.map_nil]); first | done | rfl | (simp only [List.length_drop, List.length_take]; rfl)) ?_; (with_reducible refine (spec_sortInts.calls _ _ l0_1 t232 _ ?side1 ?side2 A2.out).mono ?_); (case side1 => repeat (first | exact (Kd.C_below HR0_1.out HB.out) | (with_reducible refine Kd.C_alloc ?_ _) | (with_reducible refine Kd.C_drewN ?_ _) | (with_reducible refine Kd.C_drew ?_))); (case side2 => exact HC0_1.out); rintro e w5 ⟨v233, rfl, ho0, hb⟩; refine ⟨_, rfl, ?_⟩; have n0_ := Aside0.mk (Kd.R_lower ho0 (below_size (by repeat (first | (with_reducible first | exact HB.out | apply below_alloc | apply pw_below_drewN | apply below_drew1 | refine below_set ?_ GE231.out) | exact HB.out)))); have n1_ := Aside0.mk (blk_below (g := gb231) (o := .cells #[.bool a0_0, .slice A0_1 l0_1.length c0_1, .slice A0_2 l0_2.length c0_2] 25 (0, 0)) (by (with_reducible repeat (first | refine blk_drewN ?_ _ | refine blk_drew ?_ | refine blk_alloc ?_ _)); exact BK231.out) hb); have n2_ := Aside0.mk (below_step (by repeat (first | (with_reducible first | exact HB.out | apply below_alloc | apply pw_below_drewN | apply below_drew1 | refine below_set ?_ GE231.out) | exact HB.out)) hb); clear BK231; clear HB; have HO234 := n0_; have BK231 := n1_; have HB := n2_; clear n0_ n1_ n2_; (try clear hb); (try clear hb2); (try clear hk); (try clear hi); (try clear ho0)))
 go_ret
 exact ⟨_, by first | rfl | (simp [errW_none, errW_some] <;> rfl) | (simp [*, errW_none, errW_some] <;> rfl), by (with_reducible repeat (first | apply Kd.R_alloc | apply Kd.R_drewN | apply Kd.R_drew)); exact HO234.out, by repeat (first | (with_reducible first | exact HB.out | apply below_alloc | apply pw_below_drewN | apply below_drew1 | refine below_set ?_ GE231.out) | exact HB.out)⟩

end Go.Proofs.YtfkmpnpliadohaaGreat.PL
