/- Printed by a program (the kit's printer, run over contracts that were proved by hand). -/
import Derived.Test.YtgiebjihceggjaaT0
namespace Go.Proofs.Ytgiebjihceggjaa.PFnGenTree
open Go.RowKit Go.Proofs.YtgiebjihceggjaaW.PrintWords Go.Proofs.YtgiebjihceggjaaW.PrintLast Go.Proofs.YtgiebjihceggjaaW.PrintMore
attribute [local go_sem] max2_int min2_int max_two min_two max_three min_three max_four min_four   -- for this text's walks alone
set_option linter.unusedVariables false
set_option linter.unusedSimpArgs false

-- GIVEN: function 17 (slices_Clone_int_int)

/-! ### cmp_isNaN_int: function 58 -/
def cmp_isNaN_int.f (a0 : Int) : Option (Bool) := some (a0 != a0)
set_option maxHeartbeats 8000000 in
set_option maxRecDepth 100000 in
theorem cmp_isNaN_int.calls (a0 : Int) (r : Bool) (w : World) (h : cmp_isNaN_int.f a0 = some r) :
    Calls Try.prog 58 #[.int .i64 a0] w fun e w' => e = .returned (.bool r) ∧ Drawn0 w w' := by
  have H : (some (a0 != a0)) = some r := h
  clear h
  obtain rfl := Option.some.inj H
  go_enter Try.func58, Try.ntmps58
  go_wp2
  go_ret
  exact ⟨by first | rfl | (simp; done) | (simp [*]; done), by repeat (first | exact Drawn0.refl _ | apply Drawn0.step)⟩

-- NOT PRINTED: function 39 (cmp_Less_int)

-- NOT PRINTED: function 33 (slices_insertionSortOrdered_int)

-- NOT PRINTED: function 53 (slices_siftDownOrdered_int)

-- NOT PRINTED: function 34 (slices_heapSortOrdered_int)

-- NOT PRINTED: function 42 (bits_Len32)

-- NOT PRINTED: function 43 (bits_Len64)

-- NOT PRINTED: function 29 (bits_Len)

-- NOT PRINTED: function 54 (slices_nextPowerOfTwo)

-- NOT PRINTED: function 55 (slices_xorshift_Next)

-- NOT PRINTED: function 35 (slices_breakPatternsOrdered_int)

-- NOT PRINTED: function 62 (slices_order2Ordered_int)

-- NOT PRINTED: function 57 (slices_medianOrdered_int)

-- NOT PRINTED: function 56 (slices_medianAdjacentOrdered_int)

-- NOT PRINTED: function 36 (slices_choosePivotOrdered_int)

-- NOT PRINTED: function 37 (slices_reverseRangeOrdered_int)

-- NOT PRINTED: function 38 (slices_partialInsertionSortOrdered_int)

-- NOT PRINTED: function 40 (slices_partitionEqualOrdered_int)

-- NOT PRINTED: function 41 (slices_partitionOrdered_int)

-- NOT PRINTED: function 28 (slices_pdqsortOrdered_int)

-- NOT PRINTED: function 18 (slices_Sort_int_int)

-- NOT PRINTED: function 19 (slices_Compact_int_int)

-- NOT PRINTED: function 8 (impl_twice)

-- NOT PRINTED: function 30 (errors_New)

-- NOT PRINTED: function 20 (gen_check)

-- NOT PRINTED: function 9 (gen_Tree)

/-! ### impl_idsOf: function 10 -/
def impl_idsOf.l0 : Nat → List Int → List Int → Int → Int → Option (List Int)
  | 0, _, _, _, _ => none
  | k + 1, x3, x6, x7, x8 => if x8 < x7 then (if 0 ≤ x8 then (if x8 < (x6.length : Int) then (if x3.length < 17592186044416 then (impl_idsOf.l0 k (x3 ++ [rd x6 x8]) x6 x7 (wrap64 (x8 + 1))) else (none)) else (none)) else (none)) else (some x3)
def impl_idsOf.f (k : Nat) (l0 : List Int) : Option (List Int) := impl_idsOf.l0 k ([] : List Int) l0 (l0.length : Int) 0
theorem impl_idsOf.mono_l : ∀ k, (∀ y0 y1 y2 y3, LeO (impl_idsOf.l0 k y0 y1 y2 y3) (impl_idsOf.l0 (k + 1) y0 y1 y2 y3))
  | 0 => fun _ _ _ _ r h => by simp [impl_idsOf.l0] at h
  | k + 1 => by
    have ih0 := impl_idsOf.mono_l k
    · intro y0 y1 y2 y3
      unfold impl_idsOf.l0
      repeat' first
      | (with_reducible exact ih0 _ _ _ _)
      | (with_reducible exact LeO.refl _)
      | (with_reducible exact LeO.none _)
      | (with_reducible refine LeO.ite ?_ ?_)
      | (with_reducible refine LeO.bind ?_ (fun _ => ?_))
      | exact ih0 _ _ _ _
      | exact LeO.none _
      | refine LeO.ite ?_ ?_
      | refine LeO.bind ?_ (fun _ => ?_)
theorem impl_idsOf.mono : ∀ a0 k, LeO (impl_idsOf.f k a0) (impl_idsOf.f (k + 1) a0) := by
  intro a0 k
  have ih0 := impl_idsOf.mono_l k
  unfold impl_idsOf.f
  repeat' first
      | (with_reducible exact ih0 _ _ _ _)
      | (with_reducible exact LeO.refl _)
      | (with_reducible exact LeO.none _)
      | (with_reducible refine LeO.ite ?_ ?_)
      | (with_reducible refine LeO.bind ?_ (fun _ => ?_))
      | exact ih0 _ _ _ _
      | exact LeO.none _
      | refine LeO.ite ?_ ?_
      | refine LeO.bind ?_ (fun _ => ?_)
set_option maxHeartbeats 8000000 in
set_option maxRecDepth 100000 in
theorem impl_idsOf.calls (k : Nat) (A0 : Option Addr) (c0 : Nat) (l0 : List Int) (r : List Int) (w : World) (hr0 : Kd.C (Kd.int .i64) w A0 l0.length l0) (hc0 : l0.length ≤ c0) (h : impl_idsOf.f k l0 = some r) :
    Calls Try.prog 10 #[.slice A0 l0.length c0] w fun e w' => ∃ v0_ : Value, e = .returned (v0_) ∧ Kd.R (Kd.int .i64) 2 w' w.heap.size (fun _ => True) v0_ r ∧ Below w.heap.size w w' := by
  have HR0 := Aside0.mk hr0
  have HC0 := Aside0.mk hc0
  clear hr0 hc0
  have HB := Aside0.mk (Below.refl w.heap.size w)
  have H : (impl_idsOf.l0 k ([] : List Int) l0 (l0.length : Int) 0) = some r := h
  clear h
  have H' := Aside0.mk H
  clear H
  go_enter Try.func10, Try.ntmps10
  go_wp2
  go_loopg [3, 8] k (fun kq v3 v8 w' => ∃ (x3_1 : List Int) (x8_1 : Int), v8 = .int .i64 x8_1 ∧ Aside0 (impl_idsOf.l0 kq x3_1 l0 (l0.length : Int) x8_1 = some r) ∧ Aside0 (kq ≤ k) ∧ Aside0 (Kd.R (Kd.int .i64) 2 w' w.heap.size (fun _ => True) v3 x3_1) ∧ Aside0 (Below w.heap.size w w'))
  case atStart => exact ⟨(([] : List Int)), (0), (by first | rfl | (simp; done) | (simp [*]; done)), H', ⟨Nat.le_refl _⟩, ⟨by first | exact Kd.R_nil _ _ _ _ _ | exact Kd.N_nil _ _ _ _ _ | exact Kd.V_nil _ _ _ _ _ | exact Kd.Q_nil _ _ _ _ _ | exact Kd.S_nil _ _ _ _ _⟩, ⟨by repeat (first | (with_reducible first | exact HB.out | apply below_alloc | apply pw_below_drewN | apply below_drew1) | exact HB.out)⟩⟩
  case round =>
    clear H'
    try clear c1
    obtain ⟨x3_1, x8_1, rfl, HA, HK1, HO_3, HB⟩ := hrel
    cases gk with
    | zero => exact absurd HA.out (by simp [impl_idsOf.l0])
    | succ k1 =>
      have H := HA.out
      clear HA
      simp only [impl_idsOf.l0] at H
      by_cases c2 : x8_1 < (l0.length : Int)
      · rw [if_pos c2] at H
        have c2b0 : decide (x8_1 < (l0.length : Int)) = true := decide_eq_true c2
        clear c2
        by_cases c3 : 0 ≤ x8_1
        · rw [if_pos c3] at H
          have c3b0 : decide (0 ≤ x8_1) = true := decide_eq_true c3
          clear c3
          by_cases c4 : x8_1 < (l0.length : Int)
          · rw [if_pos c4] at H
            have c4b0 : decide (x8_1 < (l0.length : Int)) = true := decide_eq_true c4
            clear c4
            by_cases c5 : x3_1.length < 17592186044416
            · rw [if_pos c5] at H
              have LMc5 := Aside0.mk c5
              clear c5
              obtain ⟨y120, hy120⟩ : ∃ y_ : List Int, y_ = (x3_1 ++ [rd l0 x8_1]) := ⟨_, rfl⟩
              replace H : (impl_idsOf.l0 k1 y120 l0 (l0.length : Int) (wrap64 (x8_1 + 1))) = some r := by first | (rw [hy120]; with_reducible exact H) | (have H2_ := (Option.bind_some _ _).symm.trans H; rw [hy120]; with_reducible exact H2_) | (have H2_ := (Option.bind_some _ _).symm.trans H; with_reducible exact H2_) | with_reducible exact H | (rw [hy120]; exact H) | exact H
              have Ny120 := Aside0.mk hy120
              clear hy120
              have H' := Aside0.mk H
              clear H
              have p119 : 0 ≤ (x8_1 : Int) := of_decide_eq_true (by first | (with_reducible assumption) | assumption)
              have q119 : x8_1 < (l0.length : Int) := of_decide_eq_true (by first | (with_reducible assumption) | assumption)
              obtain ⟨ad119, e119, hx119_0⟩ := Kd.at_int HR0.out x8_1 p119 q119
              cases e119
              replace hx119_0 := (HB.out.cell (World.block_lt_of_cell? w _ hx119_0)).trans hx119_0
              replace p119 := eq_true p119
              replace q119 := eq_true q119
              go_wp2_with (first | ((with_reducible refine gate_builtin (b := .append) (xs := #[.tmp 12, .tmp 14]) rfl ?_); at_builtin; refine Kd.R_append (Kd.int .i64) (w0 := w) w.heap.size rfl (.tmp 12) (.tmp 14) 42 2 (.int .i64 0) 8 rfl Try.underlying42 info2 rfl (by decide) (by omega) u3 x3_1 (rd l0 x8_1) [.int .i64 (rd l0 x8_1)] (fun _ => True) (fun _ => False) rfl rfl ?aP (fun _ hk => hk.elim) ?aF ?aO ?aB ?aS ?aL ?_; (case aP => exact rfl); (case aB => exact (by repeat (first | (with_reducible first | exact HB.out | apply below_alloc | apply pw_below_drewN | apply below_drew1) | exact HB.out))); (case aF => exact (fun _ _ => trivial)); (case aO => exact (by (with_reducible repeat (first | apply Kd.R_alloc | apply Kd.R_drewN | apply Kd.R_drew)); exact HO_3.out)); (case aS => exact (below_size (by repeat (first | (with_reducible first | exact HB.out | apply below_alloc | apply pw_below_drewN | apply below_drew1) | exact HB.out)))); (case aL => have := LMc5.out; omega); intro v121 w6 ho hb hg hat; rw [← Ny120.out] at ho; have n0_ := Aside0.mk (hb); have n1_ := Aside0.mk (ho); clear HB; clear HO_3; have HB := n0_; have HO122 := n1_; clear n0_ n1_; clear ho hb hg hat))
              go_roundg k1
              case measure => have := HK1.out; omega
              case rel => exact ⟨(y120), (wrap64 (x8_1 + 1)), (by first | rfl | (simp; done) | (simp [*]; done)), H', ⟨by have := HK1.out; omega⟩, ⟨by (with_reducible repeat (first | apply Kd.R_alloc | apply Kd.R_drewN | apply Kd.R_drew)); exact HO122.out⟩, ⟨by repeat (first | (with_reducible first | exact HB.out | apply below_alloc | apply pw_below_drewN | apply below_drew1) | exact HB.out)⟩⟩
            · rw [if_neg c5] at H
              exact absurd H (by simp)
          · rw [if_neg c4] at H
            exact absurd H (by simp)
        · rw [if_neg c3] at H
          exact absurd H (by simp)
      · rw [if_neg c2] at H
        have c2b0 : decide (x8_1 < (l0.length : Int)) = false := decide_eq_false c2
        clear c2
        obtain rfl := Option.some.inj H
        go_wp2
        go_ret
        exact ⟨_, by first | rfl | (simp [errW_none, errW_some] <;> rfl) | (simp [*, errW_none, errW_some] <;> rfl), by (with_reducible repeat (first | apply Kd.R_alloc | apply Kd.R_drewN | apply Kd.R_drew)); exact HO_3.out, by repeat (first | (with_reducible first | exact HB.out | apply below_alloc | apply pw_below_drewN | apply below_drew1) | exact HB.out)⟩

-- NOT PRINTED: function 22 (impl_number)

-- NOT PRINTED: function 21 (impl_numbers)

/-! ### impl_ordered: function 23 -/
def impl_ordered.f (a0 : Bool) (a1_0 : Int) (a1_1 : Int) (a1_2 : Int) : Option (Int × Int × Int) := if a0 = true then (some (a1_0, a1_1, a1_2)) else (if a1_0 > a1_1 then (some (a1_1, a1_0, a1_2)) else (some (a1_0, a1_1, a1_2)))
set_option maxHeartbeats 8000000 in
set_option maxRecDepth 100000 in
theorem impl_ordered.calls (a0 : Bool) (a1_0 : Int) (a1_1 : Int) (a1_2 : Int) (r1 : Int) (r2 : Int) (r3 : Int) (w : World) (h : impl_ordered.f a0 a1_0 a1_1 a1_2 = some (r1, r2, r3)) :
    Calls Try.prog 23 #[.bool a0, .agg #[.int .i64 a1_0, .int .i64 a1_1, .int .i64 a1_2]] w fun e w' => e = .returned (.agg #[.int .i64 r1, .int .i64 r2, .int .i64 r3]) ∧ Below w.heap.size w w' := by
  have hu30 := Try.underlying30
  have HB := Aside0.mk (Below.refl w.heap.size w)
  have H : (if a0 = true then (some (a1_0, a1_1, a1_2)) else (if a1_0 > a1_1 then (some (a1_1, a1_0, a1_2)) else (some (a1_0, a1_1, a1_2)))) = some (r1, r2, r3) := h
  clear h
  by_cases c3 : a0 = true
  · subst c3
    have H1 : (some (a1_0, a1_1, a1_2)) = some (r1, r2, r3) := by rw [if_pos rfl] at H; exact H
    clear H
    have H := H1
    clear H1
    simp only [Option.some.injEq, Prod.mk.injEq] at H
    obtain ⟨rfl, rfl, rfl⟩ := H
    go_enter Try.func23, Try.ntmps23
    go_wp2_with (first | ((with_reducible refine gate_dst (N := 3) rfl ?_); refine box_event ?hg (N := 3) ?hd (cs := #[.int .i64 a1_0, .int .i64 a1_1, .int .i64 a1_2]) (t := 30) ?hr ?_; (case hd => rfl); (case hg => rfl); (case hr => first | (go_simp; done) | (go_simp; rfl)); intro gb123 hg w4 hbox hb; have n0_ := Aside0.mk (below_step (by repeat (first | (with_reducible first | exact HB.out | apply below_alloc | apply pw_below_drewN | apply below_drew1) | exact HB.out)) hb); have n1_ := Aside0.mk (hbox); have n2_ := Aside0.mk ((by rw [hg]; exact (below_size (by repeat (first | (with_reducible first | exact HB.out | apply below_alloc | apply pw_below_drewN | apply below_drew1) | exact HB.out))) : w.heap.size ≤ gb123)); have n3_ := Aside0.mk ((by rw [hg]; exact (below_size (by repeat (first | (with_reducible first | exact HB.out | apply below_alloc | apply pw_below_drewN | apply below_drew1) | exact HB.out))) : w.heap.size ≤ gb123)); clear HB; have HB := n0_; have BK123 := n1_; have GW123 := n2_; have GE123 := n3_; clear n0_ n1_ n2_ n3_; clear hb hbox hg) | ((with_reducible refine gate_dst (N := 4) rfl ?_); refine box_event ?hg (N := 4) ?hd (cs := #[.int .i64 0, .int .i64 0, .int .i64 0]) (t := 30) ?hr ?_; (case hd => rfl); (case hg => rfl); (case hr => first | (go_simp; done) | (go_simp; rfl)); intro gb124 hg w5 hbox hb; have n0_ := Aside0.mk (blk_below (g := gb123) (o := .cells #[.int .i64 a1_0, .int .i64 a1_1, .int .i64 a1_2] 30 (0, 0)) (by (with_reducible repeat (first | refine blk_drewN ?_ _ | refine blk_drew ?_ | refine blk_alloc ?_ _)); exact BK123.out) hb); have n1_ := Aside0.mk (below_step (by repeat (first | (with_reducible first | exact HB.out | apply below_alloc | apply pw_below_drewN | apply below_drew1 | refine below_set ?_ GE123.out) | exact HB.out)) hb); have n2_ := Aside0.mk (hbox); have n3_ := Aside0.mk ((by rw [hg]; exact (below_size (by repeat (first | (with_reducible first | exact HB.out | apply below_alloc | apply pw_below_drewN | apply below_drew1 | refine below_set ?_ GE123.out) | exact HB.out))) : w.heap.size ≤ gb124)); have n4_ := Aside0.mk ((by rw [hg]; exact (below_size (by repeat (first | (with_reducible first | exact HB.out | apply below_alloc | apply pw_below_drewN | apply below_drew1 | refine below_set ?_ GE123.out) | exact HB.out))) : w.heap.size ≤ gb124)); have n5_ := Aside0.mk ((by rw [hg]; exact Nat.ne_of_lt (blk_lt (g := gb123) (o := .cells #[.int .i64 a1_0, .int .i64 a1_1, .int .i64 a1_2] 30 (0, 0)) (by (with_reducible repeat (first | refine blk_drewN ?_ _ | refine blk_drew ?_ | refine blk_alloc ?_ _)); exact BK123.out)) : gb123 ≠ gb124)); have n6_ := Aside0.mk ((by rw [hg]; exact Nat.ne_of_gt (blk_lt (g := gb123) (o := .cells #[.int .i64 a1_0, .int .i64 a1_1, .int .i64 a1_2] 30 (0, 0)) (by (with_reducible repeat (first | refine blk_drewN ?_ _ | refine blk_drew ?_ | refine blk_alloc ?_ _)); exact BK123.out)) : gb124 ≠ gb123)); clear BK123; clear HB; have BK123 := n0_; have HB := n1_; have BK124 := n2_; have GW124 := n3_; have GE124 := n4_; have NB123_124 := n5_; have NB124_123 := n6_; clear n0_ n1_ n2_ n3_ n4_ n5_ n6_; clear hb hbox hg; have hnb6 := NB123_124.out; have hnc6 := NB124_123.out; have hcz7_0 : w5.cell? ⟨gb123, 0, none⟩ = some (.int .i64 a1_0) := (blk_cell BK123.out 0).trans rfl; have hcz7_1 : w5.cell? ⟨gb123, 1, none⟩ = some (.int .i64 a1_1) := (blk_cell BK123.out 1).trans rfl; have hcz7_2 : w5.cell? ⟨gb123, 2, none⟩ = some (.int .i64 a1_2) := (blk_cell BK123.out 2).trans rfl; have hfz7_0 := blk_frozen BK123.out 0; have hfz7_1 := blk_frozen BK123.out 1; have hfz7_2 := blk_frozen BK123.out 2; have hcz8_0 : w5.cell? ⟨gb124, 0, none⟩ = some (.int .i64 0) := (blk_cell BK124.out 0).trans rfl; have hcz8_1 : w5.cell? ⟨gb124, 1, none⟩ = some (.int .i64 0) := (blk_cell BK124.out 1).trans rfl; have hcz8_2 : w5.cell? ⟨gb124, 2, none⟩ = some (.int .i64 0) := (blk_cell BK124.out 2).trans rfl; have hfz8_0 := blk_frozen BK124.out 0; have hfz8_1 := blk_frozen BK124.out 1; have hfz8_2 := blk_frozen BK124.out 2))
    refine bodyPost_ret (results_cell_row rfl _ _ gb124 30 #[.int .i64 a1_0, .int .i64 a1_1, .int .i64 a1_2] (0, 0) _ rfl (by (with_reducible repeat (first | refine blk_drewN ?_ _ | refine blk_drew ?_ | refine blk_alloc ?_ _)); refine blk_put (cs := #[.int .i64 a1_0, .int .i64 a1_1, .int .i64 0]) ?_ 2 _ rfl; (with_reducible repeat (first | refine blk_drewN ?_ _ | refine blk_drew ?_ | refine blk_alloc ?_ _)); refine blk_put (cs := #[.int .i64 a1_0, .int .i64 0, .int .i64 0]) ?_ 1 _ rfl; (with_reducible repeat (first | refine blk_drewN ?_ _ | refine blk_drew ?_ | refine blk_alloc ?_ _)); refine blk_put (cs := #[.int .i64 0, .int .i64 0, .int .i64 0]) ?_ 0 _ rfl; (with_reducible repeat (first | refine blk_drewN ?_ _ | refine blk_drew ?_ | refine blk_alloc ?_ _)); exact BK124.out) Try.underlying30 rfl (by kernel_rfl)) rfl ?_
    exact ⟨by first | rfl | (simp [errW_none, errW_some] <;> rfl) | (simp [*, errW_none, errW_some] <;> rfl), by repeat (first | (with_reducible first | exact HB.out | apply below_alloc | apply pw_below_drewN | apply below_drew1 | refine below_set ?_ GE123.out | refine below_set ?_ GE124.out) | exact HB.out)⟩
  · replace c3 := Bool.eq_false_iff.mpr c3
    subst c3
    have H1 : (if a1_0 > a1_1 then (some (a1_1, a1_0, a1_2)) else (some (a1_0, a1_1, a1_2))) = some (r1, r2, r3) := by rw [if_neg (show ¬ (false = true) by decide)] at H; exact H
    clear H
    have H := H1
    clear H1
    by_cases c9 : a1_0 > a1_1
    · rw [if_pos c9] at H
      have c9b0 : decide (a1_1 < a1_0) = true := decide_eq_true c9
      clear c9
      simp only [Option.some.injEq, Prod.mk.injEq] at H
      obtain ⟨rfl, rfl, rfl⟩ := H
      go_enter Try.func23, Try.ntmps23
      go_wp2_with (first | ((with_reducible refine gate_dst (N := 3) rfl ?_); refine box_event ?hg (N := 3) ?hd (cs := #[.int .i64 a1_0, .int .i64 a1_1, .int .i64 a1_2]) (t := 30) ?hr ?_; (case hd => rfl); (case hg => rfl); (case hr => first | (go_simp; done) | (go_simp; rfl)); intro gb123 hg w10 hbox hb; have n0_ := Aside0.mk (below_step (by repeat (first | (with_reducible first | exact HB.out | apply below_alloc | apply pw_below_drewN | apply below_drew1) | exact HB.out)) hb); have n1_ := Aside0.mk (hbox); have n2_ := Aside0.mk ((by rw [hg]; exact (below_size (by repeat (first | (with_reducible first | exact HB.out | apply below_alloc | apply pw_below_drewN | apply below_drew1) | exact HB.out))) : w.heap.size ≤ gb123)); have n3_ := Aside0.mk ((by rw [hg]; exact (below_size (by repeat (first | (with_reducible first | exact HB.out | apply below_alloc | apply pw_below_drewN | apply below_drew1) | exact HB.out))) : w.heap.size ≤ gb123)); clear HB; have HB := n0_; have BK123 := n1_; have GW123 := n2_; have GE123 := n3_; clear n0_ n1_ n2_ n3_; clear hb hbox hg) | ((with_reducible refine gate_dst (N := 4) rfl ?_); refine box_event ?hg (N := 4) ?hd (cs := #[.int .i64 0, .int .i64 0, .int .i64 0]) (t := 30) ?hr ?_; (case hd => rfl); (case hg => rfl); (case hr => first | (go_simp; done) | (go_simp; rfl)); intro gb124 hg w11 hbox hb; have n0_ := Aside0.mk (blk_below (g := gb123) (o := .cells #[.int .i64 a1_0, .int .i64 a1_1, .int .i64 a1_2] 30 (0, 0)) (by (with_reducible repeat (first | refine blk_drewN ?_ _ | refine blk_drew ?_ | refine blk_alloc ?_ _)); exact BK123.out) hb); have n1_ := Aside0.mk (below_step (by repeat (first | (with_reducible first | exact HB.out | apply below_alloc | apply pw_below_drewN | apply below_drew1 | refine below_set ?_ GE123.out) | exact HB.out)) hb); have n2_ := Aside0.mk (hbox); have n3_ := Aside0.mk ((by rw [hg]; exact (below_size (by repeat (first | (with_reducible first | exact HB.out | apply below_alloc | apply pw_below_drewN | apply below_drew1 | refine below_set ?_ GE123.out) | exact HB.out))) : w.heap.size ≤ gb124)); have n4_ := Aside0.mk ((by rw [hg]; exact (below_size (by repeat (first | (with_reducible first | exact HB.out | apply below_alloc | apply pw_below_drewN | apply below_drew1 | refine below_set ?_ GE123.out) | exact HB.out))) : w.heap.size ≤ gb124)); have n5_ := Aside0.mk ((by rw [hg]; exact Nat.ne_of_lt (blk_lt (g := gb123) (o := .cells #[.int .i64 a1_0, .int .i64 a1_1, .int .i64 a1_2] 30 (0, 0)) (by (with_reducible repeat (first | refine blk_drewN ?_ _ | refine blk_drew ?_ | refine blk_alloc ?_ _)); exact BK123.out)) : gb123 ≠ gb124)); have n6_ := Aside0.mk ((by rw [hg]; exact Nat.ne_of_gt (blk_lt (g := gb123) (o := .cells #[.int .i64 a1_0, .int .i64 a1_1, .int .i64 a1_2] 30 (0, 0)) (by (with_reducible repeat (first | refine blk_drewN ?_ _ | refine blk_drew ?_ | refine blk_alloc ?_ _)); exact BK123.out)) : gb124 ≠ gb123)); clear BK123; clear HB; have BK123 := n0_; have HB := n1_; have BK124 := n2_; have GW124 := n3_; have GE124 := n4_; have NB123_124 := n5_; have NB124_123 := n6_; clear n0_ n1_ n2_ n3_ n4_ n5_ n6_; clear hb hbox hg; have hnb12 := NB123_124.out; have hnc12 := NB124_123.out; have hcz13_0 : w11.cell? ⟨gb123, 0, none⟩ = some (.int .i64 a1_0) := (blk_cell BK123.out 0).trans rfl; have hcz13_1 : w11.cell? ⟨gb123, 1, none⟩ = some (.int .i64 a1_1) := (blk_cell BK123.out 1).trans rfl; have hcz13_2 : w11.cell? ⟨gb123, 2, none⟩ = some (.int .i64 a1_2) := (blk_cell BK123.out 2).trans rfl; have hfz13_0 := blk_frozen BK123.out 0; have hfz13_1 := blk_frozen BK123.out 1; have hfz13_2 := blk_frozen BK123.out 2; have hcz14_0 : w11.cell? ⟨gb124, 0, none⟩ = some (.int .i64 0) := (blk_cell BK124.out 0).trans rfl; have hcz14_1 : w11.cell? ⟨gb124, 1, none⟩ = some (.int .i64 0) := (blk_cell BK124.out 1).trans rfl; have hcz14_2 : w11.cell? ⟨gb124, 2, none⟩ = some (.int .i64 0) := (blk_cell BK124.out 2).trans rfl; have hfz14_0 := blk_frozen BK124.out 0; have hfz14_1 := blk_frozen BK124.out 1; have hfz14_2 := blk_frozen BK124.out 2))
      refine bodyPost_ret (results_cell_row rfl _ _ gb124 30 #[.int .i64 a1_1, .int .i64 a1_0, .int .i64 a1_2] (0, 0) _ rfl (by (with_reducible repeat (first | refine blk_drewN ?_ _ | refine blk_drew ?_ | refine blk_alloc ?_ _)); refine blk_put (cs := #[.int .i64 a1_1, .int .i64 a1_0, .int .i64 0]) ?_ 2 _ rfl; (with_reducible repeat (first | refine blk_drewN ?_ _ | refine blk_drew ?_ | refine blk_alloc ?_ _)); refine blk_put (cs := #[.int .i64 a1_1, .int .i64 0, .int .i64 0]) ?_ 1 _ rfl; (with_reducible repeat (first | refine blk_drewN ?_ _ | refine blk_drew ?_ | refine blk_alloc ?_ _)); refine blk_put (cs := #[.int .i64 0, .int .i64 0, .int .i64 0]) ?_ 0 _ rfl; (with_reducible repeat (first | refine blk_drewN ?_ _ | refine blk_drew ?_ | refine blk_alloc ?_ _)); exact BK124.out) Try.underlying30 rfl (by kernel_rfl)) rfl ?_
      exact ⟨by first | rfl | (simp [errW_none, errW_some] <;> rfl) | (simp [*, errW_none, errW_some] <;> rfl), by repeat (first | (with_reducible first | exact HB.out | apply below_alloc | apply pw_below_drewN | apply below_drew1 | refine below_set ?_ GE123.out | refine below_set ?_ GE124.out) | exact HB.out)⟩
    · rw [if_neg c9] at H
      have c9b0 : decide (a1_1 < a1_0) = false := decide_eq_false c9
      clear c9
      simp only [Option.some.injEq, Prod.mk.injEq] at H
      obtain ⟨rfl, rfl, rfl⟩ := H
      go_enter Try.func23, Try.ntmps23
      go_wp2_with (first | ((with_reducible refine gate_dst (N := 3) rfl ?_); refine box_event ?hg (N := 3) ?hd (cs := #[.int .i64 a1_0, .int .i64 a1_1, .int .i64 a1_2]) (t := 30) ?hr ?_; (case hd => rfl); (case hg => rfl); (case hr => first | (go_simp; done) | (go_simp; rfl)); intro gb123 hg w15 hbox hb; have n0_ := Aside0.mk (below_step (by repeat (first | (with_reducible first | exact HB.out | apply below_alloc | apply pw_below_drewN | apply below_drew1) | exact HB.out)) hb); have n1_ := Aside0.mk (hbox); have n2_ := Aside0.mk ((by rw [hg]; exact (below_size (by repeat (first | (with_reducible first | exact HB.out | apply below_alloc | apply pw_below_drewN | apply below_drew1) | exact HB.out))) : w.heap.size ≤ gb123)); have n3_ := Aside0.mk ((by rw [hg]; exact (below_size (by repeat (first | (with_reducible first | exact HB.out | apply below_alloc | apply pw_below_drewN | apply below_drew1) | exact HB.out))) : w.heap.size ≤ gb123)); clear HB; have HB := n0_; have BK123 := n1_; have GW123 := n2_; have GE123 := n3_; clear n0_ n1_ n2_ n3_; clear hb hbox hg) | ((with_reducible refine gate_dst (N := 4) rfl ?_); refine box_event ?hg (N := 4) ?hd (cs := #[.int .i64 0, .int .i64 0, .int .i64 0]) (t := 30) ?hr ?_; (case hd => rfl); (case hg => rfl); (case hr => first | (go_simp; done) | (go_simp; rfl)); intro gb124 hg w16 hbox hb; have n0_ := Aside0.mk (blk_below (g := gb123) (o := .cells #[.int .i64 a1_0, .int .i64 a1_1, .int .i64 a1_2] 30 (0, 0)) (by (with_reducible repeat (first | refine blk_drewN ?_ _ | refine blk_drew ?_ | refine blk_alloc ?_ _)); exact BK123.out) hb); have n1_ := Aside0.mk (below_step (by repeat (first | (with_reducible first | exact HB.out | apply below_alloc | apply pw_below_drewN | apply below_drew1 | refine below_set ?_ GE123.out) | exact HB.out)) hb); have n2_ := Aside0.mk (hbox); have n3_ := Aside0.mk ((by rw [hg]; exact (below_size (by repeat (first | (with_reducible first | exact HB.out | apply below_alloc | apply pw_below_drewN | apply below_drew1 | refine below_set ?_ GE123.out) | exact HB.out))) : w.heap.size ≤ gb124)); have n4_ := Aside0.mk ((by rw [hg]; exact (below_size (by repeat (first | (with_reducible first | exact HB.out | apply below_alloc | apply pw_below_drewN | apply below_drew1 | refine below_set ?_ GE123.out) | exact HB.out))) : w.heap.size ≤ gb124)); have n5_ := Aside0.mk ((by rw [hg]; exact Nat.ne_of_lt (blk_lt (g := gb123) (o := .cells #[.int .i64 a1_0, .int .i64 a1_1, .int .i64 a1_2] 30 (0, 0)) (by (with_reducible repeat (first | refine blk_drewN ?_ _ | refine blk_drew ?_ | refine blk_alloc ?_ _)); exact BK123.out)) : gb123 ≠ gb124)); have n6_ := Aside0.mk ((by rw [hg]; exact Nat.ne_of_gt (blk_lt (g := gb123) (o := .cells #[.int .i64 a1_0, .int .i64 a1_1, .int .i64 a1_2] 30 (0, 0)) (by (with_reducible repeat (first | refine blk_drewN ?_ _ | refine blk_drew ?_ | refine blk_alloc ?_ _)); exact BK123.out)) : gb124 ≠ gb123)); clear BK123; clear HB; have BK123 := n0_; have HB := n1_; have BK124 := n2_; have GW124 := n3_; have GE124 := n4_; have NB123_124 := n5_; have NB124_123 := n6_; clear n0_ n1_ n2_ n3_ n4_ n5_ n6_; clear hb hbox hg; have hnb17 := NB123_124.out; have hnc17 := NB124_123.out; have hcz18_0 : w16.cell? ⟨gb123, 0, none⟩ = some (.int .i64 a1_0) := (blk_cell BK123.out 0).trans rfl; have hcz18_1 : w16.cell? ⟨gb123, 1, none⟩ = some (.int .i64 a1_1) := (blk_cell BK123.out 1).trans rfl; have hcz18_2 : w16.cell? ⟨gb123, 2, none⟩ = some (.int .i64 a1_2) := (blk_cell BK123.out 2).trans rfl; have hfz18_0 := blk_frozen BK123.out 0; have hfz18_1 := blk_frozen BK123.out 1; have hfz18_2 := blk_frozen BK123.out 2; have hcz19_0 : w16.cell? ⟨gb124, 0, none⟩ = some (.int .i64 0) := (blk_cell BK124.out 0).trans rfl; have hcz19_1 : w16.cell? ⟨gb124, 1, none⟩ = some (.int .i64 0) := (blk_cell BK124.out 1).trans rfl; have hcz19_2 : w16.cell? ⟨gb124, 2, none⟩ = some (.int .i64 0) := (blk_cell BK124.out 2).trans rfl; have hfz19_0 := blk_frozen BK124.out 0; have hfz19_1 := blk_frozen BK124.out 1; have hfz19_2 := blk_frozen BK124.out 2))
      refine bodyPost_ret (results_cell_row rfl _ _ gb124 30 #[.int .i64 a1_0, .int .i64 a1_1, .int .i64 a1_2] (0, 0) _ rfl (by (with_reducible repeat (first | refine blk_drewN ?_ _ | refine blk_drew ?_ | refine blk_alloc ?_ _)); refine blk_put (cs := #[.int .i64 a1_0, .int .i64 a1_1, .int .i64 0]) ?_ 2 _ rfl; (with_reducible repeat (first | refine blk_drewN ?_ _ | refine blk_drew ?_ | refine blk_alloc ?_ _)); refine blk_put (cs := #[.int .i64 a1_0, .int .i64 0, .int .i64 0]) ?_ 1 _ rfl; (with_reducible repeat (first | refine blk_drewN ?_ _ | refine blk_drew ?_ | refine blk_alloc ?_ _)); refine blk_put (cs := #[.int .i64 0, .int .i64 0, .int .i64 0]) ?_ 0 _ rfl; (with_reducible repeat (first | refine blk_drewN ?_ _ | refine blk_drew ?_ | refine blk_alloc ?_ _)); exact BK124.out) Try.underlying30 rfl (by kernel_rfl)) rfl ?_
      exact ⟨by first | rfl | (simp [errW_none, errW_some] <;> rfl) | (simp [*, errW_none, errW_some] <;> rfl), by repeat (first | (with_reducible first | exact HB.out | apply below_alloc | apply pw_below_drewN | apply below_drew1 | refine below_set ?_ GE123.out | refine below_set ?_ GE124.out) | exact HB.out)⟩

-- NOT PRINTED: function 44 (impl_Edge_44)

-- NOT PRINTED: function 59 (impl_Edge_59)

-- NOT PRINTED: function 45 (impl_Edge_45)

-- NOT PRINTED: function 46 (impl_Edge_46)

-- NOT PRINTED: function 63 (impl_Edge_63)

-- NOT PRINTED: function 61 (impl_Edge_61)

-- NOT PRINTED: function 60 (impl_Edge_60)

-- NOT PRINTED: function 47 (impl_Edge_47)

-- NOT PRINTED: function 48 (impl_Edge_48)

-- NOT PRINTED: function 49 (impl_Edge_49)

-- NOT PRINTED: function 50 (impl_Edge_50)

-- NOT PRINTED: function 51 (impl_Edge_51)

-- NOT PRINTED: function 31 (impl_Edge_31)

-- NOT PRINTED: function 24 (impl_Edge_24)

/-! ### cmp_Compare_int: function 52 -/
def cmp_Compare_int.f (a0 : Int) (a1 : Int) : Option (Int) := (cmp_isNaN_int.f a0).bind fun t125 => ((cmp_isNaN_int.f a1).bind fun t126 => (if t125 = true then (if t126 = true then (some 0) else (some (-1))) else (if t126 = true then (some 1) else (if a0 < a1 then (some (-1)) else (if a0 > a1 then (some 1) else (some 0))))))
set_option maxHeartbeats 8000000 in
set_option maxRecDepth 100000 in
theorem cmp_Compare_int.calls (a0 : Int) (a1 : Int) (r : Int) (w : World) (h : cmp_Compare_int.f a0 a1 = some r) :
    Calls Try.prog 52 #[.int .i64 a0, .int .i64 a1] w fun e w' => e = .returned (.int .i64 r) ∧ Drawn0 w w' := by
  have H : ((cmp_isNaN_int.f a0).bind fun t125 => ((cmp_isNaN_int.f a1).bind fun t126 => (if t125 = true then (if t126 = true then (some 0) else (some (-1))) else (if t126 = true then (some 1) else (if a0 < a1 then (some (-1)) else (if a0 > a1 then (some 1) else (some 0))))))) = some r := h
  clear h
  replace H := Option.bind_eq_some_iff.mp H
  obtain ⟨t125, A30, H⟩ := H
  replace H : ((cmp_isNaN_int.f a1).bind fun t126 => (if t125 = true then (if t126 = true then (some 0) else (some (-1))) else (if t126 = true then (some 1) else (if a0 < a1 then (some (-1)) else (if a0 > a1 then (some 1) else (some 0)))))) = some r := H
  have A3 := Aside0.mk A30
  clear A30
  replace H := Option.bind_eq_some_iff.mp H
  obtain ⟨t126, A40, H⟩ := H
  replace H : (if t125 = true then (if t126 = true then (some 0) else (some (-1))) else (if t126 = true then (some 1) else (if a0 < a1 then (some (-1)) else (if a0 > a1 then (some 1) else (some 0))))) = some r := H
  have A4 := Aside0.mk A40
  clear A40
  by_cases c5 : t125 = true
  · subst c5
    have H1 : (if t126 = true then (some 0) else (some (-1))) = some r := by rw [if_pos rfl] at H; exact H
    clear H
    have H := H1
    clear H1
    by_cases c6 : t126 = true
    · subst c6
      have H1 : (some 0) = some r := by rw [if_pos rfl] at H; exact H
      clear H
      have H := H1
      clear H1
      obtain rfl := Option.some.inj H
      go_enter Try.func52, Try.ntmps52
      go_wp2_with (first | ((with_reducible refine gate_callee (f := 58) rfl ?_); refine goesL_ (some 8) rfl rfl Try.func58 (by kernel_rfl) rfl #[.int .i64 a0] rfl (by (try simp only [List.map_toArray, List.map_cons, List.map_nil]); first | done | rfl | (simp only [List.length_drop, List.length_take]; rfl)) ?_; (with_reducible refine (cmp_isNaN_int.calls a0 true _ A3.out).mono ?_); rintro e w' ⟨rfl, ⟨nd, rfl⟩⟩; refine ⟨_, rfl, ?_⟩) | ((with_reducible refine gate_callee (f := 58) rfl ?_); refine goesL_ (some 10) rfl rfl Try.func58 (by kernel_rfl) rfl #[.int .i64 a1] rfl (by (try simp only [List.map_toArray, List.map_cons, List.map_nil]); first | done | rfl | (simp only [List.length_drop, List.length_take]; rfl)) ?_; (with_reducible refine (cmp_isNaN_int.calls a1 true _ A4.out).mono ?_); rintro e w' ⟨rfl, ⟨nd, rfl⟩⟩; refine ⟨_, rfl, ?_⟩))
      go_ret
      exact ⟨by first | rfl | (simp; done) | (simp [*]; done), by repeat (first | exact Drawn0.refl _ | apply Drawn0.step)⟩
    · replace c6 := Bool.eq_false_iff.mpr c6
      subst c6
      have H1 : (some (-1)) = some r := by rw [if_neg (show ¬ (false = true) by decide)] at H; exact H
      clear H
      have H := H1
      clear H1
      obtain rfl := Option.some.inj H
      go_enter Try.func52, Try.ntmps52
      go_wp2_with (first | ((with_reducible refine gate_callee (f := 58) rfl ?_); refine goesL_ (some 8) rfl rfl Try.func58 (by kernel_rfl) rfl #[.int .i64 a0] rfl (by (try simp only [List.map_toArray, List.map_cons, List.map_nil]); first | done | rfl | (simp only [List.length_drop, List.length_take]; rfl)) ?_; (with_reducible refine (cmp_isNaN_int.calls a0 true _ A3.out).mono ?_); rintro e w' ⟨rfl, ⟨nd, rfl⟩⟩; refine ⟨_, rfl, ?_⟩) | ((with_reducible refine gate_callee (f := 58) rfl ?_); refine goesL_ (some 10) rfl rfl Try.func58 (by kernel_rfl) rfl #[.int .i64 a1] rfl (by (try simp only [List.map_toArray, List.map_cons, List.map_nil]); first | done | rfl | (simp only [List.length_drop, List.length_take]; rfl)) ?_; (with_reducible refine (cmp_isNaN_int.calls a1 false _ A4.out).mono ?_); rintro e w' ⟨rfl, ⟨nd, rfl⟩⟩; refine ⟨_, rfl, ?_⟩))
      go_ret
      exact ⟨by first | rfl | (simp; done) | (simp [*]; done), by repeat (first | exact Drawn0.refl _ | apply Drawn0.step)⟩
  · replace c5 := Bool.eq_false_iff.mpr c5
    subst c5
    have H1 : (if t126 = true then (some 1) else (if a0 < a1 then (some (-1)) else (if a0 > a1 then (some 1) else (some 0)))) = some r := by rw [if_neg (show ¬ (false = true) by decide)] at H; exact H
    clear H
    have H := H1
    clear H1
    by_cases c7 : t126 = true
    · subst c7
      have H1 : (some 1) = some r := by rw [if_pos rfl] at H; exact H
      clear H
      have H := H1
      clear H1
      obtain rfl := Option.some.inj H
      go_enter Try.func52, Try.ntmps52
      go_wp2_with (first | ((with_reducible refine gate_callee (f := 58) rfl ?_); refine goesL_ (some 8) rfl rfl Try.func58 (by kernel_rfl) rfl #[.int .i64 a0] rfl (by (try simp only [List.map_toArray, List.map_cons, List.map_nil]); first | done | rfl | (simp only [List.length_drop, List.length_take]; rfl)) ?_; (with_reducible refine (cmp_isNaN_int.calls a0 false _ A3.out).mono ?_); rintro e w' ⟨rfl, ⟨nd, rfl⟩⟩; refine ⟨_, rfl, ?_⟩) | ((with_reducible refine gate_callee (f := 58) rfl ?_); refine goesL_ (some 10) rfl rfl Try.func58 (by kernel_rfl) rfl #[.int .i64 a1] rfl (by (try simp only [List.map_toArray, List.map_cons, List.map_nil]); first | done | rfl | (simp only [List.length_drop, List.length_take]; rfl)) ?_; (with_reducible refine (cmp_isNaN_int.calls a1 true _ A4.out).mono ?_); rintro e w' ⟨rfl, ⟨nd, rfl⟩⟩; refine ⟨_, rfl, ?_⟩))
      go_ret
      exact ⟨by first | rfl | (simp; done) | (simp [*]; done), by repeat (first | exact Drawn0.refl _ | apply Drawn0.step)⟩
    · replace c7 := Bool.eq_false_iff.mpr c7
      subst c7
      have H1 : (if a0 < a1 then (some (-1)) else (if a0 > a1 then (some 1) else (some 0))) = some r := by rw [if_neg (show ¬ (false = true) by decide)] at H; exact H
      clear H
      have H := H1
      clear H1
      by_cases c8 : a0 < a1
      · rw [if_pos c8] at H
        have c8b0 : decide (a0 < a1) = true := decide_eq_true c8
        clear c8
        obtain rfl := Option.some.inj H
        go_enter Try.func52, Try.ntmps52
        go_wp2_with (first | ((with_reducible refine gate_callee (f := 58) rfl ?_); refine goesL_ (some 8) rfl rfl Try.func58 (by kernel_rfl) rfl #[.int .i64 a0] rfl (by (try simp only [List.map_toArray, List.map_cons, List.map_nil]); first | done | rfl | (simp only [List.length_drop, List.length_take]; rfl)) ?_; (with_reducible refine (cmp_isNaN_int.calls a0 false _ A3.out).mono ?_); rintro e w' ⟨rfl, ⟨nd, rfl⟩⟩; refine ⟨_, rfl, ?_⟩) | ((with_reducible refine gate_callee (f := 58) rfl ?_); refine goesL_ (some 10) rfl rfl Try.func58 (by kernel_rfl) rfl #[.int .i64 a1] rfl (by (try simp only [List.map_toArray, List.map_cons, List.map_nil]); first | done | rfl | (simp only [List.length_drop, List.length_take]; rfl)) ?_; (with_reducible refine (cmp_isNaN_int.calls a1 false _ A4.out).mono ?_); rintro e w' ⟨rfl, ⟨nd, rfl⟩⟩; refine ⟨_, rfl, ?_⟩))
        go_ret
        exact ⟨by first | rfl | (simp; done) | (simp [*]; done), by repeat (first | exact Drawn0.refl _ | apply Drawn0.step)⟩
      · rw [if_neg c8] at H
        have c8b0 : decide (a0 < a1) = false := decide_eq_false c8
        clear c8
        by_cases c9 : a0 > a1
        · rw [if_pos c9] at H
          have c9b0 : decide (a1 < a0) = true := decide_eq_true c9
          clear c9
          obtain rfl := Option.some.inj H
          go_enter Try.func52, Try.ntmps52
          go_wp2_with (first | ((with_reducible refine gate_callee (f := 58) rfl ?_); refine goesL_ (some 8) rfl rfl Try.func58 (by kernel_rfl) rfl #[.int .i64 a0] rfl (by (try simp only [List.map_toArray, List.map_cons, List.map_nil]); first | done | rfl | (simp only [List.length_drop, List.length_take]; rfl)) ?_; (with_reducible refine (cmp_isNaN_int.calls a0 false _ A3.out).mono ?_); rintro e w' ⟨rfl, ⟨nd, rfl⟩⟩; refine ⟨_, rfl, ?_⟩) | ((with_reducible refine gate_callee (f := 58) rfl ?_); refine goesL_ (some 10) rfl rfl Try.func58 (by kernel_rfl) rfl #[.int .i64 a1] rfl (by (try simp only [List.map_toArray, List.map_cons, List.map_nil]); first | done | rfl | (simp only [List.length_drop, List.length_take]; rfl)) ?_; (with_reducible refine (cmp_isNaN_int.calls a1 false _ A4.out).mono ?_); rintro e w' ⟨rfl, ⟨nd, rfl⟩⟩; refine ⟨_, rfl, ?_⟩))
          go_ret
          exact ⟨by first | rfl | (simp; done) | (simp [*]; done), by repeat (first | exact Drawn0.refl _ | apply Drawn0.step)⟩
        · rw [if_neg c9] at H
          have c9b0 : decide (a1 < a0) = false := decide_eq_false c9
          clear c9
          obtain rfl := Option.some.inj H
          go_enter Try.func52, Try.ntmps52
          go_wp2_with (first | ((with_reducible refine gate_callee (f := 58) rfl ?_); refine goesL_ (some 8) rfl rfl Try.func58 (by kernel_rfl) rfl #[.int .i64 a0] rfl (by (try simp only [List.map_toArray, List.map_cons, List.map_nil]); first | done | rfl | (simp only [List.length_drop, List.length_take]; rfl)) ?_; (with_reducible refine (cmp_isNaN_int.calls a0 false _ A3.out).mono ?_); rintro e w' ⟨rfl, ⟨nd, rfl⟩⟩; refine ⟨_, rfl, ?_⟩) | ((with_reducible refine gate_callee (f := 58) rfl ?_); refine goesL_ (some 10) rfl rfl Try.func58 (by kernel_rfl) rfl #[.int .i64 a1] rfl (by (try simp only [List.map_toArray, List.map_cons, List.map_nil]); first | done | rfl | (simp only [List.length_drop, List.length_take]; rfl)) ?_; (with_reducible refine (cmp_isNaN_int.calls a1 false _ A4.out).mono ?_); rintro e w' ⟨rfl, ⟨nd, rfl⟩⟩; refine ⟨_, rfl, ?_⟩))
          go_ret
          exact ⟨by first | rfl | (simp; done) | (simp [*]; done), by repeat (first | exact Drawn0.refl _ | apply Drawn0.step)⟩

/-! ### slices_Compare_int_int: function 32 -/
def slices_Compare_int_int.l0 : Nat → List Int → List Int → List Int → Int → Int → Option (Int)
  | 0, _, _, _, _, _ => none
  | k + 1, x0, x1, x9, x10, x11 => if x11 < x10 then (if 0 ≤ x11 then (if x11 < (x9.length : Int) then (if x11 ≥ (x1.length : Int) then (some 1) else (if x11 < (x1.length : Int) then ((cmp_Compare_int.f (rd x9 x11) (rd x1 x11)).bind fun t129 => (if t129 = 0 then (slices_Compare_int_int.l0 k x0 x1 x9 x10 (wrap64 (x11 + 1))) else (some t129))) else (none))) else (none)) else (none)) else (if (x0.length : Int) < (x1.length : Int) then (some (-1)) else (some 0))
def slices_Compare_int_int.f (k : Nat) (l0 : List Int) (l1 : List Int) : Option (Int) := slices_Compare_int_int.l0 k l0 l1 l0 (l0.length : Int) 0
theorem slices_Compare_int_int.mono_l : ∀ k, (∀ y0 y1 y2 y3 y4, LeO (slices_Compare_int_int.l0 k y0 y1 y2 y3 y4) (slices_Compare_int_int.l0 (k + 1) y0 y1 y2 y3 y4))
  | 0 => fun _ _ _ _ _ r h => by simp [slices_Compare_int_int.l0] at h
  | k + 1 => by
    have ih0 := slices_Compare_int_int.mono_l k
    · intro y0 y1 y2 y3 y4
      unfold slices_Compare_int_int.l0
      repeat' first
      | (with_reducible exact ih0 _ _ _ _ _)
      | (with_reducible exact LeO.refl _)
      | (with_reducible exact LeO.none _)
      | (with_reducible refine LeO.ite ?_ ?_)
      | (with_reducible refine LeO.bind ?_ (fun _ => ?_))
      | exact ih0 _ _ _ _ _
      | exact LeO.none _
      | refine LeO.ite ?_ ?_
      | refine LeO.bind ?_ (fun _ => ?_)
theorem slices_Compare_int_int.mono : ∀ a0 a1 k, LeO (slices_Compare_int_int.f k a0 a1) (slices_Compare_int_int.f (k + 1) a0 a1) := by
  intro a0 a1 k
  have ih0 := slices_Compare_int_int.mono_l k
  unfold slices_Compare_int_int.f
  repeat' first
      | (with_reducible exact ih0 _ _ _ _ _)
      | (with_reducible exact LeO.refl _)
      | (with_reducible exact LeO.none _)
      | (with_reducible refine LeO.ite ?_ ?_)
      | (with_reducible refine LeO.bind ?_ (fun _ => ?_))
      | exact ih0 _ _ _ _ _
      | exact LeO.none _
      | refine LeO.ite ?_ ?_
      | refine LeO.bind ?_ (fun _ => ?_)
set_option maxHeartbeats 8000000 in
set_option maxRecDepth 100000 in
theorem slices_Compare_int_int.calls (k : Nat) (A0 : Option Addr) (c0 : Nat) (l0 : List Int) (A1 : Option Addr) (c1 : Nat) (l1 : List Int) (r : Int) (w : World) (hr0 : Kd.C (Kd.int .i64) w A0 l0.length l0) (hc0 : l0.length ≤ c0) (hr1 : Kd.C (Kd.int .i64) w A1 l1.length l1) (hc1 : l1.length ≤ c1) (h : slices_Compare_int_int.f k l0 l1 = some r) :
    Calls Try.prog 32 #[.slice A0 l0.length c0, .slice A1 l1.length c1] w fun e w' => e = .returned (.int .i64 r) ∧ Drawn0 w w' := by
  have HR0 := Aside0.mk hr0
  have HC0 := Aside0.mk hc0
  clear hr0 hc0
  have HR1 := Aside0.mk hr1
  have HC1 := Aside0.mk hc1
  clear hr1 hc1
  have H : (slices_Compare_int_int.l0 k l0 l1 l0 (l0.length : Int) 0) = some r := h
  clear h
  have H' := Aside0.mk H
  clear H
  go_enter Try.func32, Try.ntmps32
  go_wp2
  go_loopg [11] k (fun kq v11 w' => ∃ (x11_1 : Int), v11 = .int .i64 x11_1 ∧ Aside0 (slices_Compare_int_int.l0 kq l0 l1 l0 (l0.length : Int) x11_1 = some r) ∧ Aside0 (kq ≤ k) ∧ Drawn0 w w')
  case atStart => exact ⟨(0), (by first | rfl | (simp; done) | (simp [*]; done)), H', ⟨Nat.le_refl _⟩, by repeat (first | exact Drawn0.refl _ | apply Drawn0.step)⟩
  case round =>
    clear H'
    try clear c1
    try clear p2
    obtain ⟨x11_1, rfl, HA, HK1, ⟨m1, rfl⟩⟩ := hrel
    cases gk with
    | zero => exact absurd HA.out (by simp [slices_Compare_int_int.l0])
    | succ k1 =>
      have H := HA.out
      clear HA
      simp only [slices_Compare_int_int.l0] at H
      by_cases c3 : x11_1 < (l0.length : Int)
      · rw [if_pos c3] at H
        have c3b0 : decide (x11_1 < (l0.length : Int)) = true := decide_eq_true c3
        clear c3
        by_cases c4 : 0 ≤ x11_1
        · rw [if_pos c4] at H
          have c4b0 : decide (0 ≤ x11_1) = true := decide_eq_true c4
          clear c4
          by_cases c5 : x11_1 < (l0.length : Int)
          · rw [if_pos c5] at H
            have c5b0 : decide (x11_1 < (l0.length : Int)) = true := decide_eq_true c5
            clear c5
            by_cases c6 : x11_1 ≥ (l1.length : Int)
            · rw [if_pos c6] at H
              have c6b0 : decide ((l1.length : Int) ≤ x11_1) = true := decide_eq_true c6
              clear c6
              obtain rfl := Option.some.inj H
              have p127 : 0 ≤ (x11_1 : Int) := of_decide_eq_true (by first | (with_reducible assumption) | assumption)
              have q127 : x11_1 < (l0.length : Int) := of_decide_eq_true (by first | (with_reducible assumption) | assumption)
              obtain ⟨ad127, e127, hx127_0⟩ := Kd.at_int HR0.out x11_1 p127 q127
              cases e127
              replace p127 := eq_true p127
              replace q127 := eq_true q127
              go_wp2
              go_ret
              exact ⟨by first | rfl | (simp; done) | (simp [*]; done), by repeat (first | exact Drawn0.refl _ | apply Drawn0.step)⟩
            · rw [if_neg c6] at H
              have c6b0 : decide ((l1.length : Int) ≤ x11_1) = false := decide_eq_false c6
              clear c6
              by_cases c7 : x11_1 < (l1.length : Int)
              · rw [if_pos c7] at H
                have c7b0 : decide (x11_1 < (l1.length : Int)) = true := decide_eq_true c7
                clear c7
                replace H := Option.bind_eq_some_iff.mp H
                obtain ⟨t129, A80, H⟩ := H
                replace H : (if t129 = 0 then (slices_Compare_int_int.l0 k1 l0 l1 l0 (l0.length : Int) (wrap64 (x11_1 + 1))) else (some t129)) = some r := H
                have A8 := Aside0.mk A80
                clear A80
                by_cases c9 : t129 = 0
                · rw [if_pos c9] at H
                  have c9b0 : (t129 == 0) = true := beq_iff_eq.mpr c9
                  have c9b1 : (t129 != 0) = false := bne_eq_false_iff_eq.mpr c9
                  clear c9
                  have H' := Aside0.mk H
                  clear H
                  have p127 : 0 ≤ (x11_1 : Int) := of_decide_eq_true (by first | (with_reducible assumption) | assumption)
                  have q127 : x11_1 < (l0.length : Int) := of_decide_eq_true (by first | (with_reducible assumption) | assumption)
                  obtain ⟨ad127, e127, hx127_0⟩ := Kd.at_int HR0.out x11_1 p127 q127
                  cases e127
                  replace p127 := eq_true p127
                  replace q127 := eq_true q127
                  have p128 : 0 ≤ (x11_1 : Int) := of_decide_eq_true (by first | (with_reducible assumption) | assumption)
                  have q128 : x11_1 < (l1.length : Int) := of_decide_eq_true (by first | (with_reducible assumption) | assumption)
                  obtain ⟨ad128, e128, hx128_0⟩ := Kd.at_int HR1.out x11_1 p128 q128
                  cases e128
                  replace p128 := eq_true p128
                  replace q128 := eq_true q128
                  go_wp2_with (first | ((with_reducible refine gate_callee (f := 52) rfl ?_); refine goesL_ (some 26) rfl rfl Try.func52 (by kernel_rfl) rfl #[.int .i64 (rd l0 x11_1), .int .i64 (rd l1 x11_1)] rfl (by (try simp only [List.map_toArray, List.map_cons, List.map_nil]); first | done | rfl | (simp only [List.length_drop, List.length_take]; rfl)) ?_; (with_reducible refine (cmp_Compare_int.calls (rd l0 x11_1) (rd l1 x11_1) t129 _ A8.out).mono ?_); rintro e w' ⟨rfl, ⟨nd, rfl⟩⟩; refine ⟨_, rfl, ?_⟩))
                  go_roundg k1
                  case measure => have := HK1.out; omega
                  case rel => exact ⟨(wrap64 (x11_1 + 1)), (by first | rfl | (simp; done) | (simp [*]; done)), H', ⟨by have := HK1.out; omega⟩, by repeat (first | exact Drawn0.refl _ | apply Drawn0.step)⟩
                · rw [if_neg c9] at H
                  have c9b0 : (t129 == 0) = false := beq_eq_false_iff_ne.mpr c9
                  have c9b1 : (t129 != 0) = true := bne_iff_ne.mpr c9
                  obtain rfl := Option.some.inj H
                  have p127 : 0 ≤ (x11_1 : Int) := of_decide_eq_true (by first | (with_reducible assumption) | assumption)
                  have q127 : x11_1 < (l0.length : Int) := of_decide_eq_true (by first | (with_reducible assumption) | assumption)
                  obtain ⟨ad127, e127, hx127_0⟩ := Kd.at_int HR0.out x11_1 p127 q127
                  cases e127
                  replace p127 := eq_true p127
                  replace q127 := eq_true q127
                  have p128 : 0 ≤ (x11_1 : Int) := of_decide_eq_true (by first | (with_reducible assumption) | assumption)
                  have q128 : x11_1 < (l1.length : Int) := of_decide_eq_true (by first | (with_reducible assumption) | assumption)
                  obtain ⟨ad128, e128, hx128_0⟩ := Kd.at_int HR1.out x11_1 p128 q128
                  cases e128
                  replace p128 := eq_true p128
                  replace q128 := eq_true q128
                  go_wp2_with (first | ((with_reducible refine gate_callee (f := 52) rfl ?_); refine goesL_ (some 26) rfl rfl Try.func52 (by kernel_rfl) rfl #[.int .i64 (rd l0 x11_1), .int .i64 (rd l1 x11_1)] rfl (by (try simp only [List.map_toArray, List.map_cons, List.map_nil]); first | done | rfl | (simp only [List.length_drop, List.length_take]; rfl)) ?_; (with_reducible refine (cmp_Compare_int.calls (rd l0 x11_1) (rd l1 x11_1) t129 _ A8.out).mono ?_); rintro e w' ⟨rfl, ⟨nd, rfl⟩⟩; refine ⟨_, rfl, ?_⟩))
                  go_ret
                  exact ⟨by first | rfl | (simp; done) | (simp [*]; done), by repeat (first | exact Drawn0.refl _ | apply Drawn0.step)⟩
              · rw [if_neg c7] at H
                exact absurd H (by simp)
          · rw [if_neg c5] at H
            exact absurd H (by simp)
        · rw [if_neg c4] at H
          exact absurd H (by simp)
      · rw [if_neg c3] at H
        have c3b0 : decide (x11_1 < (l0.length : Int)) = false := decide_eq_false c3
        clear c3
        by_cases c10 : (l0.length : Int) < (l1.length : Int)
        · rw [if_pos c10] at H
          have c10b0 : decide ((l0.length : Int) < (l1.length : Int)) = true := decide_eq_true c10
          have c10b1 : decide (l0.length < l1.length) = true := decide_eq_true (Int.ofNat_lt.mp c10)
          clear c10
          obtain rfl := Option.some.inj H
          go_wp2
          go_ret
          exact ⟨by first | rfl | (simp; done) | (simp [*]; done), by repeat (first | exact Drawn0.refl _ | apply Drawn0.step)⟩
        · rw [if_neg c10] at H
          have c10b0 : decide ((l0.length : Int) < (l1.length : Int)) = false := decide_eq_false c10
          have c10b1 : decide (l0.length < l1.length) = false := decide_eq_false (fun h => c10 (Int.ofNat_lt.mpr h))
          clear c10
          obtain rfl := Option.some.inj H
          go_wp2
          go_ret
          exact ⟨by first | rfl | (simp; done) | (simp [*]; done), by repeat (first | exact Drawn0.refl _ | apply Drawn0.step)⟩

/-! ### impl_edgeBefore: function 25 -/
def impl_edgeBefore.f (k : Nat) (a0_0 : Int) (a0_1 : Int) (a0_2 : Int) (a1_0 : Int) (a1_1 : Int) (a1_2 : Int) : Option (Int) := (slices_Compare_int_int.f k (([a0_0, a0_1, a0_2] : List Int)) (([a1_0, a1_1, a1_2] : List Int))).bind fun t138 => (some t138)
theorem impl_edgeBefore.mono : ∀ a0 a1 a2 a3 a4 a5 k, LeO (impl_edgeBefore.f k a0 a1 a2 a3 a4 a5) (impl_edgeBefore.f (k + 1) a0 a1 a2 a3 a4 a5) := by
  intro a0 a1 a2 a3 a4 a5 k
  unfold impl_edgeBefore.f
  repeat' first
      | (with_reducible exact slices_Compare_int_int.mono _ _ _)
      | (with_reducible exact LeO.refl _)
      | (with_reducible exact LeO.none _)
      | (with_reducible refine LeO.ite ?_ ?_)
      | (with_reducible refine LeO.bind ?_ (fun _ => ?_))
      | exact slices_Compare_int_int.mono _ _ _
      | exact LeO.none _
      | refine LeO.ite ?_ ?_
      | refine LeO.bind ?_ (fun _ => ?_)
set_option maxHeartbeats 8000000 in
set_option maxRecDepth 100000 in
theorem impl_edgeBefore.calls (k : Nat) (a0_0 : Int) (a0_1 : Int) (a0_2 : Int) (a1_0 : Int) (a1_1 : Int) (a1_2 : Int) (r : Int) (w : World) (h : impl_edgeBefore.f k a0_0 a0_1 a0_2 a1_0 a1_1 a1_2 = some r) :
    Calls Try.prog 25 #[.agg #[.int .i64 a0_0, .int .i64 a0_1, .int .i64 a0_2], .agg #[.int .i64 a1_0, .int .i64 a1_1, .int .i64 a1_2]] w fun e w' => e = .returned (.int .i64 r) ∧ Below w.heap.size w w' := by
  have hu30 := Try.underlying30
  have HB := Aside0.mk (Below.refl w.heap.size w)
  have H : ((slices_Compare_int_int.f k (([a0_0, a0_1, a0_2] : List Int)) (([a1_0, a1_1, a1_2] : List Int))).bind fun t138 => (some t138)) = some r := h
  clear h
  obtain ⟨y132, hy132⟩ : ∃ y_ : List Int, y_ = (([a0_0, a0_1, a0_2] : List Int)) := ⟨_, rfl⟩
  replace H : ((slices_Compare_int_int.f k y132 (([a1_0, a1_1, a1_2] : List Int))).bind fun t138 => (some t138)) = some r := by first | (rw [hy132]; with_reducible exact H) | (have H2_ := (Option.bind_some _ _).symm.trans H; rw [hy132]; with_reducible exact H2_) | (have H2_ := (Option.bind_some _ _).symm.trans H; with_reducible exact H2_) | with_reducible exact H | (rw [hy132]; exact H) | exact H
  have Ny132 := Aside0.mk hy132
  clear hy132
  obtain ⟨y135, hy135⟩ : ∃ y_ : List Int, y_ = (([a1_0, a1_1, a1_2] : List Int)) := ⟨_, rfl⟩
  replace H : ((slices_Compare_int_int.f k y132 y135).bind fun t138 => (some t138)) = some r := by first | (rw [hy135]; with_reducible exact H) | (have H2_ := (Option.bind_some _ _).symm.trans H; rw [hy135]; with_reducible exact H2_) | (have H2_ := (Option.bind_some _ _).symm.trans H; with_reducible exact H2_) | with_reducible exact H | (rw [hy135]; exact H) | exact H
  have Ny135 := Aside0.mk hy135
  clear hy135
  replace H := Option.bind_eq_some_iff.mp H
  obtain ⟨t138, A30, H⟩ := H
  replace H : (some t138) = some r := H
  have A3 := Aside0.mk A30
  clear A30
  obtain rfl := Option.some.inj H
  go_enter Try.func25, Try.ntmps25
  go_wp2_with (first | ((with_reducible refine gate_dst (N := 2) rfl ?_); refine box_event ?hg (N := 2) ?hd (cs := #[.int .i64 a0_0, .int .i64 a0_1, .int .i64 a0_2]) (t := 30) ?hr ?_; (case hd => rfl); (case hg => rfl); (case hr => first | (go_simp; done) | (go_simp; rfl)); intro gb130 hg w4 hbox hb; have n0_ := Aside0.mk (below_step (by repeat (first | (with_reducible first | exact HB.out | apply below_alloc | apply pw_below_drewN | apply below_drew1) | exact HB.out)) hb); have n1_ := Aside0.mk (hbox); have n2_ := Aside0.mk ((by rw [hg]; exact (below_size (by repeat (first | (with_reducible first | exact HB.out | apply below_alloc | apply pw_below_drewN | apply below_drew1) | exact HB.out))) : w.heap.size ≤ gb130)); have n3_ := Aside0.mk ((by rw [hg]; exact (below_size (by repeat (first | (with_reducible first | exact HB.out | apply below_alloc | apply pw_below_drewN | apply below_drew1) | exact HB.out))) : w.heap.size ≤ gb130)); clear HB; have HB := n0_; have BK130 := n1_; have GW130 := n2_; have GE130 := n3_; clear n0_ n1_ n2_ n3_; clear hb hbox hg) | ((with_reducible refine gate_dst (N := 3) rfl ?_); refine box_event ?hg (N := 3) ?hd (cs := #[.int .i64 a1_0, .int .i64 a1_1, .int .i64 a1_2]) (t := 30) ?hr ?_; (case hd => rfl); (case hg => rfl); (case hr => first | (go_simp; done) | (go_simp; rfl)); intro gb131 hg w5 hbox hb; have n0_ := Aside0.mk (blk_below (g := gb130) (o := .cells #[.int .i64 a0_0, .int .i64 a0_1, .int .i64 a0_2] 30 (0, 0)) (by (with_reducible repeat (first | refine blk_drewN ?_ _ | refine blk_drew ?_ | refine blk_alloc ?_ _)); exact BK130.out) hb); have n1_ := Aside0.mk (below_step (by repeat (first | (with_reducible first | exact HB.out | apply below_alloc | apply pw_below_drewN | apply below_drew1 | refine below_set ?_ GE130.out) | exact HB.out)) hb); have n2_ := Aside0.mk (hbox); have n3_ := Aside0.mk ((by rw [hg]; exact (below_size (by repeat (first | (with_reducible first | exact HB.out | apply below_alloc | apply pw_below_drewN | apply below_drew1 | refine below_set ?_ GE130.out) | exact HB.out))) : w.heap.size ≤ gb131)); have n4_ := Aside0.mk ((by rw [hg]; exact (below_size (by repeat (first | (with_reducible first | exact HB.out | apply below_alloc | apply pw_below_drewN | apply below_drew1 | refine below_set ?_ GE130.out) | exact HB.out))) : w.heap.size ≤ gb131)); have n5_ := Aside0.mk ((by rw [hg]; exact Nat.ne_of_lt (blk_lt (g := gb130) (o := .cells #[.int .i64 a0_0, .int .i64 a0_1, .int .i64 a0_2] 30 (0, 0)) (by (with_reducible repeat (first | refine blk_drewN ?_ _ | refine blk_drew ?_ | refine blk_alloc ?_ _)); exact BK130.out)) : gb130 ≠ gb131)); have n6_ := Aside0.mk ((by rw [hg]; exact Nat.ne_of_gt (blk_lt (g := gb130) (o := .cells #[.int .i64 a0_0, .int .i64 a0_1, .int .i64 a0_2] 30 (0, 0)) (by (with_reducible repeat (first | refine blk_drewN ?_ _ | refine blk_drew ?_ | refine blk_alloc ?_ _)); exact BK130.out)) : gb131 ≠ gb130)); clear BK130; clear HB; have BK130 := n0_; have HB := n1_; have BK131 := n2_; have GW131 := n3_; have GE131 := n4_; have NB130_131 := n5_; have NB131_130 := n6_; clear n0_ n1_ n2_ n3_ n4_ n5_ n6_; clear hb hbox hg; have hnb6 := NB130_131.out; have hnc6 := NB131_130.out; have hcz7_0 : w5.cell? ⟨gb130, 0, none⟩ = some (.int .i64 a0_0) := (blk_cell BK130.out 0).trans rfl; have hcz7_1 : w5.cell? ⟨gb130, 1, none⟩ = some (.int .i64 a0_1) := (blk_cell BK130.out 1).trans rfl; have hcz7_2 : w5.cell? ⟨gb130, 2, none⟩ = some (.int .i64 a0_2) := (blk_cell BK130.out 2).trans rfl; have hfz7_0 := blk_frozen BK130.out 0; have hfz7_1 := blk_frozen BK130.out 1; have hfz7_2 := blk_frozen BK130.out 2) | ((with_reducible refine gate_dst (N := 11) rfl ?_); refine Kd.R_lit (Kd.int .i64) _ 3 ?hg (N := 11) ?hd (xs := ([a0_0, a0_1, a0_2] : List Int)) (inner := [.int .i64 a0_0, .int .i64 a0_1, .int .i64 a0_2]) (ok := fun _ => True) (okp := fun _ => True) ?hr ?hp (fun _ hk => hk) trivial (Below.refl _ _) (Nat.le_refl _) (by simp) ?_; (case hd => rfl); (case hg => rfl); (case hr => first | (go_simp; done) | (go_simp; rfl)); (case hp => exact (Reps.one (show Kd.M (Kd.int .i64) _ _ _ a0_0 [.int .i64 a0_0] from rfl) (Reps.one (show Kd.M (Kd.int .i64) _ _ _ a0_1 [.int .i64 a0_1] from rfl) (Reps.one (show Kd.M (Kd.int .i64) _ _ _ a0_2 [.int .i64 a0_2] from rfl) (Reps.none _ _))))); intro v133 w8 ho9 hb hg_ hnew_; clear hg_ hnew_; (first | rw [← Ny132.out] at ho9 | (simp only [Int.reduceToNat] at ho9; rw [← Ny132.out] at ho9)); have n0_ := Aside0.mk (Kd.R_lower ho9 (below_size (by repeat (first | (with_reducible first | exact HB.out | apply below_alloc | apply pw_below_drewN | apply below_drew1 | refine below_set ?_ GE130.out | refine below_set ?_ GE131.out) | exact HB.out)))); have n1_ := Aside0.mk (blk_below (g := gb130) (o := .cells #[.int .i64 a0_0, .int .i64 a0_1, .int .i64 a0_2] 30 (0, 0)) (by (with_reducible repeat (first | refine blk_drewN ?_ _ | refine blk_drew ?_ | refine blk_alloc ?_ _)); exact BK130.out) hb); have n2_ := Aside0.mk (blk_below (g := gb131) (o := .cells #[.int .i64 a1_0, .int .i64 a1_1, .int .i64 a1_2] 30 (0, 0)) (by (with_reducible repeat (first | refine blk_drewN ?_ _ | refine blk_drew ?_ | refine blk_alloc ?_ _)); exact BK131.out) hb); have n3_ := Aside0.mk (below_step (by repeat (first | (with_reducible first | exact HB.out | apply below_alloc | apply pw_below_drewN | apply below_drew1 | refine below_set ?_ GE130.out | refine below_set ?_ GE131.out) | exact HB.out)) hb); clear BK130; clear BK131; clear HB; have HO134 := n0_; have BK130 := n1_; have BK131 := n2_; have HB := n3_; clear n0_ n1_ n2_ n3_; clear hb ho9; have hcz10_0 : w8.cell? ⟨gb131, 0, none⟩ = some (.int .i64 a1_0) := (blk_cell BK131.out 0).trans rfl; have hcz10_1 : w8.cell? ⟨gb131, 1, none⟩ = some (.int .i64 a1_1) := (blk_cell BK131.out 1).trans rfl; have hcz10_2 : w8.cell? ⟨gb131, 2, none⟩ = some (.int .i64 a1_2) := (blk_cell BK131.out 2).trans rfl; have hfz10_0 := blk_frozen BK131.out 0; have hfz10_1 := blk_frozen BK131.out 1; have hfz10_2 := blk_frozen BK131.out 2) | ((with_reducible refine gate_dst (N := 18) rfl ?_); refine Kd.R_lit (Kd.int .i64) _ 3 ?hg (N := 18) ?hd (xs := ([a1_0, a1_1, a1_2] : List Int)) (inner := [.int .i64 a1_0, .int .i64 a1_1, .int .i64 a1_2]) (ok := fun _ => True) (okp := fun _ => True) ?hr ?hp (fun _ hk => hk) trivial (Below.refl _ _) (Nat.le_refl _) (by simp) ?_; (case hd => rfl); (case hg => rfl); (case hr => first | (go_simp; done) | (go_simp; rfl)); (case hp => exact (Reps.one (show Kd.M (Kd.int .i64) _ _ _ a1_0 [.int .i64 a1_0] from rfl) (Reps.one (show Kd.M (Kd.int .i64) _ _ _ a1_1 [.int .i64 a1_1] from rfl) (Reps.one (show Kd.M (Kd.int .i64) _ _ _ a1_2 [.int .i64 a1_2] from rfl) (Reps.none _ _))))); intro v136 w11 ho12 hb hg_ hnew_; clear hg_ hnew_; (first | rw [← Ny135.out] at ho12 | (simp only [Int.reduceToNat] at ho12; rw [← Ny135.out] at ho12)); have n0_ := Aside0.mk (Kd.R_elder' (by (with_reducible repeat (first | apply Kd.R_alloc | apply Kd.R_drewN | apply Kd.R_drew)); exact HO134.out) (Kd.R_base ho12) hb); have n1_ := Aside0.mk (Kd.R_lower (Kd.R_new' ho12 (Kd.R_lt (by (with_reducible repeat (first | apply Kd.R_alloc | apply Kd.R_drewN | apply Kd.R_drew)); exact HO134.out))) (below_size (by repeat (first | (with_reducible first | exact HB.out | apply below_alloc | apply pw_below_drewN | apply below_drew1 | refine below_set ?_ GE130.out | refine below_set ?_ GE131.out) | exact HB.out)))); have n2_ := Aside0.mk (blk_below (g := gb130) (o := .cells #[.int .i64 a0_0, .int .i64 a0_1, .int .i64 a0_2] 30 (0, 0)) (by (with_reducible repeat (first | refine blk_drewN ?_ _ | refine blk_drew ?_ | refine blk_alloc ?_ _)); exact BK130.out) hb); have n3_ := Aside0.mk (blk_below (g := gb131) (o := .cells #[.int .i64 a1_0, .int .i64 a1_1, .int .i64 a1_2] 30 (0, 0)) (by (with_reducible repeat (first | refine blk_drewN ?_ _ | refine blk_drew ?_ | refine blk_alloc ?_ _)); exact BK131.out) hb); have n4_ := Aside0.mk (below_step (by repeat (first | (with_reducible first | exact HB.out | apply below_alloc | apply pw_below_drewN | apply below_drew1 | refine below_set ?_ GE130.out | refine below_set ?_ GE131.out) | exact HB.out)) hb); clear HO134; clear BK130; clear BK131; clear HB; have HO134 := n0_; have HO137 := n1_; have BK130 := n2_; have BK131 := n3_; have HB := n4_; clear n0_ n1_ n2_ n3_ n4_; clear hb ho12; obtain ⟨Ao13, co13, eo13⟩ := Kd.R_slice HO134.out; subst eo13; obtain ⟨Ao14, co14, eo14⟩ := Kd.R_slice HO137.out; subst eo14) | ((with_reducible refine gate_callee (f := 32) rfl ?_); refine goesL_ (some 19) rfl rfl Try.func32 (by kernel_rfl) rfl #[.slice Ao13 y132.length co13, .slice Ao14 y135.length co14] rfl (by (try simp only [List.map_toArray, List.map_cons, List.map_nil]); first | done | rfl | (simp only [List.length_drop, List.length_take]; rfl)) ?_; (with_reducible refine (slices_Compare_int_int.calls k _ _ y132 _ _ y135 t138 _ ?side1 ?side2 ?side3 ?side4 A3.out).mono ?_); (case side1 => repeat (first | exact (Kd.R_reads' HO134.out).2.2 | (with_reducible refine Kd.C_alloc ?_ _) | (with_reducible refine Kd.C_drewN ?_ _) | (with_reducible refine Kd.C_drew ?_))); (case side2 => exact (Kd.R_reads' HO134.out).2.1); (case side3 => repeat (first | exact (Kd.R_reads' HO137.out).2.2 | (with_reducible refine Kd.C_alloc ?_ _) | (with_reducible refine Kd.C_drewN ?_ _) | (with_reducible refine Kd.C_drew ?_))); (case side4 => exact (Kd.R_reads' HO137.out).2.1); rintro e w' ⟨rfl, ⟨nd, rfl⟩⟩; refine ⟨_, rfl, ?_⟩))
  go_ret
  exact ⟨by first | rfl | (simp [errW_none, errW_some] <;> rfl) | (simp [*, errW_none, errW_some] <;> rfl), by repeat (first | (with_reducible first | exact HB.out | apply below_alloc | apply pw_below_drewN | apply below_drew1 | refine below_set ?_ GE130.out | refine below_set ?_ GE131.out) | exact HB.out)⟩

-- NOT PRINTED: function 26 (impl_Edge_26)

-- NOT PRINTED: function 11 (impl_builder_graphOf)

-- GIVEN: function 4 (impl_GenTree)

/-! ### laws_rising: function 12 -/
def laws_rising.l0 : Nat → List Int → Int → Option (Bool)
  | 0, _, _ => none
  | k + 1, x0, x3 => if x3 < (x0.length : Int) then (if 0 ≤ (wrap64 (x3 - 1)) then (if (wrap64 (x3 - 1)) < (x0.length : Int) then (if 0 ≤ x3 then (if (rd x0 (wrap64 (x3 - 1))) ≥ (rd x0 x3) then (some false) else (laws_rising.l0 k x0 (wrap64 (x3 + 1)))) else (none)) else (none)) else (none)) else (some true)
def laws_rising.f (k : Nat) (l0 : List Int) : Option (Bool) := laws_rising.l0 k l0 1
theorem laws_rising.mono_l : ∀ k, (∀ y0 y1, LeO (laws_rising.l0 k y0 y1) (laws_rising.l0 (k + 1) y0 y1))
  | 0 => fun _ _ r h => by simp [laws_rising.l0] at h
  | k + 1 => by
    have ih0 := laws_rising.mono_l k
    · intro y0 y1
      unfold laws_rising.l0
      repeat' first
      | (with_reducible exact ih0 _ _)
      | (with_reducible exact LeO.refl _)
      | (with_reducible exact LeO.none _)
      | (with_reducible refine LeO.ite ?_ ?_)
      | (with_reducible refine LeO.bind ?_ (fun _ => ?_))
      | exact ih0 _ _
      | exact LeO.none _
      | refine LeO.ite ?_ ?_
      | refine LeO.bind ?_ (fun _ => ?_)
theorem laws_rising.mono : ∀ a0 k, LeO (laws_rising.f k a0) (laws_rising.f (k + 1) a0) := by
  intro a0 k
  have ih0 := laws_rising.mono_l k
  unfold laws_rising.f
  repeat' first
      | (with_reducible exact ih0 _ _)
      | (with_reducible exact LeO.refl _)
      | (with_reducible exact LeO.none _)
      | (with_reducible refine LeO.ite ?_ ?_)
      | (with_reducible refine LeO.bind ?_ (fun _ => ?_))
      | exact ih0 _ _
      | exact LeO.none _
      | refine LeO.ite ?_ ?_
      | refine LeO.bind ?_ (fun _ => ?_)
set_option maxHeartbeats 8000000 in
set_option maxRecDepth 100000 in
theorem laws_rising.calls (k : Nat) (A0 : Option Addr) (c0 : Nat) (l0 : List Int) (r : Bool) (w : World) (hr0 : Kd.C (Kd.int .i64) w A0 l0.length l0) (hc0 : l0.length ≤ c0) (h : laws_rising.f k l0 = some r) :
    Calls Try.prog 12 #[.slice A0 l0.length c0] w fun e w' => e = .returned (.bool r) ∧ Drawn0 w w' := by
  have HR0 := Aside0.mk hr0
  have HC0 := Aside0.mk hc0
  clear hr0 hc0
  have H : (laws_rising.l0 k l0 1) = some r := h
  clear h
  have H' := Aside0.mk H
  clear H
  go_enter Try.func12, Try.ntmps12
  go_wp2
  repeat (go_quiet (fail); try go_wp2)
  go_loopg [3] k (fun kq v3 w' => ∃ (x3_1 : Int), v3 = .int .i64 x3_1 ∧ Aside0 (laws_rising.l0 kq l0 x3_1 = some r) ∧ Aside0 (kq ≤ k) ∧ Drawn0 w w')
  case atStart => exact ⟨(1), (by first | rfl | (simp; done) | (simp [*]; done)), H', ⟨Nat.le_refl _⟩, by repeat (first | exact Drawn0.refl _ | apply Drawn0.step)⟩
  case round =>
    clear H'
    try clear c1
    obtain ⟨x3_1, rfl, HA, HK1, ⟨m1, rfl⟩⟩ := hrel
    cases gk with
    | zero => exact absurd HA.out (by simp [laws_rising.l0])
    | succ k1 =>
      have H := HA.out
      clear HA
      simp only [laws_rising.l0] at H
      by_cases c2 : x3_1 < (l0.length : Int)
      · rw [if_pos c2] at H
        have c2b0 : decide (x3_1 < (l0.length : Int)) = true := decide_eq_true c2
        clear c2
        obtain ⟨ji3, hji3⟩ : ∃ j_ : Int, (wrap64 (x3_1 - 1)) = j_ := ⟨_, rfl⟩
        replace H : (if 0 ≤ (ji3) then (if (ji3) < (l0.length : Int) then (if 0 ≤ x3_1 then (if (rd l0 (ji3)) ≥ (rd l0 x3_1) then (some false) else (laws_rising.l0 k1 l0 (wrap64 (x3_1 + 1)))) else (none)) else (none)) else (none)) = some r := by first | (rw [hji3] at H; exact H) | (simp only [hji3] at H ⊢; exact H)
        have hji3w : (IntKind.i64.wrap (x3_1 - 1)) = ji3 := (i64_w _).trans hji3
        by_cases c4 : 0 ≤ (ji3)
        · rw [if_pos c4] at H
          have c4b0 : decide (0 ≤ (ji3)) = true := decide_eq_true c4
          clear c4
          by_cases c5 : (ji3) < (l0.length : Int)
          · rw [if_pos c5] at H
            have c5b0 : decide ((ji3) < (l0.length : Int)) = true := decide_eq_true c5
            clear c5
            by_cases c6 : 0 ≤ x3_1
            · rw [if_pos c6] at H
              have c6b0 : decide (0 ≤ x3_1) = true := decide_eq_true c6
              clear c6
              by_cases c7 : (rd l0 (ji3)) ≥ (rd l0 x3_1)
              · rw [if_pos c7] at H
                have c7b0 : decide ((rd l0 x3_1) ≤ (rd l0 (ji3))) = true := decide_eq_true c7
                clear c7
                obtain rfl := Option.some.inj H
                have p153 : 0 ≤ ((ji3) : Int) := of_decide_eq_true (by first | (with_reducible assumption) | assumption)
                have q153 : (ji3) < (l0.length : Int) := of_decide_eq_true (by first | (with_reducible assumption) | assumption)
                obtain ⟨ad153, e153, hx153_0⟩ := Kd.at_int HR0.out (ji3) p153 q153
                cases e153
                replace p153 := eq_true p153
                replace q153 := eq_true q153
                have p154 : 0 ≤ (x3_1 : Int) := of_decide_eq_true (by first | (with_reducible assumption) | assumption)
                have q154 : x3_1 < (l0.length : Int) := of_decide_eq_true (by first | (with_reducible assumption) | assumption)
                obtain ⟨ad154, e154, hx154_0⟩ := Kd.at_int HR0.out x3_1 p154 q154
                obtain rfl : ad153 = ad154 := (by injection e154)
                replace p154 := eq_true p154
                replace q154 := eq_true q154
                go_wp2
                repeat (go_quiet (fail); try go_wp2)
                go_ret
                exact ⟨by first | rfl | (simp; done) | (simp only [← hji3] <;> (first | rfl | simp)) | (simp [*]; done), by repeat (first | exact Drawn0.refl _ | apply Drawn0.step)⟩
              · rw [if_neg c7] at H
                have c7b0 : decide ((rd l0 x3_1) ≤ (rd l0 (ji3))) = false := decide_eq_false c7
                clear c7
                have H' := Aside0.mk H
                clear H
                have p153 : 0 ≤ ((ji3) : Int) := of_decide_eq_true (by first | (with_reducible assumption) | assumption)
                have q153 : (ji3) < (l0.length : Int) := of_decide_eq_true (by first | (with_reducible assumption) | assumption)
                obtain ⟨ad153, e153, hx153_0⟩ := Kd.at_int HR0.out (ji3) p153 q153
                cases e153
                replace p153 := eq_true p153
                replace q153 := eq_true q153
                have p154 : 0 ≤ (x3_1 : Int) := of_decide_eq_true (by first | (with_reducible assumption) | assumption)
                have q154 : x3_1 < (l0.length : Int) := of_decide_eq_true (by first | (with_reducible assumption) | assumption)
                obtain ⟨ad154, e154, hx154_0⟩ := Kd.at_int HR0.out x3_1 p154 q154
                obtain rfl : ad153 = ad154 := (by injection e154)
                replace p154 := eq_true p154
                replace q154 := eq_true q154
                go_wp2
                repeat (go_quiet (fail); try go_wp2)
                go_roundg k1
                case measure => have := HK1.out; omega
                case rel => exact ⟨(wrap64 (x3_1 + 1)), (by first | rfl | (simp; done) | (simp [*]; done)), H', ⟨by have := HK1.out; omega⟩, by repeat (first | exact Drawn0.refl _ | apply Drawn0.step)⟩
            · rw [if_neg c6] at H
              exact absurd H (by simp)
          · rw [if_neg c5] at H
            exact absurd H (by simp)
        · rw [if_neg c4] at H
          exact absurd H (by simp)
      · rw [if_neg c2] at H
        have c2b0 : decide (x3_1 < (l0.length : Int)) = false := decide_eq_false c2
        clear c2
        obtain rfl := Option.some.inj H
        go_wp2
        repeat (go_quiet (fail); try go_wp2)
        go_ret
        exact ⟨by first | rfl | (simp; done) | (simp [*]; done), by repeat (first | exact Drawn0.refl _ | apply Drawn0.step)⟩

end Go.Proofs.Ytgiebjihceggjaa.PFnGenTree
