import Derived.Test.YtddklkgcodjijaaGreatAG0
import Derived.Test.YtddklkgcodjijaaGreatAG1
import Derived.Deep.RegionLawGrows
set_option linter.unusedVariables false
set_option linter.unusedSimpArgs false
/- Printed by a program (the kit's printer, run over contracts that were proved by hand). -/
namespace Go.Proofs.YtddklkgcodjijaaGreat.PL
open Go.RowKit Go.Proofs.YtddklkgcodjijaaGreatW.PrintWords Go.Proofs.YtddklkgcodjijaaGreatW.PrintLast Go.Proofs.YtddklkgcodjijaaGreatW.PrintMore
attribute [local go_sem] max2_int min2_int max_two min_two max_three min_three max_four min_four   -- for this text's walks alone

/-! ### laws_zzFits1: function 6 -/
def laws_zzFits1.f (a0_0 : Bool) (l0_1 : List Int) (l0_2 : List (S95)) : Option (Bool) := if (l0_1.length : Int) > 2147483647 then (some false) else (if (l0_2.length : Int) > 2147483647 then (some false) else (some true))
set_option maxHeartbeats 8000000 in
set_option maxRecDepth 100000 in
theorem laws_zzFits1.calls (a0_0 : Bool) (A0_1 : Option Addr) (c0_1 : Nat) (l0_1 : List Int) (A0_2 : Option Addr) (c0_2 : Nat) (l0_2 : List (S95)) (r : Bool) (w : World) (hr0_1 : Kd.C (Kd.int .i64) w A0_1 l0_1.length l0_1) (hc0_1 : l0_1.length ≤ c0_1) (hr0_2 : Kd.C k95 w A0_2 l0_2.length l0_2) (hc0_2 : l0_2.length ≤ c0_2) (h : laws_zzFits1.f a0_0 l0_1 l0_2 = some r) :
  Calls Tryz.prog 6 #[.agg #[.bool a0_0, .slice A0_1 l0_1.length c0_1, .slice A0_2 l0_2.length c0_2]] w fun e w' => e = .returned (.bool r) ∧ Below w.heap.size w w' := by
 have hu25 := Tryz.underlying25
 have HR0_1 := Aside0.mk hr0_1
 have HC0_1 := Aside0.mk hc0_1
 clear hr0_1 hc0_1
 have HR0_2 := Aside0.mk hr0_2
 have HC0_2 := Aside0.mk hc0_2
 clear hr0_2 hc0_2
 have HB := Aside0.mk (Below.refl w.heap.size w)
 have H : (if (l0_1.length : Int) > 2147483647 then (some false) else (if (l0_2.length : Int) > 2147483647 then (some false) else (some true))) = some r := h
 clear h
 by_cases c2 : (l0_1.length : Int) > 2147483647
 ·rw [if_pos c2] at H
  have c2b0 : decide (2147483647 < (l0_1.length : Int)) = true := decide_eq_true c2
  have c2b1 : decide (2147483647 < l0_1.length) = true := decide_eq_true (by omega)
  clear c2
  obtain rfl := Option.some.inj H
  go_enter Tryz.func6, Tryz.ntmps6
  go_wp2_with (first | ((with_reducible refine gate_dst (N := 1) rfl ?_); refine box_event ?hg (N := 1) ?hd (cs := #[.bool a0_0, .slice A0_1 l0_1.length c0_1, .slice A0_2 l0_2.length c0_2]) (t := 25) ?hr ?_; (case hd => rfl); (case hg => rfl); (case hr => first | (go_simp; done) | (go_simp; rfl)); intro gb101 hg w3 hbox hb; have n0_ := Aside0.mk (below_step (by repeat (first | (with_reducible first | exact HB.out | apply below_alloc | apply pw_below_drewN | apply below_drew1) | exact HB.out)) hb); have n1_ := Aside0.mk (hbox); have n2_ := Aside0.mk ((by rw [hg]; exact (below_size (by repeat (first | (with_reducible first | exact HB.out | apply below_alloc | apply pw_below_drewN | apply below_drew1) | exact HB.out))) : w.heap.size ≤ gb101)); have n3_ := Aside0.mk ((by rw [hg]; exact (below_size (by repeat (first | (with_reducible first | exact HB.out | apply below_alloc | apply pw_below_drewN | apply below_drew1) | exact HB.out))) : w.heap.size ≤ gb101)); clear HB; have HB := n0_; have BK101 := n1_; have GW101 := n2_; have GE101 := n3_; clear n0_ n1_ n2_ n3_; clear hb hbox hg; have hcz4_0 : w3.cell? ⟨gb101, 0, none⟩ = some (.bool a0_0) := (blk_cell BK101.out 0).trans rfl; have hcz4_1 : w3.cell? ⟨gb101, 1, none⟩ = some (.slice A0_1 l0_1.length c0_1) := (blk_cell BK101.out 1).trans rfl; have hcz4_2 : w3.cell? ⟨gb101, 2, none⟩ = some (.slice A0_2 l0_2.length c0_2) := (blk_cell BK101.out 2).trans rfl; have hfz4_0 := blk_frozen BK101.out 0; have hfz4_1 := blk_frozen BK101.out 1; have hfz4_2 := blk_frozen BK101.out 2))
  go_ret
  exact ⟨by first | rfl | (simp [errW_none, errW_some] <;> rfl) | (simp [*, errW_none, errW_some] <;> rfl), by repeat (first | (with_reducible first | exact HB.out | apply below_alloc | apply pw_below_drewN | apply below_drew1 | refine below_set ?_ GE101.out) | exact HB.out)⟩
 ·rw [if_neg c2] at H
  have c2b0 : decide (2147483647 < (l0_1.length : Int)) = false := decide_eq_false c2
  have c2b1 : decide (2147483647 < l0_1.length) = false := decide_eq_false (by omega)
  clear c2
  by_cases c5 : (l0_2.length : Int) > 2147483647
  ·rw [if_pos c5] at H
   have c5b0 : decide (2147483647 < (l0_2.length : Int)) = true := decide_eq_true c5
   have c5b1 : decide (2147483647 < l0_2.length) = true := decide_eq_true (by omega)
   clear c5
   obtain rfl := Option.some.inj H
   go_enter Tryz.func6, Tryz.ntmps6
   go_wp2_with (first | ((with_reducible refine gate_dst (N := 1) rfl ?_); refine box_event ?hg (N := 1) ?hd (cs := #[.bool a0_0, .slice A0_1 l0_1.length c0_1, .slice A0_2 l0_2.length c0_2]) (t := 25) ?hr ?_; (case hd => rfl); (case hg => rfl); (case hr => first | (go_simp; done) | (go_simp; rfl)); intro gb101 hg w6 hbox hb; have n0_ := Aside0.mk (below_step (by repeat (first | (with_reducible first | exact HB.out | apply below_alloc | apply pw_below_drewN | apply below_drew1) | exact HB.out)) hb); have n1_ := Aside0.mk (hbox); have n2_ := Aside0.mk ((by rw [hg]; exact (below_size (by repeat (first | (with_reducible first | exact HB.out | apply below_alloc | apply pw_below_drewN | apply below_drew1) | exact HB.out))) : w.heap.size ≤ gb101)); have n3_ := Aside0.mk ((by rw [hg]; exact (below_size (by repeat (first | (with_reducible first | exact HB.out | apply below_alloc | apply pw_below_drewN | apply below_drew1) | exact HB.out))) : w.heap.size ≤ gb101)); clear HB; have HB := n0_; have BK101 := n1_; have GW101 := n2_; have GE101 := n3_; clear n0_ n1_ n2_ n3_; clear hb hbox hg; have hcz7_0 : w6.cell? ⟨gb101, 0, none⟩ = some (.bool a0_0) := (blk_cell BK101.out 0).trans rfl; have hcz7_1 : w6.cell? ⟨gb101, 1, none⟩ = some (.slice A0_1 l0_1.length c0_1) := (blk_cell BK101.out 1).trans rfl; have hcz7_2 : w6.cell? ⟨gb101, 2, none⟩ = some (.slice A0_2 l0_2.length c0_2) := (blk_cell BK101.out 2).trans rfl; have hfz7_0 := blk_frozen BK101.out 0; have hfz7_1 := blk_frozen BK101.out 1; have hfz7_2 := blk_frozen BK101.out 2))
   go_ret
   exact ⟨by first | rfl | (simp [errW_none, errW_some] <;> rfl) | (simp [*, errW_none, errW_some] <;> rfl), by repeat (first | (with_reducible first | exact HB.out | apply below_alloc | apply pw_below_drewN | apply below_drew1 | refine below_set ?_ GE101.out) | exact HB.out)⟩
  ·rw [if_neg c5] at H
   have c5b0 : decide (2147483647 < (l0_2.length : Int)) = false := decide_eq_false c5
   have c5b1 : decide (2147483647 < l0_2.length) = false := decide_eq_false (by omega)
   clear c5
   obtain rfl := Option.some.inj H
   go_enter Tryz.func6, Tryz.ntmps6
   go_wp2_with (first | ((with_reducible refine gate_dst (N := 1) rfl ?_); refine box_event ?hg (N := 1) ?hd (cs := #[.bool a0_0, .slice A0_1 l0_1.length c0_1, .slice A0_2 l0_2.length c0_2]) (t := 25) ?hr ?_; (case hd => rfl); (case hg => rfl); (case hr => first | (go_simp; done) | (go_simp; rfl)); intro gb101 hg w8 hbox hb; have n0_ := Aside0.mk (below_step (by repeat (first | (with_reducible first | exact HB.out | apply below_alloc | apply pw_below_drewN | apply below_drew1) | exact HB.out)) hb); have n1_ := Aside0.mk (hbox); have n2_ := Aside0.mk ((by rw [hg]; exact (below_size (by repeat (first | (with_reducible first | exact HB.out | apply below_alloc | apply pw_below_drewN | apply below_drew1) | exact HB.out))) : w.heap.size ≤ gb101)); have n3_ := Aside0.mk ((by rw [hg]; exact (below_size (by repeat (first | (with_reducible first | exact HB.out | apply below_alloc | apply pw_below_drewN | apply below_drew1) | exact HB.out))) : w.heap.size ≤ gb101)); clear HB; have HB := n0_; have BK101 := n1_; have GW101 := n2_; have GE101 := n3_; clear n0_ n1_ n2_ n3_; clear hb hbox hg; have hcz9_0 : w8.cell? ⟨gb101, 0, none⟩ = some (.bool a0_0) := (blk_cell BK101.out 0).trans rfl; have hcz9_1 : w8.cell? ⟨gb101, 1, none⟩ = some (.slice A0_1 l0_1.length c0_1) := (blk_cell BK101.out 1).trans rfl; have hcz9_2 : w8.cell? ⟨gb101, 2, none⟩ = some (.slice A0_2 l0_2.length c0_2) := (blk_cell BK101.out 2).trans rfl; have hfz9_0 := blk_frozen BK101.out 0; have hfz9_1 := blk_frozen BK101.out 1; have hfz9_2 := blk_frozen BK101.out 2))
   go_ret
   exact ⟨by first | rfl | (simp [errW_none, errW_some] <;> rfl) | (simp [*, errW_none, errW_some] <;> rfl), by repeat (first | (with_reducible first | exact HB.out | apply below_alloc | apply pw_below_drewN | apply below_drew1 | refine below_set ?_ GE101.out) | exact HB.out)⟩

-- GIVEN: function 74 (slices_Clone_int_int)

/-! ### laws_sorted: function 40 -/
mutual
def laws_sorted.l0 : Nat → List Int → Int → Option (List Int)
 | 0, _, _ => none
 | k + 1, x3, x4 => if x4 < (x3.length : Int) then (laws_sorted.l1 k x3 x4 x4) else (some x3)
def laws_sorted.l1 : Nat → List Int → Int → Int → Option (List Int)
 | 0, _, _, _ => none
 | k + 1, x3, x4, x5 => if x5 > 0 then (if 0 ≤ x5 then (if x5 < (x3.length : Int) then (if 0 ≤ (wrap64 (x5 - 1)) then (if (wrap64 (x5 - 1)) < (x3.length : Int) then (if (rd x3 x5) < (rd x3 (wrap64 (x5 - 1))) then (laws_sorted.l1 k ((x3.set (x5 : Int).toNat (rd x3 (wrap64 (x5 - 1)))).set ((wrap64 (x5 - 1)) : Int).toNat (rd x3 x5)) x4 (wrap64 (x5 - 1))) else (laws_sorted.l0 k x3 (wrap64 (x4 + 1)))) else (none)) else (none)) else (none)) else (none)) else (laws_sorted.l0 k x3 (wrap64 (x4 + 1)))
end
def laws_sorted.f (k : Nat) (l0 : List Int) : Option (List Int) := (slices_Clone_int_int.f l0).bind fun t102 => (laws_sorted.l0 k t102 1)
theorem laws_sorted.mono_l : ∀ k, (∀ y0 y1, LeO (laws_sorted.l0 k y0 y1) (laws_sorted.l0 (k + 1) y0 y1)) ∧ (∀ y0 y1 y2, LeO (laws_sorted.l1 k y0 y1 y2) (laws_sorted.l1 (k + 1) y0 y1 y2))
 | 0 => ⟨fun _ _ r h => by simp [laws_sorted.l0] at h, fun _ _ _ r h => by simp [laws_sorted.l1] at h⟩
 | k + 1 => by
  obtain ⟨ih0, ih1⟩ := laws_sorted.mono_l k
  refine ⟨?_, ?_⟩
  ·intro y0 y1
   unfold laws_sorted.l0
   repeat' first
   | (with_reducible exact ih0 _ _)
   | (with_reducible exact ih1 _ _ _)
   | (with_reducible exact LeO.refl _)
   | (with_reducible exact LeO.none _)
   | (with_reducible refine LeO.ite ?_ ?_)
   | (with_reducible refine LeO.bind ?_ (fun _ => ?_))
   | exact ih0 _ _
   | exact ih1 _ _ _
   | exact LeO.none _
   | refine LeO.ite ?_ ?_
   | refine LeO.bind ?_ (fun _ => ?_)
  ·intro y0 y1 y2
   unfold laws_sorted.l1
   repeat' first
   | (with_reducible exact ih0 _ _)
   | (with_reducible exact ih1 _ _ _)
   | (with_reducible exact LeO.refl _)
   | (with_reducible exact LeO.none _)
   | (with_reducible refine LeO.ite ?_ ?_)
   | (with_reducible refine LeO.bind ?_ (fun _ => ?_))
   | exact ih0 _ _
   | exact ih1 _ _ _
   | exact LeO.none _
   | refine LeO.ite ?_ ?_
   | refine LeO.bind ?_ (fun _ => ?_)
theorem laws_sorted.mono : ∀ a0 k, LeO (laws_sorted.f k a0) (laws_sorted.f (k + 1) a0) := by
 intro a0 k
 obtain ⟨ih0, ih1⟩ := laws_sorted.mono_l k
 unfold laws_sorted.f
 repeat' first
   | (with_reducible exact ih0 _ _)
   | (with_reducible exact ih1 _ _ _)
   | (with_reducible exact LeO.refl _)
   | (with_reducible exact LeO.none _)
   | (with_reducible refine LeO.ite ?_ ?_)
   | (with_reducible refine LeO.bind ?_ (fun _ => ?_))
   | exact ih0 _ _
   | exact ih1 _ _ _
   | exact LeO.none _
   | refine LeO.ite ?_ ?_
   | refine LeO.bind ?_ (fun _ => ?_)
def laws_sorted.T6 : Bool × List (List Nat × List Nat) := (true, [([], []), ([0], [0]), ([1], [1]), ([2], [2]), ([2], [2]), ([3, 4, 2], [2, 3, 4]), ([5, 2], [2, 5]), ([2], [2]), ([2], [2]), ([8, 2], [2, 8]), ([7, 9, 2], [2, 7, 9]), ([10, 2], [2, 10]), ([6, 11, 2], [2, 6, 11]), ([2, 12], [2, 12])])
def laws_sorted.B6 : List Nat := [0, 1, 3, 7, 7, 31, 63, 7, 7, 263, 903, 1927, 4095, 8191]
theorem laws_sorted.tab6 : rtab .any (opsOf Tryz.f40 6) = laws_sorted.T6 := by kernel_rfl
theorem laws_sorted.bits6 : waitsOk laws_sorted.T6.2 laws_sorted.B6 = true := by kernel_rfl
def laws_sorted.T8 : Bool × List (List Nat × List Nat) := (true, [([], []), ([], []), ([], []), ([], []), ([3], [3]), ([], []), ([], []), ([6], [6]), ([5, 7], [5, 7]), ([8], [8]), ([], []), ([], []), ([10, 11], [10, 11]), ([12], [12]), ([0, 1, 0, 1, 5, 6, 7, 8, 9, 13], [0, 1]), ([14, 9, 0, 1, 5, 6, 7, 8, 9, 13], [9, 14]), ([2, 4, 0, 1, 2, 3, 4, 5, 6, 7, 8, 9, 10, 11, 12, 13, 14, 15], [2, 4]), ([16, 13, 15, 0, 1, 2, 3, 4, 5, 6, 7, 8, 9, 10, 11, 12, 13, 14, 15], [13, 16])])
def laws_sorted.B8 : List Nat := [0, 0, 0, 0, 8, 0, 0, 64, 224, 480, 0, 0, 3072, 7168, 16355, 32739, 65535, 131071]
theorem laws_sorted.tab8 : rtab .any (opsOf Tryz.f40 8) = laws_sorted.T8 := by kernel_rfl
theorem laws_sorted.bits8 : waitsOk laws_sorted.T8.2 laws_sorted.B8 = true := by kernel_rfl
set_option maxHeartbeats 8000000 in
set_option maxRecDepth 100000 in
theorem laws_sorted.calls (k : Nat) (A0 : Option Addr) (c0 : Nat) (l0 : List Int) (r : List Int) (w : World) (hr0 : Kd.C (Kd.int .i64) w A0 l0.length l0) (hc0 : l0.length ≤ c0) (h : laws_sorted.f k l0 = some r) :
  Calls Tryz.prog 40 #[.slice A0 l0.length c0] w fun e w' => ∃ v0_ : Value, e = .returned (v0_) ∧ Kd.R (Kd.int .i64) 3 w' w.heap.size (fun _ => True) v0_ r ∧ Below w.heap.size w w' := by
 have HR0 := Aside0.mk hr0
 have HC0 := Aside0.mk hc0
 clear hr0 hc0
 have HB := Aside0.mk (Below.refl w.heap.size w)
 have H : ((slices_Clone_int_int.f l0).bind fun t102 => (laws_sorted.l0 k t102 1)) = some r := h
 clear h
 replace H := Option.bind_eq_some_iff.mp H
 obtain ⟨t102, A20, H⟩ := H
 replace H : (laws_sorted.l0 k t102 1) = some r := H
 have A2 := Aside0.mk A20
 clear A20
 have H' := Aside0.mk H
 clear H
 go_enter Tryz.func40, Tryz.ntmps40
 go_wp2_with (first | ((with_reducible refine gate_callee (f := 74) rfl ?_); refine goesL_ (some 7) rfl rfl Tryz.func74 (by kernel_rfl) rfl #[.slice A0 l0.length c0] rfl (by (try simp only [List.map_toArray, List.map_cons, List.map_nil]); first | done | rfl | (simp only [List.length_drop, List.length_take]; rfl)) ?_; (with_reducible refine (slices_Clone_int_int.calls _ _ l0 t102 _ ?side1 ?side2 A2.out).mono ?_); (case side1 => repeat (first | exact HR0.out | (with_reducible refine Kd.C_alloc ?_ _) | (with_reducible refine Kd.C_drewN ?_ _) | (with_reducible refine Kd.C_drew ?_))); (case side2 => exact HC0.out); rintro e w3 ⟨v103, rfl, ho0, hb⟩; refine ⟨_, rfl, ?_⟩; have n0_ := Aside0.mk (Kd.R_lower ho0 (below_size (by repeat (first | (with_reducible first | exact HB.out | apply below_alloc | apply pw_below_drewN | apply below_drew1) | exact HB.out)))); have n1_ := Aside0.mk (below_step (by repeat (first | (with_reducible first | exact HB.out | apply below_alloc | apply pw_below_drewN | apply below_drew1) | exact HB.out)) hb); clear HB; have HO104 := n0_; have HB := n1_; clear n0_ n1_; (try clear hb); (try clear hb2); (try clear hk); (try clear hi); (try clear ho0)))
 go_loopg [4] k (fun kq v4 w' => ∃ (x3_1 : List Int) (x4_1 : Int), v4 = .int .i64 x4_1 ∧ Aside0 (laws_sorted.l0 kq x3_1 x4_1 = some r) ∧ Aside0 (kq ≤ k) ∧ Aside0 (Kd.R (Kd.int .i64) 3 w' w.heap.size (fun _ => True) v103 x3_1) ∧ Aside0 (Below w.heap.size w w'))
 case atStart => exact ⟨(t102), (1), (by first | rfl | (simp; done) | (simp [*]; done)), H', ⟨Nat.le_refl _⟩, ⟨by (with_reducible repeat (first | apply Kd.R_alloc | apply Kd.R_drewN | apply Kd.R_drew)); exact HO104.out⟩, ⟨by repeat (first | (with_reducible first | exact HB.out | apply below_alloc | apply pw_below_drewN | apply below_drew1) | exact HB.out)⟩⟩
 case round =>
  clear H'
  try clear p2
  obtain ⟨x3_1, x4_1, rfl, HA, HK1, HO_3, HB⟩ := hrel
  cases gk with
  | zero => exact absurd HA.out (by simp [laws_sorted.l0])
  | succ k1 =>
   have H := HA.out
   clear HA
   simp only [laws_sorted.l0] at H
   by_cases c4 : x4_1 < (x3_1.length : Int)
   ·rw [if_pos c4] at H
    have c4b0 : decide (x4_1 < (x3_1.length : Int)) = true := decide_eq_true c4
    clear c4
    have H' := Aside0.mk H
    clear H
    obtain ⟨Ao5, co5, eo5⟩ := Kd.R_slice HO_3.out
    subst eo5
    go_wp2
    go_loopg [5] k1 (fun kq v5 w' => ∃ (x3_2 : List Int) (x5_2 : Int), v5 = .int .i64 x5_2 ∧ Aside0 (laws_sorted.l1 kq x3_2 x4_1 x5_2 = some r) ∧ Aside0 (kq ≤ k1) ∧ Aside0 (Kd.R (Kd.int .i64) 3 w' w.heap.size (fun _ => True) (.slice Ao5 x3_1.length co5) x3_2) ∧ Aside0 (Below w.heap.size w w'))
    case atStart => exact ⟨(x3_1), (x4_1), (by first | rfl | (simp; done) | (simp [*]; done)), H', ⟨Nat.le_refl _⟩, ⟨by (with_reducible repeat (first | apply Kd.R_alloc | apply Kd.R_drewN | apply Kd.R_drew)); exact HO_3.out⟩, ⟨by repeat (first | (with_reducible first | exact HB.out | apply below_alloc | apply pw_below_drewN | apply below_drew1) | exact HB.out)⟩⟩
    case round =>
     clear H'
     try clear p2
     try clear c4
     try clear c4b0
     try clear p2
     obtain ⟨x3_2, x5_2, rfl, HA, HK2, HO_3, HB⟩ := hrel
     have hl3_2 := (Kd.R_reads' HO_3.out).1
     rw [hl3_2] at HO_3
     (try simp only [hl3_2])
     cases gk with
     | zero => exact absurd HA.out (by simp [laws_sorted.l1])
     | succ k2 =>
      have H := HA.out
      clear HA
      simp only [laws_sorted.l1] at H
      by_cases c6 : x5_2 > 0
      ·rw [if_pos c6] at H
       have c6b0 : decide (0 < x5_2) = true := decide_eq_true c6
       clear c6
       by_cases c7 : 0 ≤ x5_2
       ·rw [if_pos c7] at H
        have c7b0 : decide (0 ≤ x5_2) = true := decide_eq_true c7
        clear c7
        by_cases c8 : x5_2 < (x3_2.length : Int)
        ·rw [if_pos c8] at H
         have c8b0 : decide (x5_2 < (x3_2.length : Int)) = true := decide_eq_true c8
         clear c8
         obtain ⟨ji9, hji9⟩ : ∃ j_ : Int, (wrap64 (x5_2 - 1)) = j_ := ⟨_, rfl⟩
         replace H : (if 0 ≤ (ji9) then (if (ji9) < (x3_2.length : Int) then (if (rd x3_2 x5_2) < (rd x3_2 (ji9)) then (laws_sorted.l1 k2 ((x3_2.set (x5_2 : Int).toNat (rd x3_2 (ji9))).set ((ji9) : Int).toNat (rd x3_2 x5_2)) x4_1 ji9) else (laws_sorted.l0 k2 x3_2 (wrap64 (x4_1 + 1)))) else (none)) else (none)) = some r := by first | (rw [hji9] at H; exact H) | (simp only [hji9] at H ⊢; exact H)
         have hji9w : (IntKind.i64.wrap (x5_2 - 1)) = ji9 := (i64_w _).trans hji9
         by_cases c10 : 0 ≤ (ji9)
         ·rw [if_pos c10] at H
          have c10b0 : decide (0 ≤ (ji9)) = true := decide_eq_true c10
          clear c10
          by_cases c11 : (ji9) < (x3_2.length : Int)
          ·rw [if_pos c11] at H
           have c11b0 : decide ((ji9) < (x3_2.length : Int)) = true := decide_eq_true c11
           clear c11
           by_cases c12 : (rd x3_2 x5_2) < (rd x3_2 (ji9))
           ·rw [if_pos c12] at H
            have c12b0 : decide ((rd x3_2 x5_2) < (rd x3_2 (ji9))) = true := decide_eq_true c12
            clear c12
            obtain ⟨y109, hy109⟩ : ∃ y_ : List Int, y_ = (x3_2.set (x5_2 : Int).toNat (rd x3_2 (ji9))) := ⟨_, rfl⟩
            replace H : (laws_sorted.l1 k2 (y109.set ((ji9) : Int).toNat (rd x3_2 x5_2)) x4_1 ji9) = some r := by first | (rw [hy109]; with_reducible exact H) | (have H2_ := (Option.bind_some _ _).symm.trans H; rw [hy109]; with_reducible exact H2_) | (have H2_ := (Option.bind_some _ _).symm.trans H; with_reducible exact H2_) | with_reducible exact H | (rw [hy109]; exact H) | exact H
            have Ny109 := Aside0.mk hy109
            clear hy109
            obtain ⟨y110, hy110⟩ : ∃ y_ : List Int, y_ = (y109.set ((ji9) : Int).toNat (rd x3_2 x5_2)) := ⟨_, rfl⟩
            replace H : (laws_sorted.l1 k2 y110 x4_1 ji9) = some r := by first | (rw [hy110]; with_reducible exact H) | (have H2_ := (Option.bind_some _ _).symm.trans H; rw [hy110]; with_reducible exact H2_) | (have H2_ := (Option.bind_some _ _).symm.trans H; with_reducible exact H2_) | with_reducible exact H | (rw [hy110]; exact H) | exact H
            have Ny110 := Aside0.mk hy110
            clear hy110
            have H' := Aside0.mk H
            clear H
            try go_wp2
            have n0_ := Aside0.mk (Kd.R_drew HO_3.out)
            have n1_ := Aside0.mk (below_drew1 HB.out)
            clear HO_3
            clear HB
            have HO_3 := n0_
            have HB := n1_
            clear n0_ n1_
            have p105 : 0 ≤ (x5_2 : Int) := of_decide_eq_true (by first | (with_reducible assumption) | assumption)
            have q105 : x5_2 < (x3_2.length : Int) := of_decide_eq_true (by first | (with_reducible assumption) | assumption)
            obtain ⟨ad105, e105, hx105_0⟩ := Kd.at_int (Kd.R_reads' HO_3.out).2.2 x5_2 p105 q105
            cases e105
            replace p105 := eq_true p105
            replace q105 := eq_true q105
            have p106 : 0 ≤ ((ji9) : Int) := of_decide_eq_true (by first | (with_reducible assumption) | assumption)
            have q106 : (ji9) < (x3_2.length : Int) := of_decide_eq_true (by first | (with_reducible assumption) | assumption)
            obtain ⟨ad106, e106, hx106_0⟩ := Kd.at_int (Kd.R_reads' HO_3.out).2.2 (ji9) p106 q106
            obtain rfl : ad105 = ad106 := (by injection e106)
            replace p106 := eq_true p106
            replace q106 := eq_true q106
            refine start_ (n := 14) (S := fun w' => w'.cell? (ad105.add (x5_2).toNat) = some (.int .i64 (rd x3_2 x5_2)) ∧ w'.cell? (ad105.add ((ji9)).toNat) = some (.int .i64 (rd x3_2 (ji9)))) (ds := []) #[false, false, false, false, false, false, false, false, false, false, false, false, false, false] (by kernel_rfl) rfl rfl ⟨hx105_0, hx106_0⟩ (fun hHeld => ?_); refine with_tabW laws_sorted.tab6 laws_sorted.bits6 (fun HT_ HW_ => ?_)
            generalize wr.drew = w15 at HO_3 HB hx105_0 hx106_0 hHeld ⊢
            refine pure_ (i := 0) (N := some 15) (v := ?_) (a' := ?_) #[true, false, false, false, false, false, false, false, false, false, false, false, false, false] rfl rfl (any_of HT_.out (by kernel_rfl)) (fun _ _ _ h => h) (Or.inl ⟨by rfl, ?_⟩) ?_ ?_
            rotate_left
            ·intro w'
             go_simp
             with_reducible rfl
            rotate_left
            ·simp only [Act.put, List.setIfInBounds_toArray, List.set_cons_zero, List.set_cons_succ, i64_w, i32_w]
             rfl
            refine pure_ (i := 1) (N := some 16) (v := ?_) (a' := ?_) #[true, true, false, false, false, false, false, false, false, false, false, false, false, false] rfl rfl (any_of HT_.out (by kernel_rfl)) (fun _ _ _ h => h) (Or.inl ⟨by rfl, ?_⟩) ?_ ?_
            rotate_left
            ·intro w'
             go_simp
             with_reducible rfl
            rotate_left
            ·simp only [Act.put, List.setIfInBounds_toArray, List.set_cons_zero, List.set_cons_succ, i64_w, i32_w]
             rfl
            refine pure_ (i := 2) (N := some 17) (v := ?_) (a' := ?_) #[true, true, true, false, false, false, false, false, false, false, false, false, false, false] rfl rfl (any_of HT_.out (by kernel_rfl)) (fun _ _ _ h => h) (Or.inl ⟨by rfl, ?_⟩) ?_ ?_
            rotate_left
            ·intro w'
             go_simp
             with_reducible rfl
            rotate_left
            ·simp only [Act.put, List.setIfInBounds_toArray, List.set_cons_zero, List.set_cons_succ, i64_w, i32_w]
             rfl
            refine pure_ (i := 3) (N := some 18) (v := ?_) (a' := ?_) #[true, true, true, true, false, false, false, false, false, false, false, false, false, false] rfl rfl (any_of HT_.out (by kernel_rfl)) (fun _ _ _ h => h) (Or.inl ⟨by rfl, ?_⟩) ?_ ?_
            rotate_left
            ·intro w'
             go_simp
             with_reducible rfl
            rotate_left
            ·simp only [Act.put, List.setIfInBounds_toArray, List.set_cons_zero, List.set_cons_succ, i64_w, i32_w]
             rfl
            refine pure_ (i := 4) (N := some 19) (v := ?_) (a' := ?_) #[true, true, true, true, true, false, false, false, false, false, false, false, false, false] rfl rfl (any_of HT_.out (by kernel_rfl)) (fun _ _ _ h => h) (Or.inl ⟨by rfl, ?_⟩) ?_ ?_
            rotate_left
            ·intro w'
             go_simp
             with_reducible rfl
            rotate_left
            ·simp only [Act.put, List.setIfInBounds_toArray, List.set_cons_zero, List.set_cons_succ, i64_w, i32_w]
             rfl
            refine pure_ (i := 5) (N := some 20) (v := ?_) (a' := ?_) #[true, true, true, true, true, true, false, false, false, false, false, false, false, false] rfl rfl (any_of HT_.out (by kernel_rfl)) (fun _ _ _ h => h) (Or.inl ⟨by rfl, ?_⟩) ?_ ?_
            rotate_left
            ·intro w'
             go_simp
             with_reducible rfl
            rotate_left
            ·simp only [Act.put, List.setIfInBounds_toArray, List.set_cons_zero, List.set_cons_succ, i64_w, i32_w]
             rfl
            refine pure_ (i := 7) (N := some 22) (v := ?_) (a' := ?_) #[true, true, true, true, true, true, false, true, false, false, false, false, false, false] rfl rfl (any_of HT_.out (by kernel_rfl)) (fun _ _ _ h => h) (Or.inl ⟨by rfl, ?_⟩) ?_ ?_
            rotate_left
            ·intro w'
             go_simp
             with_reducible rfl
            rotate_left
            ·simp only [Act.put, List.setIfInBounds_toArray, List.set_cons_zero, List.set_cons_succ, i64_w, i32_w]
             rfl
            refine pure_ (i := 8) (N := some 23) (v := ?_) (a' := ?_) #[true, true, true, true, true, true, false, true, true, false, false, false, false, false] rfl rfl (any_of HT_.out (by kernel_rfl)) (fun _ _ _ h => h) (Or.inl ⟨by rfl, ?_⟩) ?_ ?_
            rotate_left
            ·intro w'
             go_simp
             with_reducible rfl
            rotate_left
            ·simp only [Act.put, List.setIfInBounds_toArray, List.set_cons_zero, List.set_cons_succ, i64_w, i32_w]
             rfl
            refine pure_ (i := 9) (N := some 24) (v := ?_) (a' := ?_) #[true, true, true, true, true, true, false, true, true, true, false, false, false, false] rfl rfl (any_of HT_.out (by kernel_rfl)) (fun _ _ _ h => h) (Or.inl ⟨by rfl, ?_⟩) ?_ ?_
            rotate_left
            ·intro w'
             go_simp
             with_reducible rfl
            rotate_left
            ·simp only [Act.put, List.setIfInBounds_toArray, List.set_cons_zero, List.set_cons_succ, i64_w, i32_w]
             rfl
            refine pure_ (i := 10) (N := some 25) (v := ?_) (a' := ?_) #[true, true, true, true, true, true, false, true, true, true, true, false, false, false] rfl rfl (any_of HT_.out (by kernel_rfl)) (fun _ _ _ h => h) (Or.inl ⟨by rfl, ?_⟩) ?_ ?_
            rotate_left
            ·intro w'
             go_simp
             with_reducible rfl
            rotate_left
            ·simp only [Act.put, List.setIfInBounds_toArray, List.set_cons_zero, List.set_cons_succ, i64_w, i32_w]
             rfl
            refine take_ (i := 6) (N := some 21) (v := ?_) (a' := ?_) #[true, true, true, true, true, true, true, true, true, true, true, false, false, false] rfl rfl (take_ofW HT_.out HW_.out (by kernel_rfl)) (fun _ _ _ h => h) (Or.inl ⟨by rfl, ?_⟩) hHeld ?_ ?_
            rotate_left
            ·rintro w' ⟨s0, s1⟩
             go_simp
             with_reducible rfl
            rotate_left
            ·simp only [Act.put, List.setIfInBounds_toArray, List.set_cons_zero, List.set_cons_succ, i64_w, i32_w]
             rfl
            refine take_ (i := 11) (N := some 26) (v := ?_) (a' := ?_) #[true, true, true, true, true, true, true, true, true, true, true, true, false, false] rfl rfl (take_ofW HT_.out HW_.out (by kernel_rfl)) (fun _ _ _ h => h) (Or.inl ⟨by rfl, ?_⟩) hHeld ?_ ?_
            rotate_left
            ·rintro w' ⟨s0, s1⟩
             go_simp
             with_reducible rfl
            rotate_left
            ·simp only [Act.put, List.setIfInBounds_toArray, List.set_cons_zero, List.set_cons_succ, i64_w, i32_w]
             rfl
            refine pure_ (i := 12) (N := some 27) (v := ?_) (a' := ?_) #[true, true, true, true, true, true, true, true, true, true, true, true, true, false] rfl rfl (any_of HT_.out (by kernel_rfl)) (fun _ _ _ h => h) (Or.inl ⟨by rfl, ?_⟩) ?_ ?_
            rotate_left
            ·intro w'
             go_simp
             with_reducible rfl
            rotate_left
            ·simp only [Act.put, List.setIfInBounds_toArray, List.set_cons_zero, List.set_cons_succ, i64_w, i32_w]
             rfl
            refine pure_ (i := 13) (N := some 28) (v := ?_) (a' := ?_) #[true, true, true, true, true, true, true, true, true, true, true, true, true, true] rfl rfl (any_of HT_.out (by kernel_rfl)) (fun _ _ _ h => h) (Or.inl ⟨by rfl, ?_⟩) ?_ ?_
            rotate_left
            ·intro w'
             go_simp
             with_reducible rfl
            rotate_left
            ·simp only [Act.put, List.setIfInBounds_toArray, List.set_cons_zero, List.set_cons_succ, i64_w, i32_w]
             rfl
            refine done_ (done_of HT_.out (by kernel_rfl)) ?_
            try go_wp2
            have n0_ := Aside0.mk (Kd.R_drew HO_3.out)
            have n1_ := Aside0.mk (below_drew1 HB.out)
            clear HO_3
            clear HB
            have HO_3 := n0_
            have HB := n1_
            clear n0_ n1_
            have p107 : 0 ≤ ((ji9) : Int) := of_decide_eq_true (by first | (with_reducible assumption) | assumption)
            have q107 : (ji9) < (x3_2.length : Int) := of_decide_eq_true (by first | (with_reducible assumption) | assumption)
            obtain ⟨ad107, e107, hx107_0⟩ := Kd.at_int (Kd.R_reads' HO_3.out).2.2 (ji9) p107 q107
            obtain rfl : ad105 = ad107 := (by injection e107)
            replace p107 := eq_true p107
            replace q107 := eq_true q107
            have p108 : 0 ≤ (x5_2 : Int) := of_decide_eq_true (by first | (with_reducible assumption) | assumption)
            have q108 : x5_2 < (x3_2.length : Int) := of_decide_eq_true (by first | (with_reducible assumption) | assumption)
            obtain ⟨ad108, e108, hx108_0⟩ := Kd.at_int (Kd.R_reads' HO_3.out).2.2 x5_2 p108 q108
            obtain rfl : ad105 = ad108 := (by injection e108)
            replace p108 := eq_true p108
            replace q108 := eq_true q108
            have p13 : 0 ≤ (x5_2 : Int) := of_decide_eq_true (by first | (with_reducible assumption) | assumption)
            have q13 : (x5_2 : Int) < ((x3_2.length : Int) : Int) := of_decide_eq_true (by first | (with_reducible assumption) | assumption)
            obtain ⟨go13, co13, eo13, gb13, gl13, cl13, HG13⟩ := Kd.R_form HO_3.out (by omega)
            (first | cases eo13 | (injection eo13 with ea_ en_ ec_; (first | subst ea_ | (injection ea_ with ea_; subst ea_)); subst ec_; clear en_))
            have GB13 := Aside0.mk gb13
            have GG13 := Aside0.mk HG13
            clear gb13 gl13 HG13
            (first | simp only [add_plain] at hx105_0 | skip)
            (first | simp only [add_plain] at hx106_0 | skip)
            (first | simp only [add_plain] at hx107_0 | skip)
            (first | simp only [add_plain] at hx108_0 | skip)
            obtain ⟨hx13_0, hf13_0⟩ := Kd.R_celln 0 HO_3.out (x5_2 : Int) p13 q13
            replace p13 := eq_true p13
            replace q13 := eq_true q13
            have HP17 := Kd.R_putn HO_3.out (x5_2 : Int) (rd x3_2 (ji9))
            rw [← Ny109.out] at HP17
            have HQ17 := Aside0.mk HP17
            clear HP17
            have p14 : 0 ≤ ((ji9) : Int) := of_decide_eq_true (by first | (with_reducible assumption) | assumption)
            have q14 : ((ji9) : Int) < ((x3_2.length : Int) : Int) := of_decide_eq_true (by first | (with_reducible assumption) | assumption)
            obtain ⟨hx14_0, hf14_0⟩ := Kd.R_celln 0 HQ17.out ((ji9) : Int) p14 q14
            replace p14 := eq_true p14
            replace q14 := eq_true q14
            have HP18 := Kd.R_putn HQ17.out ((ji9) : Int) (rd x3_2 x5_2)
            rw [← Ny110.out] at HP18
            have HQ18 := Aside0.mk HP18
            clear HP18
            refine start_ (n := 18) (S := fun w' => w'.cell? ⟨go13, ((ji9)).toNat, none⟩ = some (.int .i64 (rd x3_2 (ji9))) ∧ w'.cell? ⟨go13, (x5_2).toNat, none⟩ = some (.int .i64 (rd x3_2 x5_2))) (ds := [15, 17]) #[false, false, false, false, false, false, false, false, false, false, false, false, false, false, false, false, false, false] (by kernel_rfl) rfl rfl ⟨hx107_0, hx108_0⟩ (fun hHeld => ?_); refine with_tabW laws_sorted.tab8 laws_sorted.bits8 (fun HT_ HW_ => ?_)
            generalize w15.drew = w16 at HO_3 HB GG13 HQ17 HQ18 hf13_0 hf14_0 hx105_0 hx106_0 hx107_0 hx108_0 hx13_0 hx14_0 hHeld ⊢
            refine pure_ (i := 0) (N := some 31) (v := ?_) (a' := ?_) #[true, false, false, false, false, false, false, false, false, false, false, false, false, false, false, false, false, false] rfl rfl (any_of HT_.out (by kernel_rfl)) (fun _ _ _ h => h) (Or.inl ⟨by rfl, ?_⟩) ?_ ?_
            rotate_left
            ·intro w'
             go_simp
             with_reducible rfl
            rotate_left
            ·simp only [Act.put, List.setIfInBounds_toArray, List.set_cons_zero, List.set_cons_succ, i64_w, i32_w]
             rfl
            refine pure_ (i := 1) (N := some 32) (v := ?_) (a' := ?_) #[true, true, false, false, false, false, false, false, false, false, false, false, false, false, false, false, false, false] rfl rfl (any_of HT_.out (by kernel_rfl)) (fun _ _ _ h => h) (Or.inl ⟨by rfl, ?_⟩) ?_ ?_
            rotate_left
            ·intro w'
             go_simp
             with_reducible rfl
            rotate_left
            ·simp only [Act.put, List.setIfInBounds_toArray, List.set_cons_zero, List.set_cons_succ, i64_w, i32_w]
             rfl
            refine pure_ (i := 2) (N := some 33) (v := ?_) (a' := ?_) #[true, true, true, false, false, false, false, false, false, false, false, false, false, false, false, false, false, false] rfl rfl (any_of HT_.out (by kernel_rfl)) (fun _ _ _ h => h) (Or.inl ⟨by rfl, ?_⟩) ?_ ?_
            rotate_left
            ·intro w'
             go_simp
             with_reducible rfl
            rotate_left
            ·simp only [Act.put, List.setIfInBounds_toArray, List.set_cons_zero, List.set_cons_succ, i64_w, i32_w]
             rfl
            refine pure_ (i := 3) (N := some 34) (v := ?_) (a' := ?_) #[true, true, true, true, false, false, false, false, false, false, false, false, false, false, false, false, false, false] rfl rfl (any_of HT_.out (by kernel_rfl)) (fun _ _ _ h => h) (Or.inl ⟨by rfl, ?_⟩) ?_ ?_
            rotate_left
            ·intro w'
             go_simp
             with_reducible rfl
            rotate_left
            ·simp only [Act.put, List.setIfInBounds_toArray, List.set_cons_zero, List.set_cons_succ, i64_w, i32_w]
             rfl
            refine pure_ (i := 4) (N := some 35) (v := ?_) (a' := ?_) #[true, true, true, true, true, false, false, false, false, false, false, false, false, false, false, false, false, false] rfl rfl (any_of HT_.out (by kernel_rfl)) (fun _ _ _ h => h) (Or.inl ⟨by rfl, ?_⟩) ?_ ?_
            rotate_left
            ·intro w'
             go_simp
             with_reducible rfl
            rotate_left
            ·simp only [Act.put, List.setIfInBounds_toArray, List.set_cons_zero, List.set_cons_succ, i64_w, i32_w]
             rfl
            refine pure_ (i := 5) (N := some 36) (v := ?_) (a' := ?_) #[true, true, true, true, true, true, false, false, false, false, false, false, false, false, false, false, false, false] rfl rfl (any_of HT_.out (by kernel_rfl)) (fun _ _ _ h => h) (Or.inl ⟨by rfl, ?_⟩) ?_ ?_
            rotate_left
            ·intro w'
             go_simp
             with_reducible rfl
            rotate_left
            ·simp only [Act.put, List.setIfInBounds_toArray, List.set_cons_zero, List.set_cons_succ, i64_w, i32_w]
             rfl
            refine pure_ (i := 6) (N := some 37) (v := ?_) (a' := ?_) #[true, true, true, true, true, true, true, false, false, false, false, false, false, false, false, false, false, false] rfl rfl (any_of HT_.out (by kernel_rfl)) (fun _ _ _ h => h) (Or.inl ⟨by rfl, ?_⟩) ?_ ?_
            rotate_left
            ·intro w'
             go_simp
             with_reducible rfl
            rotate_left
            ·simp only [Act.put, List.setIfInBounds_toArray, List.set_cons_zero, List.set_cons_succ, i64_w, i32_w]
             rfl
            refine pure_ (i := 7) (N := some 38) (v := ?_) (a' := ?_) #[true, true, true, true, true, true, true, true, false, false, false, false, false, false, false, false, false, false] rfl rfl (any_of HT_.out (by kernel_rfl)) (fun _ _ _ h => h) (Or.inl ⟨by rfl, ?_⟩) ?_ ?_
            rotate_left
            ·intro w'
             go_simp
             with_reducible rfl
            rotate_left
            ·simp only [Act.put, List.setIfInBounds_toArray, List.set_cons_zero, List.set_cons_succ, i64_w, i32_w]
             rfl
            refine pure_ (i := 8) (N := some 39) (v := ?_) (a' := ?_) #[true, true, true, true, true, true, true, true, true, false, false, false, false, false, false, false, false, false] rfl rfl (any_of HT_.out (by kernel_rfl)) (fun _ _ _ h => h) (Or.inl ⟨by rfl, ?_⟩) ?_ ?_
            rotate_left
            ·intro w'
             go_simp
             with_reducible rfl
            rotate_left
            ·simp only [Act.put, List.setIfInBounds_toArray, List.set_cons_zero, List.set_cons_succ, i64_w, i32_w]
             rfl
            refine pure_ (i := 10) (N := some 41) (v := ?_) (a' := ?_) #[true, true, true, true, true, true, true, true, true, false, true, false, false, false, false, false, false, false] rfl rfl (any_of HT_.out (by kernel_rfl)) (fun _ _ _ h => h) (Or.inl ⟨by rfl, ?_⟩) ?_ ?_
            rotate_left
            ·intro w'
             go_simp
             with_reducible rfl
            rotate_left
            ·simp only [Act.put, List.setIfInBounds_toArray, List.set_cons_zero, List.set_cons_succ, i64_w, i32_w]
             rfl
            refine pure_ (i := 11) (N := some 42) (v := ?_) (a' := ?_) #[true, true, true, true, true, true, true, true, true, false, true, true, false, false, false, false, false, false] rfl rfl (any_of HT_.out (by kernel_rfl)) (fun _ _ _ h => h) (Or.inl ⟨by rfl, ?_⟩) ?_ ?_
            rotate_left
            ·intro w'
             go_simp
             with_reducible rfl
            rotate_left
            ·simp only [Act.put, List.setIfInBounds_toArray, List.set_cons_zero, List.set_cons_succ, i64_w, i32_w]
             rfl
            refine pure_ (i := 12) (N := some 43) (v := ?_) (a' := ?_) #[true, true, true, true, true, true, true, true, true, false, true, true, true, false, false, false, false, false] rfl rfl (any_of HT_.out (by kernel_rfl)) (fun _ _ _ h => h) (Or.inl ⟨by rfl, ?_⟩) ?_ ?_
            rotate_left
            ·intro w'
             go_simp
             with_reducible rfl
            rotate_left
            ·simp only [Act.put, List.setIfInBounds_toArray, List.set_cons_zero, List.set_cons_succ, i64_w, i32_w]
             rfl
            refine take_ (i := 9) (N := some 40) (v := ?_) (a' := ?_) #[true, true, true, true, true, true, true, true, true, true, true, true, true, false, false, false, false, false] rfl rfl (take_ofW HT_.out HW_.out (by kernel_rfl)) (fun _ _ _ h => h) (Or.inl ⟨by rfl, ?_⟩) hHeld ?_ ?_
            rotate_left
            ·rintro w' ⟨s0, s1⟩
             go_simp
             with_reducible rfl
            rotate_left
            ·simp only [Act.put, List.setIfInBounds_toArray, List.set_cons_zero, List.set_cons_succ, i64_w, i32_w]
             rfl
            refine take_ (i := 13) (N := some 44) (v := ?_) (a' := ?_) #[true, true, true, true, true, true, true, true, true, true, true, true, true, true, false, false, false, false] rfl rfl (take_ofW HT_.out HW_.out (by kernel_rfl)) (fun _ _ _ h => h) (Or.inl ⟨by rfl, ?_⟩) hHeld ?_ ?_
            rotate_left
            ·rintro w' ⟨s0, s1⟩
             go_simp
             with_reducible rfl
            rotate_left
            ·simp only [Act.put, List.setIfInBounds_toArray, List.set_cons_zero, List.set_cons_succ, i64_w, i32_w]
             rfl
            refine pure_ (i := 14) (N := some 45) (v := ?_) (a' := ?_) #[true, true, true, true, true, true, true, true, true, true, true, true, true, true, true, false, false, false] rfl rfl (any_of HT_.out (by kernel_rfl)) (fun _ _ _ h => h) (Or.inl ⟨by rfl, ?_⟩) ?_ ?_
            rotate_left
            ·intro w'
             go_simp
             with_reducible rfl
            rotate_left
            ·simp only [Act.put, List.setIfInBounds_toArray, List.set_cons_zero, List.set_cons_succ, i64_w, i32_w]
             rfl
            refine last_ (i := 15) (N := none) #[true, true, true, true, true, true, true, true, true, true, true, true, true, true, true, true, false, false] rfl rfl (one_of HT_.out (by kernel_rfl)) (by decide) (fun K hK => ?_)
            refine skip_ (w1 := ?_) (by rfl) rfl ?_ ?_
            rotate_left
            ·go_simp
             rfl
            refine hK.out _ _ ?_
            clear hK K
            refine pure_ (i := 16) (N := some 46) (v := ?_) (a' := ?_) #[true, true, true, true, true, true, true, true, true, true, true, true, true, true, true, true, true, false] rfl rfl (any_of HT_.out (by kernel_rfl)) (fun _ _ _ h => h) (Or.inl ⟨by rfl, ?_⟩) ?_ ?_
            rotate_left
            ·intro w'
             go_simp
             with_reducible rfl
            rotate_left
            ·simp only [Act.put, List.setIfInBounds_toArray, List.set_cons_zero, List.set_cons_succ, i64_w, i32_w]
             rfl
            refine last_ (i := 17) (N := none) #[true, true, true, true, true, true, true, true, true, true, true, true, true, true, true, true, true, true] rfl rfl (one_of HT_.out (by kernel_rfl)) (by decide) (fun K hK => ?_)
            refine skip_ (w1 := ?_) (by rfl) rfl ?_ ?_
            rotate_left
            ·go_simp
             rfl
            refine hK.out _ _ ?_
            clear hK K
            refine done_ (done_of HT_.out (by kernel_rfl)) ?_
            try go_wp2
            (try simp only [← hl3_2])
            go_roundg k2
            case measure => have := HK1.out; have := HK2.out; omega
            case rel => exact ⟨(y110), (ji9), (by first | rfl | (simp; done) | (simp only [← hji9] <;> (first | rfl | simp)) | (simp [*]; done)), H', ⟨by have := HK1.out; have := HK2.out; omega⟩, ⟨by (try simp only [hl3_2]); (with_reducible repeat (first | apply Kd.R_alloc | apply Kd.R_drewN | apply Kd.R_drew)); exact HQ18.out⟩, ⟨by repeat (first | (with_reducible first | exact HB.out | apply below_alloc | apply pw_below_drewN | apply below_drew1 | refine below_set ?_ GB13.out | refine below_set ?_ GB13.out) | exact HB.out)⟩⟩
           ·rw [if_neg c12] at H
            have c12b0 : decide ((rd x3_2 x5_2) < (rd x3_2 (ji9))) = false := decide_eq_false c12
            clear c12
            have H' := Aside0.mk H
            clear H
            try go_wp2
            have n0_ := Aside0.mk (Kd.R_drew HO_3.out)
            have n1_ := Aside0.mk (below_drew1 HB.out)
            clear HO_3
            clear HB
            have HO_3 := n0_
            have HB := n1_
            clear n0_ n1_
            have p105 : 0 ≤ (x5_2 : Int) := of_decide_eq_true (by first | (with_reducible assumption) | assumption)
            have q105 : x5_2 < (x3_2.length : Int) := of_decide_eq_true (by first | (with_reducible assumption) | assumption)
            obtain ⟨ad105, e105, hx105_0⟩ := Kd.at_int (Kd.R_reads' HO_3.out).2.2 x5_2 p105 q105
            cases e105
            replace p105 := eq_true p105
            replace q105 := eq_true q105
            have p106 : 0 ≤ ((ji9) : Int) := of_decide_eq_true (by first | (with_reducible assumption) | assumption)
            have q106 : (ji9) < (x3_2.length : Int) := of_decide_eq_true (by first | (with_reducible assumption) | assumption)
            obtain ⟨ad106, e106, hx106_0⟩ := Kd.at_int (Kd.R_reads' HO_3.out).2.2 (ji9) p106 q106
            obtain rfl : ad105 = ad106 := (by injection e106)
            replace p106 := eq_true p106
            replace q106 := eq_true q106
            refine start_ (n := 14) (S := fun w' => w'.cell? (ad105.add (x5_2).toNat) = some (.int .i64 (rd x3_2 x5_2)) ∧ w'.cell? (ad105.add ((ji9)).toNat) = some (.int .i64 (rd x3_2 (ji9)))) (ds := []) #[false, false, false, false, false, false, false, false, false, false, false, false, false, false] (by kernel_rfl) rfl rfl ⟨hx105_0, hx106_0⟩ (fun hHeld => ?_); refine with_tabW laws_sorted.tab6 laws_sorted.bits6 (fun HT_ HW_ => ?_)
            generalize wr.drew = w19 at HO_3 HB hx105_0 hx106_0 hHeld ⊢
            refine pure_ (i := 0) (N := some 15) (v := ?_) (a' := ?_) #[true, false, false, false, false, false, false, false, false, false, false, false, false, false] rfl rfl (any_of HT_.out (by kernel_rfl)) (fun _ _ _ h => h) (Or.inl ⟨by rfl, ?_⟩) ?_ ?_
            rotate_left
            ·intro w'
             go_simp
             with_reducible rfl
            rotate_left
            ·simp only [Act.put, List.setIfInBounds_toArray, List.set_cons_zero, List.set_cons_succ, i64_w, i32_w]
             rfl
            refine pure_ (i := 1) (N := some 16) (v := ?_) (a' := ?_) #[true, true, false, false, false, false, false, false, false, false, false, false, false, false] rfl rfl (any_of HT_.out (by kernel_rfl)) (fun _ _ _ h => h) (Or.inl ⟨by rfl, ?_⟩) ?_ ?_
            rotate_left
            ·intro w'
             go_simp
             with_reducible rfl
            rotate_left
            ·simp only [Act.put, List.setIfInBounds_toArray, List.set_cons_zero, List.set_cons_succ, i64_w, i32_w]
             rfl
            refine pure_ (i := 2) (N := some 17) (v := ?_) (a' := ?_) #[true, true, true, false, false, false, false, false, false, false, false, false, false, false] rfl rfl (any_of HT_.out (by kernel_rfl)) (fun _ _ _ h => h) (Or.inl ⟨by rfl, ?_⟩) ?_ ?_
            rotate_left
            ·intro w'
             go_simp
             with_reducible rfl
            rotate_left
            ·simp only [Act.put, List.setIfInBounds_toArray, List.set_cons_zero, List.set_cons_succ, i64_w, i32_w]
             rfl
            refine pure_ (i := 3) (N := some 18) (v := ?_) (a' := ?_) #[true, true, true, true, false, false, false, false, false, false, false, false, false, false] rfl rfl (any_of HT_.out (by kernel_rfl)) (fun _ _ _ h => h) (Or.inl ⟨by rfl, ?_⟩) ?_ ?_
            rotate_left
            ·intro w'
             go_simp
             with_reducible rfl
            rotate_left
            ·simp only [Act.put, List.setIfInBounds_toArray, List.set_cons_zero, List.set_cons_succ, i64_w, i32_w]
             rfl
            refine pure_ (i := 4) (N := some 19) (v := ?_) (a' := ?_) #[true, true, true, true, true, false, false, false, false, false, false, false, false, false] rfl rfl (any_of HT_.out (by kernel_rfl)) (fun _ _ _ h => h) (Or.inl ⟨by rfl, ?_⟩) ?_ ?_
            rotate_left
            ·intro w'
             go_simp
             with_reducible rfl
            rotate_left
            ·simp only [Act.put, List.setIfInBounds_toArray, List.set_cons_zero, List.set_cons_succ, i64_w, i32_w]
             rfl
            refine pure_ (i := 5) (N := some 20) (v := ?_) (a' := ?_) #[true, true, true, true, true, true, false, false, false, false, false, false, false, false] rfl rfl (any_of HT_.out (by kernel_rfl)) (fun _ _ _ h => h) (Or.inl ⟨by rfl, ?_⟩) ?_ ?_
            rotate_left
            ·intro w'
             go_simp
             with_reducible rfl
            rotate_left
            ·simp only [Act.put, List.setIfInBounds_toArray, List.set_cons_zero, List.set_cons_succ, i64_w, i32_w]
             rfl
            refine pure_ (i := 7) (N := some 22) (v := ?_) (a' := ?_) #[true, true, true, true, true, true, false, true, false, false, false, false, false, false] rfl rfl (any_of HT_.out (by kernel_rfl)) (fun _ _ _ h => h) (Or.inl ⟨by rfl, ?_⟩) ?_ ?_
            rotate_left
            ·intro w'
             go_simp
             with_reducible rfl
            rotate_left
            ·simp only [Act.put, List.setIfInBounds_toArray, List.set_cons_zero, List.set_cons_succ, i64_w, i32_w]
             rfl
            refine pure_ (i := 8) (N := some 23) (v := ?_) (a' := ?_) #[true, true, true, true, true, true, false, true, true, false, false, false, false, false] rfl rfl (any_of HT_.out (by kernel_rfl)) (fun _ _ _ h => h) (Or.inl ⟨by rfl, ?_⟩) ?_ ?_
            rotate_left
            ·intro w'
             go_simp
             with_reducible rfl
            rotate_left
            ·simp only [Act.put, List.setIfInBounds_toArray, List.set_cons_zero, List.set_cons_succ, i64_w, i32_w]
             rfl
            refine pure_ (i := 9) (N := some 24) (v := ?_) (a' := ?_) #[true, true, true, true, true, true, false, true, true, true, false, false, false, false] rfl rfl (any_of HT_.out (by kernel_rfl)) (fun _ _ _ h => h) (Or.inl ⟨by rfl, ?_⟩) ?_ ?_
            rotate_left
            ·intro w'
             go_simp
             with_reducible rfl
            rotate_left
            ·simp only [Act.put, List.setIfInBounds_toArray, List.set_cons_zero, List.set_cons_succ, i64_w, i32_w]
             rfl
            refine pure_ (i := 10) (N := some 25) (v := ?_) (a' := ?_) #[true, true, true, true, true, true, false, true, true, true, true, false, false, false] rfl rfl (any_of HT_.out (by kernel_rfl)) (fun _ _ _ h => h) (Or.inl ⟨by rfl, ?_⟩) ?_ ?_
            rotate_left
            ·intro w'
             go_simp
             with_reducible rfl
            rotate_left
            ·simp only [Act.put, List.setIfInBounds_toArray, List.set_cons_zero, List.set_cons_succ, i64_w, i32_w]
             rfl
            refine take_ (i := 6) (N := some 21) (v := ?_) (a' := ?_) #[true, true, true, true, true, true, true, true, true, true, true, false, false, false] rfl rfl (take_ofW HT_.out HW_.out (by kernel_rfl)) (fun _ _ _ h => h) (Or.inl ⟨by rfl, ?_⟩) hHeld ?_ ?_
            rotate_left
            ·rintro w' ⟨s0, s1⟩
             go_simp
             with_reducible rfl
            rotate_left
            ·simp only [Act.put, List.setIfInBounds_toArray, List.set_cons_zero, List.set_cons_succ, i64_w, i32_w]
             rfl
            refine take_ (i := 11) (N := some 26) (v := ?_) (a' := ?_) #[true, true, true, true, true, true, true, true, true, true, true, true, false, false] rfl rfl (take_ofW HT_.out HW_.out (by kernel_rfl)) (fun _ _ _ h => h) (Or.inl ⟨by rfl, ?_⟩) hHeld ?_ ?_
            rotate_left
            ·rintro w' ⟨s0, s1⟩
             go_simp
             with_reducible rfl
            rotate_left
            ·simp only [Act.put, List.setIfInBounds_toArray, List.set_cons_zero, List.set_cons_succ, i64_w, i32_w]
             rfl
            refine pure_ (i := 12) (N := some 27) (v := ?_) (a' := ?_) #[true, true, true, true, true, true, true, true, true, true, true, true, true, false] rfl rfl (any_of HT_.out (by kernel_rfl)) (fun _ _ _ h => h) (Or.inl ⟨by rfl, ?_⟩) ?_ ?_
            rotate_left
            ·intro w'
             go_simp
             with_reducible rfl
            rotate_left
            ·simp only [Act.put, List.setIfInBounds_toArray, List.set_cons_zero, List.set_cons_succ, i64_w, i32_w]
             rfl
            refine pure_ (i := 13) (N := some 28) (v := ?_) (a' := ?_) #[true, true, true, true, true, true, true, true, true, true, true, true, true, true] rfl rfl (any_of HT_.out (by kernel_rfl)) (fun _ _ _ h => h) (Or.inl ⟨by rfl, ?_⟩) ?_ ?_
            rotate_left
            ·intro w'
             go_simp
             with_reducible rfl
            rotate_left
            ·simp only [Act.put, List.setIfInBounds_toArray, List.set_cons_zero, List.set_cons_succ, i64_w, i32_w]
             rfl
            refine done_ (done_of HT_.out (by kernel_rfl)) ?_
            try go_wp2
            (try simp only [← hl3_2])
            go_roundg k2
            case measure => have := HK1.out; have := HK2.out; omega
            case rel => exact ⟨(x3_2), (wrap64 (x4_1 + 1)), (by first | rfl | (simp; done) | (simp [*]; done)), H', ⟨by have := HK1.out; have := HK2.out; omega⟩, ⟨by (try simp only [hl3_2]); (with_reducible repeat (first | apply Kd.R_alloc | apply Kd.R_drewN | apply Kd.R_drew)); exact HO_3.out⟩, ⟨by repeat (first | (with_reducible first | exact HB.out | apply below_alloc | apply pw_below_drewN | apply below_drew1) | exact HB.out)⟩⟩
          ·rw [if_neg c11] at H
           exact absurd H (by simp)
         ·rw [if_neg c10] at H
          exact absurd H (by simp)
        ·rw [if_neg c8] at H
         exact absurd H (by simp)
       ·rw [if_neg c7] at H
        exact absurd H (by simp)
      ·rw [if_neg c6] at H
       have c6b0 : decide (0 < x5_2) = false := decide_eq_false c6
       clear c6
       have H' := Aside0.mk H
       clear H
       try go_wp2
       have n0_ := Aside0.mk (Kd.R_drew HO_3.out)
       have n1_ := Aside0.mk (below_drew1 HB.out)
       clear HO_3
       clear HB
       have HO_3 := n0_
       have HB := n1_
       clear n0_ n1_
       refine start_ (n := 14) (S := fun w' => True) (ds := []) #[false, false, false, false, false, false, false, false, false, false, false, false, false, false] (by kernel_rfl) rfl rfl trivial (fun hHeld => ?_); refine with_tabW laws_sorted.tab6 laws_sorted.bits6 (fun HT_ HW_ => ?_)
       generalize wr.drew = w20 at HO_3 HB hHeld ⊢
       refine pure_ (i := 0) (N := some 15) (v := ?_) (a' := ?_) #[true, false, false, false, false, false, false, false, false, false, false, false, false, false] rfl rfl (any_of HT_.out (by kernel_rfl)) (fun _ _ _ h => h) (Or.inl ⟨by rfl, ?_⟩) ?_ ?_
       rotate_left
       ·intro w'
        go_simp
        with_reducible rfl
       rotate_left
       ·simp only [Act.put, List.setIfInBounds_toArray, List.set_cons_zero, List.set_cons_succ, i64_w, i32_w]
        rfl
       refine pure_ (i := 1) (N := some 16) (v := ?_) (a' := ?_) #[true, true, false, false, false, false, false, false, false, false, false, false, false, false] rfl rfl (any_of HT_.out (by kernel_rfl)) (fun _ _ _ h => h) (Or.inl ⟨by rfl, ?_⟩) ?_ ?_
       rotate_left
       ·intro w'
        go_simp
        with_reducible rfl
       rotate_left
       ·simp only [Act.put, List.setIfInBounds_toArray, List.set_cons_zero, List.set_cons_succ, i64_w, i32_w]
        rfl
       refine pure_ (i := 2) (N := some 17) (v := ?_) (a' := ?_) #[true, true, true, false, false, false, false, false, false, false, false, false, false, false] rfl rfl (any_of HT_.out (by kernel_rfl)) (fun _ _ _ h => h) (Or.inl ⟨by rfl, ?_⟩) ?_ ?_
       rotate_left
       ·intro w'
        go_simp
        with_reducible rfl
       rotate_left
       ·simp only [Act.put, List.setIfInBounds_toArray, List.set_cons_zero, List.set_cons_succ, i64_w, i32_w]
        rfl
       refine pure_ (i := 3) (N := some 18) (v := undef) (a' := ?_) #[true, true, true, true, false, false, false, false, false, false, false, false, false, false] rfl rfl (any_of HT_.out (by kernel_rfl)) (fun _ _ _ h => h) (Or.inr ⟨by rfl, rfl⟩) ?_ ?_
       rotate_left
       ·simp only [Act.put, List.setIfInBounds_toArray, List.set_cons_zero, List.set_cons_succ, i64_w, i32_w]
        rfl
       refine pure_ (i := 4) (N := some 19) (v := undef) (a' := ?_) #[true, true, true, true, true, false, false, false, false, false, false, false, false, false] rfl rfl (any_of HT_.out (by kernel_rfl)) (fun _ _ _ h => h) (Or.inr ⟨by rfl, rfl⟩) ?_ ?_
       rotate_left
       ·simp only [Act.put, List.setIfInBounds_toArray, List.set_cons_zero, List.set_cons_succ, i64_w, i32_w]
        rfl
       refine pure_ (i := 5) (N := some 20) (v := undef) (a' := ?_) #[true, true, true, true, true, true, false, false, false, false, false, false, false, false] rfl rfl (any_of HT_.out (by kernel_rfl)) (fun _ _ _ h => h) (Or.inr ⟨by rfl, rfl⟩) ?_ ?_
       rotate_left
       ·simp only [Act.put, List.setIfInBounds_toArray, List.set_cons_zero, List.set_cons_succ, i64_w, i32_w]
        rfl
       refine pure_ (i := 6) (N := some 21) (v := undef) (a' := ?_) #[true, true, true, true, true, true, true, false, false, false, false, false, false, false] rfl rfl (any_of HT_.out (by kernel_rfl)) (fun _ _ _ h => h) (Or.inr ⟨by rfl, rfl⟩) ?_ ?_
       rotate_left
       ·simp only [Act.put, List.setIfInBounds_toArray, List.set_cons_zero, List.set_cons_succ, i64_w, i32_w]
        rfl
       refine pure_ (i := 7) (N := some 22) (v := undef) (a' := ?_) #[true, true, true, true, true, true, true, true, false, false, false, false, false, false] rfl rfl (any_of HT_.out (by kernel_rfl)) (fun _ _ _ h => h) (Or.inr ⟨by rfl, rfl⟩) ?_ ?_
       rotate_left
       ·simp only [Act.put, List.setIfInBounds_toArray, List.set_cons_zero, List.set_cons_succ, i64_w, i32_w]
        rfl
       refine pure_ (i := 8) (N := some 23) (v := undef) (a' := ?_) #[true, true, true, true, true, true, true, true, true, false, false, false, false, false] rfl rfl (any_of HT_.out (by kernel_rfl)) (fun _ _ _ h => h) (Or.inr ⟨by rfl, rfl⟩) ?_ ?_
       rotate_left
       ·simp only [Act.put, List.setIfInBounds_toArray, List.set_cons_zero, List.set_cons_succ, i64_w, i32_w]
        rfl
       refine pure_ (i := 9) (N := some 24) (v := undef) (a' := ?_) #[true, true, true, true, true, true, true, true, true, true, false, false, false, false] rfl rfl (any_of HT_.out (by kernel_rfl)) (fun _ _ _ h => h) (Or.inr ⟨by rfl, rfl⟩) ?_ ?_
       rotate_left
       ·simp only [Act.put, List.setIfInBounds_toArray, List.set_cons_zero, List.set_cons_succ, i64_w, i32_w]
        rfl
       refine pure_ (i := 10) (N := some 25) (v := undef) (a' := ?_) #[true, true, true, true, true, true, true, true, true, true, true, false, false, false] rfl rfl (any_of HT_.out (by kernel_rfl)) (fun _ _ _ h => h) (Or.inr ⟨by rfl, rfl⟩) ?_ ?_
       rotate_left
       ·simp only [Act.put, List.setIfInBounds_toArray, List.set_cons_zero, List.set_cons_succ, i64_w, i32_w]
        rfl
       refine pure_ (i := 11) (N := some 26) (v := undef) (a' := ?_) #[true, true, true, true, true, true, true, true, true, true, true, true, false, false] rfl rfl (any_of HT_.out (by kernel_rfl)) (fun _ _ _ h => h) (Or.inr ⟨by rfl, rfl⟩) ?_ ?_
       rotate_left
       ·simp only [Act.put, List.setIfInBounds_toArray, List.set_cons_zero, List.set_cons_succ, i64_w, i32_w]
        rfl
       refine pure_ (i := 12) (N := some 27) (v := undef) (a' := ?_) #[true, true, true, true, true, true, true, true, true, true, true, true, true, false] rfl rfl (any_of HT_.out (by kernel_rfl)) (fun _ _ _ h => h) (Or.inr ⟨by rfl, rfl⟩) ?_ ?_
       rotate_left
       ·simp only [Act.put, List.setIfInBounds_toArray, List.set_cons_zero, List.set_cons_succ, i64_w, i32_w]
        rfl
       refine pure_ (i := 13) (N := some 28) (v := ?_) (a' := ?_) #[true, true, true, true, true, true, true, true, true, true, true, true, true, true] rfl rfl (any_of HT_.out (by kernel_rfl)) (fun _ _ _ h => h) (Or.inl ⟨by rfl, ?_⟩) ?_ ?_
       rotate_left
       ·intro w'
        go_simp
        with_reducible rfl
       rotate_left
       ·simp only [Act.put, List.setIfInBounds_toArray, List.set_cons_zero, List.set_cons_succ, i64_w, i32_w]
        rfl
       refine done_ (done_of HT_.out (by kernel_rfl)) ?_
       try go_wp2
       (try simp only [← hl3_2])
       go_roundg k2
       case measure => have := HK1.out; have := HK2.out; omega
       case rel => exact ⟨(x3_2), (wrap64 (x4_1 + 1)), (by first | rfl | (simp; done) | (simp [*]; done)), H', ⟨by have := HK1.out; have := HK2.out; omega⟩, ⟨by (try simp only [hl3_2]); (with_reducible repeat (first | apply Kd.R_alloc | apply Kd.R_drewN | apply Kd.R_drew)); exact HO_3.out⟩, ⟨by repeat (first | (with_reducible first | exact HB.out | apply below_alloc | apply pw_below_drewN | apply below_drew1) | exact HB.out)⟩⟩
   ·rw [if_neg c4] at H
    have c4b0 : decide (x4_1 < (x3_1.length : Int)) = false := decide_eq_false c4
    clear c4
    obtain rfl := Option.some.inj H
    obtain ⟨Ao21, co21, eo21⟩ := Kd.R_slice HO_3.out
    subst eo21
    go_wp2
    go_ret
    exact ⟨_, by first | rfl | (simp [errW_none, errW_some] <;> rfl) | (simp [*, errW_none, errW_some] <;> rfl), by (with_reducible repeat (first | apply Kd.R_alloc | apply Kd.R_drewN | apply Kd.R_drew)); exact HO_3.out, by repeat (first | (with_reducible first | exact HB.out | apply below_alloc | apply pw_below_drewN | apply below_drew1) | exact HB.out)⟩

end Go.Proofs.YtddklkgcodjijaaGreat.PL

/- A law of no program: append of whatever slice is read, the nil one too, onto a row of the call's own. -/
namespace Go.Lab
open Go.RowKit

/-- append(v, ys...), ys whatever is read, nil too. -/
theorem run_append_src {P : Program} (w : World) (base : Nat) (t ty e : TypeId) (i : TypeInfo) (z : Value) (size bytes : Nat) (ht : P.underlying t = some (.slice e)) (hi : P.info? e = some i) (hz : i.zero = some z)
    (hsize : i.size = size) (hby : i.bytes = bytes) (hzs : z.cells.size = size) (hsz : 0 < size)
    (v : Value) (n : Nat) (xs : List Value) (hown : w.ownsRow base e size v n xs)
    (A : Option Addr) (m c : Nat) (news : List Value) (hl : news.length = m * size) (hnews : 0 < m → ∃ ad, A = some ad ∧ ∀ j u, news[j]? = some u → w.cell? (ad.add j) = some u) (h1 : ∀ u ∈ news, u.oneCell' = true)
    (h63 : n + m ≤ maxLen) (hbytes : (n + m) * bytes ≤ 140737488355328) (hbase : base ≤ w.heap.size) :
    ∃ v' w', (Builtin.append_ #[t, t] ty #[v, .slice A m c]).run P w = .ok v' w' ∧ w'.ownsRow base e size v' (n + m) (xs ++ news) ∧ w.grownBy w' v.ownBlock ∧ (v'.ownBlock = v.ownBlock ∨ v'.ownBlock = some w.heap.size) := by
  cases A with
  | some ad =>
    have hn : ∀ j u, news[j]? = some u → w.cell? (ad.add j) = some u := by
      rcases Nat.eq_zero_or_pos m with h0 | h0
      · intro j u hu
        have : news = [] := List.eq_nil_of_length_eq_zero (by rw [hl, h0, Nat.zero_mul])
        rw [this] at hu; cases hu
      · obtain ⟨ad', e1, h⟩ := hnews h0
        injection e1 with e1; subst e1; exact h
    obtain ⟨v', w', h1, h2, h3, _, h4⟩ := run_append_own_at (P := P) w base t ty e i z size bytes ht hi hz hsize hby hzs hsz v n xs hown ad m c news hl hn h1 h63 hbytes hbase
    exact ⟨v', w', h1, h2, h3, h4⟩
  | none =>
    have hm : m = 0 := by
      rcases Nat.eq_zero_or_pos m with h0 | h0
      · exact h0
      · obtain ⟨ad', e1, _⟩ := hnews h0; cases e1
    subst hm
    have hnil : news = [] := List.eq_nil_of_length_eq_zero (by rw [hl, Nat.zero_mul])
    subst hnil
    have hv : ∃ B cp, v = .slice B n cp ∧ n ≤ cp := by
      rcases hown.2 with ⟨rfl, h0⟩ | ⟨g, cap, cur, rfl, _, _, h1, _⟩
      · subst h0; exact ⟨_, _, rfl, Nat.le_refl _⟩
      · exact ⟨_, _, rfl, h1⟩
    obtain ⟨B, cp, rfl, hcp⟩ := hv
    refine ⟨.slice B n cp, w, ?_, by simpa using hown, ⟨rfl, rfl, rfl, Nat.le_refl _, fun _ _ _ => rfl⟩, .inl rfl⟩
    cases B <;> simp [Builtin.append_, run_underlying ht, sizeOf, typeInfo, hi, Builtin.lenOf, Builtin.firstCells, hcp, storeCells]

theorem step_append_src {P : Program} {w : World} {ops : Array Oper} {o : Oper} {a : Act} {K : Act → World → Prop} {Q : Exit → Act → World → Prop} {E : Prop} (hgd : o.guard = none) (s x : Operand) (t : TypeId)
    (ho : o.op = .call { callee := .builtin .append, args := #[s, x], argTypes := #[t, t] })
    (base : Nat) (e : TypeId) (i : TypeInfo) (z : Value) (size bytes : Nat) (ht : P.underlying t = some (.slice e)) (hi : P.info? e = some i) (hz : i.zero = some z)
    (hsize : i.size = size) (hby : i.bytes = bytes) (hzs : z.cells.size = size) (hsz : 0 < size)
    (v : Value) (n : Nat) (xs : List Value) (hs : a.eval s = v) (hown : w.ownsRow base e size v n xs)
    (A : Option Addr) (m c : Nat) (news : List Value) (hx : a.eval x = .slice A m c) (hl : news.length = m * size) (hnews : 0 < m → ∃ ad, A = some ad ∧ ∀ j u, news[j]? = some u → w.cell? (ad.add j) = some u) (h1 : ∀ u ∈ news, u.oneCell' = true)
    (h63 : n + m ≤ maxLen) (hbytes : (n + m) * bytes ≤ 140737488355328) (hbase : base ≤ w.heap.size)
    (h : ∀ v' w', w'.ownsRow base e size v' (n + m) (xs ++ news) → w.grownBy w' v.ownBlock → (v'.ownBlock = v.ownBlock ∨ v'.ownBlock = some w.heap.size) → K (a.put o.dst v') w') :
    if Region.wanted o (yielded ops a.tmps) = true then Oper.wp P o a w K Q else E := by
  have hw : Region.wanted o (yielded ops a.tmps) = true := by simp [Region.wanted, hgd]
  rw [if_pos hw]
  obtain ⟨v', w', hr, h2, h3, h4⟩ := run_append_src (P := P) w base t o.type e i z size bytes ht hi hz hsize hby hzs hsz v n xs hown A m c news hl hnews h1 h63 hbytes hbase
  unfold Oper.wp execOp
  simp only [ho, resolve, invoke, builtin, Sem.run_bind, Sem.run_pure, Result.andThen_ok, List.map_toArray, List.map_cons, List.map_nil, hs, hx, hr]
  exact h v' w' h2 h3 h4

end Go.Lab


namespace Go.Proofs.YtddklkgcodjijaaGreat.Q
open Go.RowKit Go.Lab Go.Proofs.YtddklkgcodjijaaGreatW.PrintWords Go.Proofs.YtddklkgcodjijaaGreatW.PrintLast Go.Proofs.YtddklkgcodjijaaGreatW.PrintMore

open Go.Sort in
theorem putCells_take (cur : Array Value) (n : Nat) (ys : List Int) (hl : ys.length = n) (hn : n ≤ cur.size) : (putCells (Value.int .i64) 0 ys.toArray cur).toList.take n = nums .i64 ys := by
  apply List.ext_getElem?
  intro j
  rw [List.getElem?_take]
  by_cases hj : j < n
  · rw [if_pos hj, Array.getElem?_toList]
    unfold putCells nums
    rw [Array.getElem?_mapIdx, Array.getElem?_eq_getElem (by omega), List.getElem?_map, List.getElem?_eq_getElem (by omega)]
    have : j < ys.toArray.size := by simp; omega
    simp only [Option.map_some, Nat.zero_le, true_and, Nat.zero_add, Nat.sub_zero]
    rw [if_pos this, getElem!_pos ys.toArray j this]
    simp
  · rw [if_neg hj, List.getElem?_eq_none (by rw [nums_length]; omega)]

open Go.Sort in
theorem sort_own (base : Nat) (v : Value) (xs : List Int) (w : World) (h : w.ownsRow base 3 1 v xs.length (nums .i64 xs)) (hb : xs.length ≤ 100000) :
    Calls Tryz.prog 63 #[v] w fun e w' => e = .returned (.tuple #[]) ∧ w'.ownsRow base 3 1 v xs.length (nums .i64 (srt xs)) ∧ w.grownBy w' v.ownBlock := by
  by_cases h0 : xs.length = 0
  · have hx : xs = [] := List.eq_nil_of_length_eq_zero h0
    subst hx
    obtain ⟨A, c, rfl⟩ := own_slice h
    refine (Tryz.slices_Sort_int_none A c w).mono ?_
    rintro e w' ⟨rfl, rfl⟩
    exact ⟨rfl, (by simpa [srt] using h), ⟨rfl, rfl, rfl, Nat.le_refl _, fun _ _ _ => rfl⟩⟩
  · rcases h.2 with ⟨_, hn⟩ | ⟨g, cap, cur, rfl, hb1, hg, hc1, hc2, hcs, htk⟩
    · exact absurd hn h0
    · have hH : Holds (Value.int .i64) w g 0 xs.toArray := by
        intro j hj
        have hj' : j < xs.length := by simpa using hj
        refine ⟨?_, blk_frozen hg _⟩
        rw [Nat.zero_add, blk_cell hg]
        have h1 : (cur.toList.take (xs.length * 1))[j]? = some (.int .i64 xs[j]) := by rw [htk]; simp [nums, hj']
        rw [List.getElem?_take] at h1
        split at h1
        · rw [getElem!_pos xs.toArray j (by simpa using hj)]
          simpa using h1
        · cases h1
      refine (Tryz.slices_Sort_int g 0 cap xs w hH (blk_lt hg) (by omega)).mono ?_
      rintro e w' ⟨rfl, n, os, rfl⟩
      have hgl : g < w.heap.size := blk_lt hg
      have hh : (grow (putRow (Value.int .i64) (Go.Sort.ahead w n) g 0 (xs.mergeSort fun x y => decide (x ≤ y)).toArray) os).heap[g]? = some (.cells (putCells (Value.int .i64) 0 (srt xs).toArray cur) 3 (0, 0)) := by
        have hsz : (putRow (Value.int .i64) (Go.Sort.ahead w n) g 0 (xs.mergeSort fun x y => decide (x ≤ y)).toArray).heap.size = w.heap.size := by simp [putRow, mapBlock, Go.Sort.ahead]
        rw [heap_grow_old _ _ (by rw [hsz]; exact hgl)]
        unfold putRow mapBlock
        have : (Go.Sort.ahead w n).heap = w.heap := rfl
        simp only [this, Array.getElem?_modify, if_true]
        rw [hg]
        rfl
      have hsl : (putCells (Value.int .i64) 0 (srt xs).toArray cur).size = cur.size := by simp [putCells]
      refine ⟨rfl, ⟨by rw [nums_length, srt_length]; omega, .inr ⟨g, cap, _, rfl, hb1, hh, hc1, hc2, by rw [hsl]; exact hcs, ?_⟩⟩, ⟨rfl, rfl, rfl, ?_, fun k hk hne => ?_⟩⟩
      · rw [Nat.mul_one]
        exact putCells_take cur xs.length (srt xs) (srt_length xs) (by rw [hcs]; omega)
      · simp [grow, putRow, mapBlock, Go.Sort.ahead]
      · have hkg : k ≠ g := fun e => hne (by simp [Value.ownBlock, e])
        have hsz : (putRow (Value.int .i64) (Go.Sort.ahead w n) g 0 (xs.mergeSort fun x y => decide (x ≤ y)).toArray).heap.size = w.heap.size := by simp [putRow, mapBlock, Go.Sort.ahead]
        rw [heap_grow_old _ _ (by rw [hsz]; exact hk)]
        unfold putRow mapBlock
        have : (Go.Sort.ahead w n).heap = w.heap := rfl
        simp only [this, Array.getElem?_modify]
        rw [if_neg (Ne.symm hkg)]

end Go.Proofs.YtddklkgcodjijaaGreat.Q


/- impl.number; impl.iterated over both kinds of iterators. -/
namespace Go.Proofs.YtddklkgcodjijaaGreat.R
open Go.RowKit Go.Lab Go.Maps Go.Proofs.YtddklkgcodjijaaGreatW.PrintWords Go.Proofs.YtddklkgcodjijaaGreatW.PrintLast Go.Proofs.YtddklkgcodjijaaGreatW.PrintMore PL

set_option maxHeartbeats 400000 in
theorem number_any (n : Int) (w : World) :
    Calls Tryz.prog 47 #[.iface 272 (.int .i64 n)] w fun e w' => e = .returned (.int .i64 n) ∧ w = w' := by
  have m1 := meth_ID n
  go_enter Tryz.func47, Tryz.ntmps47
  go_wp2_with (go_at_call 239; refine (nodeID_any _ _).mono ?_; rintro e w' ⟨rfl, rfl⟩)
  go_ret
  exact ⟨rfl, rfl⟩

theorem nums_step {r : List Int} {k : Nat} (hk : k < r.length) : nums .i64 (r.take (k + 1)) = nums .i64 (r.take k) ++ [.int .i64 r[k]] := by
  rw [List.take_succ_eq_append_getElem hk]; unfold nums; rw [List.map_append]; rfl

end Go.Proofs.YtddklkgcodjijaaGreat.R



/- spec.sortInts: it sorts. -/
namespace Go.Proofs.YtddklkgcodjijaaGreat.Q
open Go.RowKit Go.Lab Go.Proofs.YtddklkgcodjijaaGreatW.PrintWords Go.Proofs.YtddklkgcodjijaaGreatW.PrintLast Go.Proofs.YtddklkgcodjijaaGreatW.PrintMore

/-- where a number goes in -/
def cutAt (x : Int) (l : List Int) : Nat → Nat
  | 0 => 0
  | k + 1 => if x < l.getD k 0 then cutAt x l k else k + 1
theorem cutAt_le (x : Int) (l : List Int) : ∀ n, cutAt x l n ≤ n
  | 0 => Nat.le_refl _
  | k + 1 => by unfold cutAt; split; have := cutAt_le x l k; omega; omega
theorem cutAt_above (x : Int) (l : List Int) : ∀ n j, cutAt x l n ≤ j → j < n → x < l.getD j 0
  | 0, j, _, h => by omega
  | k + 1, j, h1, h2 => by
    unfold cutAt at h1
    split at h1
    · rcases Nat.lt_or_ge j k with h3 | h3
      · exact cutAt_above x l k j h1 h3
      · have : j = k := by omega
        subst this; assumption
    · omega
theorem cutAt_below (x : Int) (l : List Int) : ∀ n, 0 < cutAt x l n → l.getD (cutAt x l n - 1) 0 ≤ x
  | 0, h => by unfold cutAt at h; omega
  | k + 1, h => by
    unfold cutAt at h ⊢
    by_cases hx : x < l.getD k 0
    · rw [if_pos hx] at h ⊢
      exact cutAt_below x l k h
    · rw [if_neg hx, Nat.add_sub_cancel]
      omega
def insS (x : Int) (l : List Int) : List Int := l.take (cutAt x l l.length) ++ x :: l.drop (cutAt x l l.length)
theorem insS_perm (x : Int) (l : List Int) : (insS x l).Perm (x :: l) := by
  unfold insS
  refine List.perm_middle.trans ?_
  rw [List.take_append_drop]
theorem insS_le (x : Int) (l : List Int) (h : l.Pairwise (· ≤ ·)) : (insS x l).Pairwise (· ≤ ·) := by
  unfold insS
  have hk := cutAt_le x l l.length
  have ha := cutAt_above x l l.length
  have hb := cutAt_below x l l.length
  generalize cutAt x l l.length = k at hk ha hb
  have hg : ∀ j (hj : j < l.length), l.getD j 0 = l[j] := fun j hj => by simp [List.getD_eq_getElem?_getD, hj]
  have hp := List.pairwise_iff_getElem.1 h
  rw [List.pairwise_append]
  refine ⟨h.sublist (List.take_sublist _ _), ?_, ?_⟩
  · rw [List.pairwise_cons]
    refine ⟨fun y hy => ?_, h.sublist (List.drop_sublist _ _)⟩
    obtain ⟨i, hi, rfl⟩ := List.getElem_of_mem hy
    rw [List.getElem_drop]
    rw [List.length_drop] at hi
    have := ha (k + i) (by omega) (by omega)
    rw [hg _ (by omega)] at this
    omega
  · intro a h1 b h2
    obtain ⟨i, hi, rfl⟩ := List.getElem_of_mem h1
    rw [List.length_take] at hi
    rw [List.getElem_take]
    have h3 : l[i] ≤ x := by
      have := hb (by omega)
      rw [hg _ (by omega)] at this
      rcases Nat.lt_or_ge i (k - 1) with h4 | h4
      · have := hp i (k - 1) (by omega) (by omega) h4
        omega
      · have : i = k - 1 := by omega
        subst this; assumption
    rcases List.mem_cons.1 h2 with rfl | h2
    · exact h3
    · obtain ⟨j, hj, rfl⟩ := List.getElem_of_mem h2
      rw [List.getElem_drop]
      rw [List.length_drop] at hj
      exact hp _ _ (by omega) (by omega) (by omega)
/-- all of them, one after the other -/
def insAll (l : List Int) : List Int := l.foldl (fun a x => insS x a) []
theorem insAll_step (l : List Int) (k : Nat) (hk : k < l.length) : insAll (l.take (k + 1)) = insS l[k] (insAll (l.take k)) := by
  unfold insAll
  rw [List.take_succ_eq_append_getElem hk, List.foldl_append]
  rfl
theorem insAll_go : ∀ (l a : List Int), a.Pairwise (· ≤ ·) → (l.foldl (fun a x => insS x a) a).Pairwise (· ≤ ·) ∧ (l.foldl (fun a x => insS x a) a).Perm (l ++ a)
  | [], a, h => ⟨h, List.Perm.refl _⟩
  | x :: l, a, h => by
    obtain ⟨h1, h2⟩ := insAll_go l (insS x a) (insS_le x a h)
    refine ⟨h1, h2.trans ?_⟩
    refine ((insS_perm x a).append_left l).trans ?_
    exact List.perm_middle
theorem insAll_perm (l : List Int) : (insAll l).Perm l := by
  have := (insAll_go l [] List.Pairwise.nil).2
  rwa [List.append_nil] at this
theorem insAll_length (l : List Int) : (insAll l).length = l.length := (insAll_perm l).length_eq
theorem insAll_srt (l : List Int) : insAll l = srt l := by
  have h1 := (insAll_go l [] List.Pairwise.nil).1
  have h2 := srt_le l
  exact List.Perm.eq_of_pairwise (le := fun a b : Int => a ≤ b) (fun a b _ _ h3 h4 => by omega) h1 h2 ((insAll_perm l).trans (srt_perm l).symm)


theorem one_lit (w : World) (x : Int) {base : Nat} (hb : base ≤ w.heap.size) : (w.alloc (.cells #[.int .i64 x] 3)).ownsRow base 3 1 (.slice (some ⟨w.heap.size, 0, none⟩) 1 1) 1 (nums .i64 [x]) :=
  World.ownsRow_lit w #[.int .i64 x] 1 hb (by unfold maxLen; omega) (by simp)
theorem nums_one (xs : List Int) : ∀ u ∈ nums .i64 xs, u.oneCell' = true := by
  intro u hu
  unfold nums at hu
  obtain ⟨y, _, rfl⟩ := List.mem_map.1 hu
  rfl
theorem sl_cells {w : World} {base : Nat} {V : Option Addr} {k C : Nat} {acc : List Int} (h : w.ownsRow base 3 1 (.slice V k C) k (nums .i64 acc)) (hl : acc.length = k) :
    (V = none ∧ k = 0 ∧ C = 0) ∨ ∃ g, V = some ⟨g, 0, none⟩ ∧ k ≤ C ∧ base ≤ g ∧ g < w.heap.size ∧ ∀ j, j < k → w.cell? ⟨g, j, none⟩ = some (.int .i64 (acc.getD j 0)) := by
  rcases h.2 with ⟨h1, h2⟩ | ⟨g, cap, cur, h1, hb1, hg, hc1, hc2, hcs, htk⟩
  · injection h1 with h3 _ h4
    exact .inl ⟨h3, h2, h4⟩
  · injection h1 with h3 _ h4
    subst h3 h4
    refine .inr ⟨g, rfl, hc1, hb1, blk_lt hg, fun j hj => ?_⟩
    rw [blk_cell hg]
    have h5 : (cur.toList.take (k * 1))[j]? = some (.int .i64 (acc.getD j 0)) := by
      rw [htk]
      have : j < acc.length := by omega
      simp [nums, this]
    rw [List.getElem?_take] at h5
    split at h5
    · simpa using h5
    · cases h5
theorem add_off (g o j : Nat) : (⟨g, o, none⟩ : Addr).add j = ⟨g, o + j, none⟩ := by
  unfold Addr.add
  split
  · next h => have : j = 0 := by simpa using h
              subst this; rfl
  · rfl
/-- what a piece of a row reads: from q on -/
theorem sl_src {w : World} {base : Nat} {V : Option Addr} {k C q : Nat} {acc : List Int} (h : w.ownsRow base 3 1 (.slice V k C) k (nums .i64 acc)) (hl : acc.length = k) (hq : q ≤ k) :
    0 < k - q → ∃ ad, (if C = q then V else V.map (fun x => x.add q)) = some ad ∧ ∀ j u, (nums .i64 (acc.drop q))[j]? = some u → w.cell? (ad.add j) = some u := by
  intro h0
  rcases sl_cells h hl with ⟨rfl, h1, h2⟩ | ⟨g, rfl, h1, _, _, h2⟩
  · omega
  · rw [if_neg (by omega)]
    refine ⟨⟨g, q, none⟩, by simp [add_off], fun j u hu => ?_⟩
    unfold nums at hu
    rw [List.getElem?_map, List.getElem?_drop] at hu
    obtain ⟨y, hy, rfl⟩ := Option.map_eq_some_iff.1 hu
    obtain ⟨hj, rfl⟩ := List.getElem?_eq_some_iff.1 hy
    have := h2 (q + j) (by omega)
    simpa [add_off, List.getD_eq_getElem?_getD, hj] using this
/-- what a piece of a row reads: up to q -/
theorem sl_dst {w : World} {base : Nat} {V : Option Addr} {k C q : Nat} {acc : List Int} (h : w.ownsRow base 3 1 (.slice V k C) k (nums .i64 acc)) (hl : acc.length = k) (hq : q ≤ k) :
    (V = none → q = 0 ∧ q = 0) ∧ ∀ b, V = some b → ∀ j u, (nums .i64 (acc.take q))[j]? = some u → w.cell? (b.add j) = some u := by
  rcases sl_cells h hl with ⟨rfl, h1, h2⟩ | ⟨g, rfl, h1, _, _, h2⟩
  · refine ⟨fun _ => ⟨by omega, by omega⟩, fun b hb => ?_⟩
    simp at hb
  · refine ⟨fun hn => (by cases hn), fun b hb j u hu => ?_⟩
    injection hb with hb
    subst hb
    unfold nums at hu
    rw [List.getElem?_map, List.getElem?_take] at hu
    split at hu
    · obtain ⟨y, hy, rfl⟩ := Option.map_eq_some_iff.1 hu
      obtain ⟨hj, rfl⟩ := List.getElem?_eq_some_iff.1 hy
      have := h2 j (by omega)
      simpa [add_off, List.getD_eq_getElem?_getD, hj] using this
    · cases hu
/-- a row that is not empty -/
theorem own_some {w : World} {base n : Nat} {v : Value} {xs : List Value} (h : w.ownsRow base 3 1 v n xs) (hn : 0 < n) : ∃ g c, v = .slice (some ⟨g, 0, none⟩) n c ∧ ∀ j u, xs[j]? = some u → w.cell? ((⟨g, 0, none⟩ : Addr).add j) = some u := by
  rcases h.2 with ⟨_, h2⟩ | ⟨g, cap, cur, h1, hb1, hg, hc1, hc2, hcs, htk⟩
  · omega
  · refine ⟨g, cap, h1, fun j u hu => ?_⟩
    rw [add_off, blk_cell hg, ← htk] at *
    rw [List.getElem?_take] at hu
    split at hu
    · simpa using hu
    · cases hu
theorem own_far {wr w4 : World} {o : Obj} (hg : ((wr.alloc o).drew).grownBy w4 (some wr.heap.size)) {base n : Nat} {v : Value} {xs : List Value} (h : wr.ownsRow base 3 1 v n xs) : w4.ownsRow base 3 1 v n xs := by
  refine own_of_heap h fun k hk => ?_
  obtain ⟨c, hc⟩ := own_block h hk
  have hlt := blk_lt hc
  obtain ⟨_, _, _, _, hg5⟩ := hg
  have h1 := hg5 k (by show k < (wr.alloc o).heap.size; simp; omega) (by intro e; injection e; omega)
  rw [h1]
  exact Below.heap_alloc wr o k hlt
theorem below_two {w wr w4 w5 : World} {o : Obj} (hb : Below w.heap.size w wr) (hg : ((wr.alloc o).drew).grownBy w4 (some wr.heap.size)) (hg5 : w4.grownBy w5 none) : Below w.heap.size w w5 := by
  have h1 := (hb.alloc hb.size o).drew
  have h2 := h1.grown hg h1.size (fun k hk => by injection hk with hk; have := hb.size; omega)
  exact h2.grown hg5 h2.size (fun k hk => by cases hk)
theorem insS_nums (x : Int) (acc : List Int) (q : Nat) (hq : cutAt x acc acc.length = q) : nums .i64 (acc.take q) ++ (nums .i64 [x] ++ nums .i64 (acc.drop q)) = nums .i64 (insS x acc) := by
  unfold insS
  rw [hq, nums_append]
  rfl

set_option maxHeartbeats 8000000 in
set_option maxRecDepth 100000 in
theorem sortInts_any (A0 : Option Addr) (c0 : Nat) (xs : List Int) (w : World) (h : Kd.C (Kd.int .i64) w A0 xs.length xs) (hc : xs.length ≤ c0) (hb : xs.length ≤ 100000) :
    Calls Tryz.prog 70 #[.slice A0 xs.length c0] w fun e w' => ∃ v, e = .returned v ∧ w'.ownsRow w.heap.size 3 1 v xs.length (nums .i64 (insAll xs)) ∧ Below w.heap.size w w' := by
  have HC := Aside0.mk h
  obtain ⟨i0, hi, hz0, hz1, hz2⟩ := info_parts Tryz.info3
  have HI := Aside0.mk (And.intro hi (And.intro hz0 (And.intro hz1 hz2)))
  have hil := insAll_length xs
  clear h hi hz0 hz1 hz2
  go_enter Tryz.func70, Tryz.ntmps70
  go_wp2
  go_loopw [3, 9] (fun v i wr => ∃ V C k, v = .slice V k C ∧ k ≤ xs.length ∧ i = .int .i64 k ∧ Aside0 (wr.ownsRow w.heap.size 3 1 (.slice V k C) k (nums .i64 (insAll (xs.take k))) ∧ Below w.heap.size w wr)) (fun _ i _ => xs.length - (intOf i).toNat)
  case atStart => exact ⟨none, 0, 0, rfl, Nat.zero_le _, rfl, ⟨⟨rfl, .inl ⟨rfl, rfl⟩⟩, Below.refl _ _⟩⟩
  case round =>
    obtain ⟨V, C, k, rfl, hk, rfl, HR⟩ := hrel
    by_cases hlt : k < xs.length
    · obtain ⟨ad, rfl, hcx⟩ := C_int_at (Kd.C_below HC.out HR.out.2) k hlt
      have hge : xs.getD k 0 = xs[k] := by simp [List.getD_eq_getElem?_getD, hlt]
      rw [hge] at hcx
      have HS := Aside0.mk (insAll_step xs k hlt)
      have HT := Aside0.mk (show (insAll (xs.take k)).length = k by rw [insAll_length, List.length_take]; omega)
      generalize xs[k] = x at hcx HS
      generalize insAll (xs.take k) = acc at HS HT HR
      clear hge
      go_upto_region 6 with fail
      go_loop [6] (fun t => ∃ q : Nat, t = .int .i64 q ∧ q ≤ k ∧ Aside0 (cutAt x acc q = cutAt x acc k)) (fun t => (intOf t).toNat)
      case atStart => exact ⟨k, rfl, Nat.le_refl _, ⟨rfl⟩⟩
      case round =>
        obtain ⟨q, rfl, hqk, HQ⟩ := hrel
        rcases Nat.eq_zero_or_pos q with h0 | h0
        · have hd : ¬ ((0 : Int) < (q : Int)) := by omega
          have HQ2 : Aside0 (cutAt x acc k = q) := ⟨by have := HQ.out; rw [h0] at this ⊢; exact this.symm⟩
          clear HQ h0
          go_upto_region 8 with fail
          · clear hd
            have hbw := HR.out.2.size
            have hqC : (q : Int) ≤ (C : Int) := by
              rcases sl_cells HR.out.1 HT.out with ⟨_, h1, h2⟩ | ⟨_, _, h2, _⟩ <;> omega
            have hq0 : (0 : Int) ≤ (q : Int) := by omega
            have hqq : (q : Int) ≤ (q : Int) := by omega
            have hqk' : (q : Int) ≤ (k : Int) := by omega
            go_region_held3 (fun w' => True) (trivial)
              (first
                | (refine step_append_src (by rfl) _ _ _ (by rfl) w.heap.size 3 i0 _ 1 8 Tryz.underlying22 HI.out.1 HI.out.2.1 HI.out.2.2.1 HI.out.2.2.2 rfl (by omega) (.slice (some ⟨wr.heap.size, 0, none⟩) 1 1) 1 (nums .i64 [x]) (by rfl) (by exact own_of_heap (one_lit wr x hbw) (fun _ _ => rfl)) _ _ _ (nums .i64 (acc.drop q)) (by rfl) (by have := HT.out; rw [nums_length, List.length_drop]; omega) (by exact sl_src ((HR.out.1.alloc _).drew) HT.out (by omega)) (nums_one _) (by unfold maxLen; omega) (by omega) (by simp; omega) ?_; intro v4 w4 hown4 hgr4 hat4; obtain ⟨g4, c4, rfl, hcell4⟩ := own_some hown4 (by omega))
                | (refine step_append_grows (by rfl) _ _ _ (by rfl) 3 i0 _ 1 8 Tryz.underlying22 HI.out.1 HI.out.2.1 HI.out.2.2.1 HI.out.2.2.2 rfl (by omega) V q q (nums .i64 (acc.take q)) (by rfl) (by exact (sl_dst HR.out.1 HT.out hqk).1) (by have := HT.out; rw [nums_length, List.length_take]; omega) (by exact (sl_dst (own_far hgr4 HR.out.1) HT.out hqk).2) ⟨g4, 0, none⟩ (1 + (k - q)) c4 (nums .i64 [x] ++ nums .i64 (acc.drop q)) (by rfl) (by have := HT.out; rw [List.length_append, nums_length, nums_length, List.length_drop, List.length_singleton]; omega) (by exact hcell4) (by intro u hu; rcases List.mem_append.1 hu with hu | hu; exact nums_one _ u hu; exact nums_one _ u hu) (by omega) (by unfold maxLen; omega) (by omega) ?_; intro v5 w5 hown5 hgr5; rw [insS_nums x acc q (by rw [HT.out]; exact HQ2.out), show q + (1 + (k - q)) = k + 1 from by omega] at hown5; obtain ⟨V5, C5, rfl⟩ := own_slice hown5))
            go_wp2
            exact ⟨⟨V5, C5, k + 1, rfl, by omega, by simp, ⟨by rw [HS.out]; exact own_weaken hown5 (below_two HR.out.2 hgr4 ⟨rfl, rfl, rfl, Nat.le_refl _, fun _ _ _ => rfl⟩).size, below_two HR.out.2 hgr4 hgr5⟩⟩, by simp [intOf]; omega⟩
        · obtain ⟨p, rfl⟩ : ∃ p, q = p + 1 := ⟨q - 1, by omega⟩
          clear h0
          obtain ⟨y, hy⟩ : ∃ y, acc.getD p 0 = y := ⟨_, rfl⟩
          have HY := Aside0.mk hy
          obtain ⟨g, hVg, hcq⟩ : ∃ g, V = some ⟨g, 0, none⟩ ∧ wr.cell? ⟨g, p, none⟩ = some (.int .i64 y) := by
            rcases sl_cells HR.out.1 HT.out with ⟨_, h1, _⟩ | ⟨g, h1, _, _, _, h2⟩
            · omega
            · exact ⟨g, h1, by rw [← hy]; exact h2 p (by omega)⟩
          have HVg := Aside0.mk hVg
          subst hVg
          clear hy
          have hcut : cutAt x acc (p + 1) = if x < acc.getD p 0 then cutAt x acc p else p + 1 := rfl
          have HQ1 := HQ.out
          rw [hcut, HY.out] at HQ1
          by_cases hx : x < y
          · rw [if_pos hx] at HQ1
            have HQ2 := Aside0.mk HQ1
            clear HQ1 hcut HQ HY
            have hx' : decide (x < y) = true := by simpa using hx
            go_wp2
            exact ⟨⟨p, rfl, by omega, HQ2⟩, by simp [intOf]⟩
          · rw [if_neg hx] at HQ1
            have HQ2 : Aside0 (cutAt x acc k = p + 1) := ⟨HQ1.symm⟩
            clear HQ1 hcut HQ HY
            have hx' : decide (x < y) = false := by simpa using hx
            go_upto_region 8 with fail
            clear hx hx' hcq
            generalize p + 1 = q at *
            generalize (some ⟨g, 0, none⟩ : Option Addr) = V at *
            have hbw := HR.out.2.size
            have hqC : (q : Int) ≤ (C : Int) := by
              rcases sl_cells HR.out.1 HT.out with ⟨_, h1, h2⟩ | ⟨_, _, h2, _⟩ <;> omega
            have hq0 : (0 : Int) ≤ (q : Int) := by omega
            have hqq : (q : Int) ≤ (q : Int) := by omega
            have hqk' : (q : Int) ≤ (k : Int) := by omega
            go_region_held3 (fun w' => True) (trivial)
              (first
                | (refine step_append_src (by rfl) _ _ _ (by rfl) w.heap.size 3 i0 _ 1 8 Tryz.underlying22 HI.out.1 HI.out.2.1 HI.out.2.2.1 HI.out.2.2.2 rfl (by omega) (.slice (some ⟨wr.heap.size, 0, none⟩) 1 1) 1 (nums .i64 [x]) (by rfl) (by exact own_of_heap (one_lit wr x hbw) (fun _ _ => rfl)) _ _ _ (nums .i64 (acc.drop q)) (by rfl) (by have := HT.out; rw [nums_length, List.length_drop]; omega) (by exact sl_src ((HR.out.1.alloc _).drew) HT.out (by omega)) (nums_one _) (by unfold maxLen; omega) (by omega) (by simp; omega) ?_; intro v4 w4 hown4 hgr4 hat4; obtain ⟨g4, c4, rfl, hcell4⟩ := own_some hown4 (by omega))
                | (refine step_append_grows (by rfl) _ _ _ (by rfl) 3 i0 _ 1 8 Tryz.underlying22 HI.out.1 HI.out.2.1 HI.out.2.2.1 HI.out.2.2.2 rfl (by omega) V q q (nums .i64 (acc.take q)) (by rfl) (by exact (sl_dst HR.out.1 HT.out hqk).1) (by have := HT.out; rw [nums_length, List.length_take]; omega) (by exact (sl_dst (own_far hgr4 HR.out.1) HT.out hqk).2) ⟨g4, 0, none⟩ (1 + (k - q)) c4 (nums .i64 [x] ++ nums .i64 (acc.drop q)) (by rfl) (by have := HT.out; rw [List.length_append, nums_length, nums_length, List.length_drop, List.length_singleton]; omega) (by exact hcell4) (by intro u hu; rcases List.mem_append.1 hu with hu | hu; exact nums_one _ u hu; exact nums_one _ u hu) (by omega) (by unfold maxLen; omega) (by omega) ?_; intro v5 w5 hown5 hgr5; rw [insS_nums x acc q (by rw [HT.out]; exact HQ2.out), show q + (1 + (k - q)) = k + 1 from by omega] at hown5; obtain ⟨V5, C5, rfl⟩ := own_slice hown5))
            go_wp2
            exact ⟨⟨V5, C5, k + 1, rfl, by omega, by simp, ⟨by rw [HS.out]; exact own_weaken hown5 (below_two HR.out.2 hgr4 ⟨rfl, rfl, rfl, Nat.le_refl _, fun _ _ _ => rfl⟩).size, below_two HR.out.2 hgr4 hgr5⟩⟩, by simp [intOf]; omega⟩
    · have hk1 : k = xs.length := by omega
      subst hk1
      rw [List.take_length] at HR
      have hx' : ¬ ((xs.length : Int) < (xs.length : Int)) := by omega
      go_wp2
      go_ret
      exact ⟨_, rfl, HR.out.1, HR.out.2⟩
end Go.Proofs.YtddklkgcodjijaaGreat.Q

namespace Go.Proofs.YtddklkgcodjijaaGreat.PL
open Go.RowKit Go.Lab Go.Proofs.YtddklkgcodjijaaGreatW.PrintWords Go.Proofs.YtddklkgcodjijaaGreatW.PrintLast Go.Proofs.YtddklkgcodjijaaGreatW.PrintMore Go.Proofs.YtddklkgcodjijaaGreat.Q
def spec_sortInts.f (l0 : List Int) : Option (List Int) := if l0.length ≤ 100000 then some (srt l0) else none
theorem spec_sortInts.calls (A0 : Option Addr) (c0 : Nat) (l0 : List Int) (r : List Int) (w : World) (hr0 : Kd.C (Kd.int .i64) w A0 l0.length l0) (hc0 : l0.length ≤ c0) (h : spec_sortInts.f l0 = some r) :
    Calls Tryz.prog 70 #[.slice A0 l0.length c0] w fun e w' => ∃ v0_ : Value, e = .returned (v0_) ∧ Kd.R (Kd.int .i64) 3 w' w.heap.size (fun _ => True) v0_ r ∧ Below w.heap.size w w' := by
  unfold spec_sortInts.f at h
  split at h
  · injection h with h
    subst h
    refine (sortInts_any A0 c0 l0 w hr0 hc0 (by assumption)).mono ?_
    rintro e w' ⟨v, rfl, ho, hb⟩
    refine ⟨v, rfl, R_of_ints ?_, hb⟩
    rw [insAll_srt] at ho
    rw [srt_length]
    exact ho
  · cases h
end Go.Proofs.YtddklkgcodjijaaGreat.PL
