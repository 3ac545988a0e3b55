import Derived.Test.YtddklkgcodjijaaGreatAG0
import Derived.Test.YtddklkgcodjijaaGreatAG4
set_option linter.unusedVariables false
set_option linter.unusedSimpArgs false
/- Printed by a program (the kit's printer, run over contracts that were proved by hand). -/
namespace Go.Proofs.YtddklkgcodjijaaGreat.PL
open Go.RowKit Go.Proofs.YtddklkgcodjijaaGreatW.PrintWords Go.Proofs.YtddklkgcodjijaaGreatW.PrintLast Go.Proofs.YtddklkgcodjijaaGreatW.PrintMore
attribute [local go_sem] max2_int min2_int max_two min_two max_three min_three max_four min_four   -- for this text's walks alone

/-! ### spec_reached: function 72 -/
mutual
def spec_reached.l0 : Nat → List Int → Int → Bool → List Int → List (S95) → Option (List Int)
 | 0, _, _, _, _, _ => none
 | k + 1, x5, x6, x163000, x163001, x163002 => if x6 < (x5.length : Int) then (if 0 ≤ x6 then ((spec_From.f k x163000 x163001 x163002 (rd x5 x6)).bind fun t170 => (spec_reached.l1 k x5 x6 t170 (t170.length : Int) 0 x163000 x163001 x163002)) else (none)) else ((spec_sortInts.f x5).bind fun t166 => (some t166))
def spec_reached.l1 : Nat → List Int → Int → List Int → Int → Int → Bool → List Int → List (S95) → Option (List Int)
 | 0, _, _, _, _, _, _, _, _ => none
 | k + 1, x5, x6, x22, x23, x24, x163000, x163001, x163002 => if x24 < x23 then (if 0 ≤ x24 then (if x24 < (x22.length : Int) then ((spec_hasInt.f k x5 (rd x22 x24)).bind fun t174 => (if t174 = true then (spec_reached.l1 k x5 x6 x22 x23 (wrap64 (x24 + 1)) x163000 x163001 x163002) else (if x5.length < 17592186044416 then (spec_reached.l1 k (x5 ++ [rd x22 x24]) x6 x22 x23 (wrap64 (x24 + 1)) x163000 x163001 x163002) else (none)))) else (none)) else (none)) else (spec_reached.l0 k x5 (wrap64 (x6 + 1)) x163000 x163001 x163002)
end
def spec_reached.f (k : Nat) (a0_0 : Bool) (l0_1 : List Int) (l0_2 : List (S95)) (a1 : Int) : Option (List Int) := spec_reached.l0 k (([a1] : List Int)) 0 a0_0 l0_1 l0_2
def spec_reached.T5 : Bool × List (List Nat × List Nat) := (true, [([], []), ([], []), ([], []), ([1, 2], [1, 2]), ([3], [3]), ([0, 4], [0, 4]), ([5], [5]), ([], [])])
def spec_reached.B5 : List Nat := [0, 0, 0, 6, 14, 31, 63, 0]
theorem spec_reached.tab5 : rtab .any (opsOf Tryz.f72 5) = spec_reached.T5 := by kernel_rfl
theorem spec_reached.bits5 : waitsOk spec_reached.T5.2 spec_reached.B5 = true := by kernel_rfl
set_option maxHeartbeats 8000000 in
set_option maxRecDepth 100000 in
theorem spec_reached.calls (k : Nat) (a0_0 : Bool) (A0_1 : Option Addr) (c0_1 : Nat) (l0_1 : List Int) (A0_2 : Option Addr) (c0_2 : Nat) (l0_2 : List (S95)) (a1 : Int) (r : List Int) (w : World) (hr0_1 : Kd.C (Kd.int .i64) w A0_1 l0_1.length l0_1) (hc0_1 : l0_1.length ≤ c0_1) (hr0_2 : Kd.C k95 w A0_2 l0_2.length l0_2) (hc0_2 : l0_2.length ≤ c0_2) (h : spec_reached.f k a0_0 l0_1 l0_2 a1 = some r) :
  Calls Tryz.prog 72 #[.agg #[.bool a0_0, .slice A0_1 l0_1.length c0_1, .slice A0_2 l0_2.length c0_2], .int .i64 a1] w fun e w' => ∃ v0_ : Value, e = .returned (v0_) ∧ Kd.R (Kd.int .i64) 3 w' w.heap.size (fun _ => True) v0_ r ∧ Below w.heap.size w w' := by
 have hu25 := Tryz.underlying25
 have HR0_1 := Aside0.mk hr0_1
 have HC0_1 := Aside0.mk hc0_1
 clear hr0_1 hc0_1
 have HR0_2 := Aside0.mk hr0_2
 have HC0_2 := Aside0.mk hc0_2
 clear hr0_2 hc0_2
 have HB := Aside0.mk (Below.refl w.heap.size w)
 have H : (spec_reached.l0 k (([a1] : List Int)) 0 a0_0 l0_1 l0_2) = some r := h
 clear h
 obtain ⟨y163, hy163⟩ : ∃ y_ : List Int, y_ = (([a1] : List Int)) := ⟨_, rfl⟩
 replace H : (spec_reached.l0 k y163 0 a0_0 l0_1 l0_2) = some r := by first | (rw [hy163]; with_reducible exact H) | (have H2_ := (Option.bind_some _ _).symm.trans H; rw [hy163]; with_reducible exact H2_) | (have H2_ := (Option.bind_some _ _).symm.trans H; with_reducible exact H2_) | with_reducible exact H | (rw [hy163]; exact H) | exact H
 have Ny163 := Aside0.mk hy163
 clear hy163
 have H' := Aside0.mk H
 clear H
 go_enter Tryz.func72, Tryz.ntmps72
 go_wp2_with (first | ((with_reducible refine gate_dst (N := 2) rfl ?_); refine box_event ?hg (N := 2) ?hd (cs := #[.bool a0_0, .slice A0_1 l0_1.length c0_1, .slice A0_2 l0_2.length c0_2]) (t := 25) ?hr ?_; (case hd => rfl); (case hg => rfl); (case hr => first | (go_simp; done) | (go_simp; rfl)); intro gb162 hg w3 hbox hb; have n0_ := Aside0.mk (below_step (by repeat (first | (with_reducible first | exact HB.out | apply below_alloc | apply pw_below_drewN | apply below_drew1) | exact HB.out)) hb); have n1_ := Aside0.mk (hbox); have n2_ := Aside0.mk ((by rw [hg]; exact (below_size (by repeat (first | (with_reducible first | exact HB.out | apply below_alloc | apply pw_below_drewN | apply below_drew1) | exact HB.out))) : w.heap.size ≤ gb162)); have n3_ := Aside0.mk ((by rw [hg]; exact (below_size (by repeat (first | (with_reducible first | exact HB.out | apply below_alloc | apply pw_below_drewN | apply below_drew1) | exact HB.out))) : w.heap.size ≤ gb162)); clear HB; have HB := n0_; have BK162 := n1_; have GW162 := n2_; have GE162 := n3_; clear n0_ n1_ n2_ n3_; clear hb hbox hg) | ((with_reducible refine gate_dst (N := 10) rfl ?_); refine Kd.R_lit (Kd.int .i64) _ 3 ?hg (N := 10) ?hd (xs := ([a1] : List Int)) (inner := [.int .i64 a1]) (ok := fun _ => True) (okp := fun _ => True) ?hr ?hp (fun _ hk => hk) trivial (Below.refl _ _) (Nat.le_refl _) (by simp) ?_; (case hd => rfl); (case hg => rfl); (case hr => first | (go_simp; done) | (go_simp; rfl)); (case hp => exact (Reps.one (show Kd.M (Kd.int .i64) _ _ _ a1 [.int .i64 a1] from rfl) (Reps.none _ _))); intro v164 w4 ho5 hb hg_ hnew_; clear hg_ hnew_; (first | rw [← Ny163.out] at ho5 | (simp only [Int.reduceToNat] at ho5; rw [← Ny163.out] at ho5)); have n0_ := Aside0.mk (Kd.R_lower ho5 (below_size (by repeat (first | (with_reducible first | exact HB.out | apply below_alloc | apply pw_below_drewN | apply below_drew1 | refine below_set ?_ GE162.out) | exact HB.out)))); have n1_ := Aside0.mk (blk_below (g := gb162) (o := .cells #[.bool a0_0, .slice A0_1 l0_1.length c0_1, .slice A0_2 l0_2.length c0_2] 25 (0, 0)) (by (with_reducible repeat (first | refine blk_drewN ?_ _ | refine blk_drew ?_ | refine blk_alloc ?_ _)); exact BK162.out) hb); have n2_ := Aside0.mk (below_step (by repeat (first | (with_reducible first | exact HB.out | apply below_alloc | apply pw_below_drewN | apply below_drew1 | refine below_set ?_ GE162.out) | exact HB.out)) hb); clear BK162; clear HB; have HO165 := n0_; have BK162 := n1_; have HB := n2_; clear n0_ n1_ n2_; clear hb ho5))
 go_loopg [5, 6] k (fun kq v5 v6 w' => ∃ (x5_1 : List Int) (x6_1 : Int), v6 = .int .i64 x6_1 ∧ Aside0 (spec_reached.l0 kq x5_1 x6_1 a0_0 l0_1 l0_2 = some r) ∧ Aside0 (kq ≤ k) ∧ Aside0 (Kd.R (Kd.int .i64) 3 w' w.heap.size (fun _ => True) v5 x5_1) ∧ Aside0 (w'.heap[gb162]? = some (.cells #[.bool a0_0, (.slice A0_1 l0_1.length c0_1), (.slice A0_2 l0_2.length c0_2)] 25 (0, 0))) ∧ Aside0 (Below w.heap.size w w'))
 case atStart => exact ⟨(y163), (0), (by first | rfl | (simp; done) | (simp [*]; done)), H', ⟨Nat.le_refl _⟩, ⟨by (with_reducible repeat (first | apply Kd.R_alloc | apply Kd.R_drewN | apply Kd.R_drew)); exact HO165.out⟩, ⟨by (with_reducible repeat (first | refine blk_drewN ?_ _ | refine blk_drew ?_ | refine blk_alloc ?_ _)); exact BK162.out⟩, ⟨by repeat (first | (with_reducible first | exact HB.out | apply below_alloc | apply pw_below_drewN | apply below_drew1 | refine below_set ?_ GE162.out) | exact HB.out)⟩⟩
 case round =>
  clear H'
  try clear p2
  obtain ⟨x5_1, x6_1, rfl, HA, HK1, HO_5, BK162, HB⟩ := hrel
  cases gk with
  | zero => exact absurd HA.out (by simp [spec_reached.l0])
  | succ k1 =>
   have H := HA.out
   clear HA
   simp only [spec_reached.l0] at H
   by_cases c6 : x6_1 < (x5_1.length : Int)
   ·rw [if_pos c6] at H
    have c6b0 : decide (x6_1 < (x5_1.length : Int)) = true := decide_eq_true c6
    clear c6
    by_cases c7 : 0 ≤ x6_1
    ·rw [if_pos c7] at H
     have c7b0 : decide (0 ≤ x6_1) = true := decide_eq_true c7
     clear c7
     replace H := Option.bind_eq_some_iff.mp H
     obtain ⟨t170, A80, H⟩ := H
     replace H : (spec_reached.l1 k1 x5_1 x6_1 t170 (t170.length : Int) 0 a0_0 l0_1 l0_2) = some r := H
     have A8 := Aside0.mk A80
     clear A80
     have H' := Aside0.mk H
     clear H
     obtain ⟨Ao9, co9, eo9⟩ := Kd.R_slice HO_5.out
     subst eo9
     try go_wp2
     have n0_ := Aside0.mk (Kd.R_drew HO_5.out)
     have n1_ := Aside0.mk (blk_drew BK162.out)
     have n2_ := Aside0.mk (below_drew1 HB.out)
     clear HO_5
     clear BK162
     clear HB
     have HO_5 := n0_
     have BK162 := n1_
     have HB := n2_
     clear n0_ n1_ n2_
     have p169 : 0 ≤ (x6_1 : Int) := of_decide_eq_true (by first | (with_reducible assumption) | assumption)
     have q169 : x6_1 < (x5_1.length : Int) := of_decide_eq_true (by first | (with_reducible assumption) | assumption)
     obtain ⟨ad169, e169, hx169_0⟩ := Kd.at_int (Kd.R_reads' HO_5.out).2.2 x6_1 p169 q169
     cases e169
     replace p169 := eq_true p169
     replace q169 := eq_true q169
     refine start_ (n := 8) (S := fun w' => w'.cell? ⟨gb162, 0, none⟩ = some (.bool a0_0) ∧ w'.cell? ⟨gb162, 1, none⟩ = some (.slice A0_1 l0_1.length c0_1) ∧ w'.cell? ⟨gb162, 2, none⟩ = some (.slice A0_2 l0_2.length c0_2) ∧ w'.cell? (ad169.add (x6_1).toNat) = some (.int .i64 (rd x5_1 x6_1))) (ds := []) #[false, false, false, false, false, false, false, false] (by kernel_rfl) rfl rfl ⟨(blk_cell BK162.out 0).trans rfl, (blk_cell BK162.out 1).trans rfl, (blk_cell BK162.out 2).trans rfl, hx169_0⟩ (fun hHeld => ?_); refine with_tabW spec_reached.tab5 spec_reached.bits5 (fun HT_ HW_ => ?_)
     generalize wr.drew = w10 at HO_5 BK162 HB hx169_0 hHeld ⊢
     refine pure_ (i := 1) (N := some 18) (v := ?_) (a' := ?_) #[false, true, false, false, false, false, false, false] rfl rfl (any_of HT_.out (by kernel_rfl)) (fun _ _ _ h => h) (Or.inl ⟨by rfl, ?_⟩) ?_ ?_
     rotate_left
     ·intro w'
      go_simp
      with_reducible rfl
     rotate_left
     ·simp only [Act.put, List.setIfInBounds_toArray, List.set_cons_zero, List.set_cons_succ, i64_w, i32_w]
      rfl
     refine pure_ (i := 2) (N := some 19) (v := ?_) (a' := ?_) #[false, true, true, false, false, false, false, false] rfl rfl (any_of HT_.out (by kernel_rfl)) (fun _ _ _ h => h) (Or.inl ⟨by rfl, ?_⟩) ?_ ?_
     rotate_left
     ·intro w'
      go_simp
      with_reducible rfl
     rotate_left
     ·simp only [Act.put, List.setIfInBounds_toArray, List.set_cons_zero, List.set_cons_succ, i64_w, i32_w]
      rfl
     refine pure_ (i := 3) (N := some 20) (v := ?_) (a' := ?_) #[false, true, true, true, false, false, false, false] rfl rfl (any_of HT_.out (by kernel_rfl)) (fun _ _ _ h => h) (Or.inl ⟨by rfl, ?_⟩) ?_ ?_
     rotate_left
     ·intro w'
      go_simp
      with_reducible rfl
     rotate_left
     ·simp only [Act.put, List.setIfInBounds_toArray, List.set_cons_zero, List.set_cons_succ, i64_w, i32_w]
      rfl
     refine pure_ (i := 7) (N := some 24) (v := ?_) (a' := ?_) #[false, true, true, true, false, false, false, true] rfl rfl (any_of HT_.out (by kernel_rfl)) (fun _ _ _ h => h) (Or.inl ⟨by rfl, ?_⟩) ?_ ?_
     rotate_left
     ·intro w'
      go_simp
      with_reducible rfl
     rotate_left
     ·simp only [Act.put, List.setIfInBounds_toArray, List.set_cons_zero, List.set_cons_succ, i64_w, i32_w]
      rfl
     refine take_ (i := 0) (N := some 17) (v := ?_) (a' := ?_) #[true, true, true, true, false, false, false, true] rfl rfl (take_ofW HT_.out HW_.out (by kernel_rfl)) (fun _ _ _ h => h) (Or.inl ⟨by rfl, ?_⟩) hHeld ?_ ?_
     rotate_left
     ·rintro w' ⟨s0, s1, s2, s3⟩
      go_simp
      with_reducible rfl
     rotate_left
     ·simp only [Act.put, List.setIfInBounds_toArray, List.set_cons_zero, List.set_cons_succ, i64_w, i32_w]
      rfl
     refine take_ (i := 4) (N := some 21) (v := ?_) (a' := ?_) #[true, true, true, true, true, false, false, true] rfl rfl (take_ofW HT_.out HW_.out (by kernel_rfl)) (fun _ _ _ h => h) (Or.inl ⟨by rfl, ?_⟩) hHeld ?_ ?_
     rotate_left
     ·rintro w' ⟨s0, s1, s2, s3⟩
      go_simp
      with_reducible rfl
     rotate_left
     ·simp only [Act.put, List.setIfInBounds_toArray, List.set_cons_zero, List.set_cons_succ, i64_w, i32_w]
      rfl
     refine one_ (i := 5) (N := some 22) #[true, true, true, true, true, true, false, true] rfl rfl (one_of HT_.out (by kernel_rfl)) (by decide) (fun K hK => ?_)
     refine goes_ Tryz.func71 (by kernel_rfl) rfl #[.agg #[.bool a0_0, .slice A0_1 l0_1.length c0_1, .slice A0_2 l0_2.length c0_2], .int .i64 (rd x5_1 x6_1)] (by rfl) rfl rfl (by (try simp only [List.map_toArray, List.map_cons, List.map_nil]); first | done | rfl | (simp only [List.length_drop, List.length_take]; rfl)) ?_
     with_reducible refine (spec_From.calls k1 a0_0 _ _ l0_1 _ _ l0_2 (rd x5_1 x6_1) t170 _ ?side1 ?side2 ?side3 ?side4 A8.out).mono ?_
     (case side1 => repeat (first | exact (Kd.C_below HR0_1.out HB.out) | (with_reducible refine Kd.C_alloc ?_ _) | (with_reducible refine Kd.C_drewN ?_ _) | (with_reducible refine Kd.C_drew ?_)))
     (case side2 => exact HC0_1.out)
     (case side3 => repeat (first | exact (Kd.C_below HR0_2.out HB.out) | (with_reducible refine Kd.C_alloc ?_ _) | (with_reducible refine Kd.C_drewN ?_ _) | (with_reducible refine Kd.C_drew ?_)))
     (case side4 => exact HC0_2.out)
     rintro e w11 ⟨v171, rfl, ho0, hb⟩
     have HS3_ := (hb.cell (World.block_lt_of_cell? _ _ (hHeld.2.2.2))).trans (hHeld.2.2.2)
     refine ⟨_, rfl, ?_⟩
     have n0_ := Aside0.mk (Kd.R_elder' (by (with_reducible repeat (first | apply Kd.R_alloc | apply Kd.R_drewN | apply Kd.R_drew)); exact HO_5.out) (Kd.R_base ho0) hb)
     have n1_ := Aside0.mk (Kd.R_lower (Kd.R_new' ho0 (Kd.R_lt (by (with_reducible repeat (first | apply Kd.R_alloc | apply Kd.R_drewN | apply Kd.R_drew)); exact HO_5.out))) (below_size (by repeat (first | (with_reducible first | exact HB.out | apply below_alloc | apply pw_below_drewN | apply below_drew1 | refine below_set ?_ GE162.out) | exact HB.out))))
     have n2_ := Aside0.mk (blk_below (g := gb162) (o := .cells #[.bool a0_0, .slice A0_1 l0_1.length c0_1, .slice A0_2 l0_2.length c0_2] 25 (0, 0)) (by (with_reducible repeat (first | refine blk_drewN ?_ _ | refine blk_drew ?_ | refine blk_alloc ?_ _)); exact BK162.out) hb)
     have n3_ := Aside0.mk (below_step (by repeat (first | (with_reducible first | exact HB.out | apply below_alloc | apply pw_below_drewN | apply below_drew1 | refine below_set ?_ GE162.out) | exact HB.out)) hb)
     clear HO_5
     clear BK162
     clear HB
     have HO_5 := n0_
     have HO172 := n1_
     have BK162 := n2_
     have HB := n3_
     clear n0_ n1_ n2_ n3_
     (try clear hb)
     (try clear hb2)
     (try clear hk)
     (try clear hi)
     (try clear ho0)
     obtain ⟨Ao12, co12, eo12⟩ := Kd.R_slice HO172.out
     (first | subst eo12 | (injection eo12 with f1_ f2_ f3_; have f4_ := f1_.symm; have f5_ := f3_.symm; clear f1_ f2_ f3_; subst f4_; subst f5_))
     refine hK.out _ _ ⟨(blk_cell BK162.out 0).trans rfl, (blk_cell BK162.out 1).trans rfl, (blk_cell BK162.out 2).trans rfl, HS3_⟩ (fun hHeld => ?_)
     clear hK K
     refine norm_ (a' := ?_) ?_ ?_
     rotate_left
     ·show Act.put _ (some 22) _ = _
      simp only [Act.put, List.setIfInBounds_toArray, List.set_cons_zero, List.set_cons_succ, i64_w, i32_w]
      rfl
     refine pure_ (i := 6) (N := some 23) (v := ?_) (a' := ?_) #[true, true, true, true, true, true, true, true] rfl rfl (any_of HT_.out (by kernel_rfl)) (fun _ _ _ h => h) (Or.inl ⟨by rfl, ?_⟩) ?_ ?_
     rotate_left
     ·intro w'
      go_simp
      with_reducible rfl
     rotate_left
     ·simp only [Act.put, List.setIfInBounds_toArray, List.set_cons_zero, List.set_cons_succ, i64_w, i32_w]
      rfl
     refine done_ (done_of HT_.out (by kernel_rfl)) ?_
     try go_wp2
     go_loopg [5, 24] k1 (fun kq v5 v24 w' => ∃ (x5_2 : List Int) (x24_2 : Int), v24 = .int .i64 x24_2 ∧ Aside0 (spec_reached.l1 kq x5_2 x6_1 t170 (t170.length : Int) x24_2 a0_0 l0_1 l0_2 = some r) ∧ Aside0 (kq ≤ k1) ∧ Aside0 (Kd.R (Kd.int .i64) 3 w' w.heap.size (fun k_ => some k_ ≠ ((.slice Ao12 t170.length co12) : Value).ownBlock) v5 x5_2) ∧ Aside0 (Kd.R (Kd.int .i64) 3 w' w.heap.size (fun k_ => some k_ ≠ (v5 : Value).ownBlock) (.slice Ao12 t170.length co12) t170) ∧ Aside0 (w'.heap[gb162]? = some (.cells #[.bool a0_0, (.slice A0_1 l0_1.length c0_1), (.slice A0_2 l0_2.length c0_2)] 25 (0, 0))) ∧ Aside0 (Below w.heap.size w w'))
     case atStart => exact ⟨(x5_1), (0), (by first | rfl | (simp; done) | (simp [*]; done)), H', ⟨Nat.le_refl _⟩, ⟨by (with_reducible repeat (first | apply Kd.R_alloc | apply Kd.R_drewN | apply Kd.R_drew)); exact Kd.R_mono HO_5.out (fun _ hk => hk.2)⟩, ⟨by (with_reducible repeat (first | apply Kd.R_alloc | apply Kd.R_drewN | apply Kd.R_drew)); exact Kd.R_mono HO172.out (fun _ hk => hk.2)⟩, ⟨by (with_reducible repeat (first | refine blk_drewN ?_ _ | refine blk_drew ?_ | refine blk_alloc ?_ _)); exact BK162.out⟩, ⟨by repeat (first | (with_reducible first | exact HB.out | apply below_alloc | apply pw_below_drewN | apply below_drew1 | refine below_set ?_ GE162.out) | exact HB.out)⟩⟩
     case round =>
      clear H'
      try clear p1
      try clear q1
      try clear hx1
      try clear p2
      try clear c6
      try clear c6b0
      try clear c7
      try clear c7b0
      try clear hx169_0
      try clear p169
      try clear p2
      try clear q169
      obtain ⟨x5_2, x24_2, rfl, HA, HK2, HO_5, HO_22, BK162, HB⟩ := hrel
      cases gk with
      | zero => exact absurd HA.out (by simp [spec_reached.l1])
      | succ k2 =>
       have H := HA.out
       clear HA
       simp only [spec_reached.l1] at H
       by_cases c13 : x24_2 < (t170.length : Int)
       ·rw [if_pos c13] at H
        have c13b0 : decide (x24_2 < (t170.length : Int)) = true := decide_eq_true c13
        clear c13
        by_cases c14 : 0 ≤ x24_2
        ·rw [if_pos c14] at H
         have c14b0 : decide (0 ≤ x24_2) = true := decide_eq_true c14
         clear c14
         by_cases c15 : x24_2 < (t170.length : Int)
         ·rw [if_pos c15] at H
          have c15b0 : decide (x24_2 < (t170.length : Int)) = true := decide_eq_true c15
          clear c15
          replace H := Option.bind_eq_some_iff.mp H
          obtain ⟨t174, A160, H⟩ := H
          replace H : (if t174 = true then (spec_reached.l1 k2 x5_2 x6_1 t170 (t170.length : Int) (wrap64 (x24_2 + 1)) a0_0 l0_1 l0_2) else (if x5_2.length < 17592186044416 then (spec_reached.l1 k2 (x5_2 ++ [rd t170 x24_2]) x6_1 t170 (t170.length : Int) (wrap64 (x24_2 + 1)) a0_0 l0_1 l0_2) else (none))) = some r := H
          have A16 := Aside0.mk A160
          clear A160
          by_cases c17 : t174 = true
          ·subst c17
           have H1 : (spec_reached.l1 k2 x5_2 x6_1 t170 (t170.length : Int) (wrap64 (x24_2 + 1)) a0_0 l0_1 l0_2) = some r := by rw [if_pos rfl] at H; exact H
           clear H
           have H := H1
           clear H1
           have H' := Aside0.mk H
           clear H
           have p173 : 0 ≤ (x24_2 : Int) := of_decide_eq_true (by first | (with_reducible assumption) | assumption)
           have q173 : x24_2 < (t170.length : Int) := of_decide_eq_true (by first | (with_reducible assumption) | assumption)
           obtain ⟨ad173, e173, hx173_0⟩ := Kd.at_int (Kd.R_reads' HO_22.out).2.2 x24_2 p173 q173
           cases e173
           replace p173 := eq_true p173
           replace q173 := eq_true q173
           obtain ⟨Ao18, co18, eo18⟩ := Kd.R_slice HO_5.out
           subst eo18
           go_wp2_with (first | ((with_reducible refine gate_callee (f := 33) rfl ?_); refine goesL_ (some 30) rfl rfl Tryz.func33 (by kernel_rfl) rfl #[.slice Ao18 x5_2.length co18, .int .i64 (rd t170 x24_2)] rfl (by (try simp only [List.map_toArray, List.map_cons, List.map_nil]); first | done | rfl | (simp only [List.length_drop, List.length_take]; rfl)) ?_; (with_reducible refine (spec_hasInt.calls k2 _ _ x5_2 (rd t170 x24_2) true _ ?side1 ?side2 A16.out).mono ?_); (case side1 => repeat (first | exact (Kd.R_reads' HO_5.out).2.2 | (with_reducible refine Kd.C_alloc ?_ _) | (with_reducible refine Kd.C_drewN ?_ _) | (with_reducible refine Kd.C_drew ?_))); (case side2 => exact (Kd.R_reads' HO_5.out).2.1); rintro e w' ⟨rfl, ⟨nd, rfl⟩⟩; refine ⟨_, rfl, ?_⟩))
           go_roundg k2
           case measure => have := HK1.out; have := HK2.out; omega
           case rel => exact ⟨(x5_2), (wrap64 (x24_2 + 1)), (by first | rfl | (simp; done) | (simp [*]; done)), H', ⟨by have := HK1.out; have := HK2.out; omega⟩, ⟨by (with_reducible repeat (first | apply Kd.R_alloc | apply Kd.R_drewN | apply Kd.R_drew)); exact HO_5.out⟩, ⟨by (with_reducible repeat (first | apply Kd.R_alloc | apply Kd.R_drewN | apply Kd.R_drew)); exact HO_22.out⟩, ⟨by (with_reducible repeat (first | refine blk_drewN ?_ _ | refine blk_drew ?_ | refine blk_alloc ?_ _)); exact BK162.out⟩, ⟨by repeat (first | (with_reducible first | exact HB.out | apply below_alloc | apply pw_below_drewN | apply below_drew1 | refine below_set ?_ GE162.out) | exact HB.out)⟩⟩
          ·replace c17 := Bool.eq_false_iff.mpr c17
           subst c17
           have H1 : (if x5_2.length < 17592186044416 then (spec_reached.l1 k2 (x5_2 ++ [rd t170 x24_2]) x6_1 t170 (t170.length : Int) (wrap64 (x24_2 + 1)) a0_0 l0_1 l0_2) else (none)) = some r := by rw [if_neg (show ¬ (false = true) by decide)] at H; exact H
           clear H
           have H := H1
           clear H1
           by_cases c19 : x5_2.length < 17592186044416
           ·rw [if_pos c19] at H
            have LMc19 := Aside0.mk c19
            clear c19
            obtain ⟨y175, hy175⟩ : ∃ y_ : List Int, y_ = (x5_2 ++ [rd t170 x24_2]) := ⟨_, rfl⟩
            replace H : (spec_reached.l1 k2 y175 x6_1 t170 (t170.length : Int) (wrap64 (x24_2 + 1)) a0_0 l0_1 l0_2) = some r := by first | (rw [hy175]; with_reducible exact H) | (have H2_ := (Option.bind_some _ _).symm.trans H; rw [hy175]; with_reducible exact H2_) | (have H2_ := (Option.bind_some _ _).symm.trans H; with_reducible exact H2_) | with_reducible exact H | (rw [hy175]; exact H) | exact H
            have Ny175 := Aside0.mk hy175
            clear hy175
            have H' := Aside0.mk H
            clear H
            have p173 : 0 ≤ (x24_2 : Int) := of_decide_eq_true (by first | (with_reducible assumption) | assumption)
            have q173 : x24_2 < (t170.length : Int) := of_decide_eq_true (by first | (with_reducible assumption) | assumption)
            obtain ⟨ad173, e173, hx173_0⟩ := Kd.at_int (Kd.R_reads' HO_22.out).2.2 x24_2 p173 q173
            cases e173
            replace p173 := eq_true p173
            replace q173 := eq_true q173
            obtain ⟨Ao20, co20, eo20⟩ := Kd.R_slice HO_5.out
            subst eo20
            go_wp2_with (first | ((with_reducible refine gate_callee (f := 33) rfl ?_); refine goesL_ (some 30) rfl rfl Tryz.func33 (by kernel_rfl) rfl #[.slice Ao20 x5_2.length co20, .int .i64 (rd t170 x24_2)] rfl (by (try simp only [List.map_toArray, List.map_cons, List.map_nil]); first | done | rfl | (simp only [List.length_drop, List.length_take]; rfl)) ?_; (with_reducible refine (spec_hasInt.calls k2 _ _ x5_2 (rd t170 x24_2) false _ ?side1 ?side2 A16.out).mono ?_); (case side1 => repeat (first | exact (Kd.R_reads' HO_5.out).2.2 | (with_reducible refine Kd.C_alloc ?_ _) | (with_reducible refine Kd.C_drewN ?_ _) | (with_reducible refine Kd.C_drew ?_))); (case side2 => exact (Kd.R_reads' HO_5.out).2.1); rintro e w' ⟨rfl, ⟨nd, rfl⟩⟩; refine ⟨_, rfl, ?_⟩) | ((with_reducible refine gate_builtin (b := .append) (xs := #[.tmp 32, .tmp 34]) rfl ?_); at_builtin; refine Kd.R_append (Kd.int .i64) (w0 := w) w.heap.size rfl (.tmp 32) (.tmp 34) 22 3 (.int .i64 0) 8 rfl Tryz.underlying22 info3 rfl (by decide) (by omega) (.slice Ao20 x5_2.length co20) x5_2 (rd t170 x24_2) [.int .i64 (rd t170 x24_2)] (fun k_ => some k_ ≠ (.slice (some ad173) t170.length co12 : Value).ownBlock) (fun _ => False) rfl rfl ?aP (fun _ hk => hk.elim) ?aF ?aO ?aB ?aS ?aL ?_; (case aP => exact rfl); (case aB => exact (by repeat (first | (with_reducible first | exact HB.out | apply below_alloc | apply pw_below_drewN | apply below_drew1 | refine below_set ?_ GE162.out) | exact HB.out))); (case aF => exact (fun k_ hk => Kd.fresh' (Kd.R_lt (by (with_reducible repeat (first | apply Kd.R_alloc | apply Kd.R_drewN | apply Kd.R_drew)); exact HO_22.out)) k_ hk)); (case aO => exact (by (with_reducible repeat (first | apply Kd.R_alloc | apply Kd.R_drewN | apply Kd.R_drew)); exact HO_5.out)); (case aS => exact (below_size (by repeat (first | (with_reducible first | exact HB.out | apply below_alloc | apply pw_below_drewN | apply below_drew1 | refine below_set ?_ GE162.out) | exact HB.out)))); (case aL => have := LMc19.out; omega); intro v176 w21 ho hb hg hat; rw [← Ny175.out] at ho; have n0_ := Aside0.mk (Kd.R_after (ok := (fun _ => True)) (by (with_reducible repeat (first | apply Kd.R_alloc | apply Kd.R_drewN | apply Kd.R_drew)); exact Kd.R_mono HO_22.out (fun _ hk => ⟨trivial, hk⟩)) hg hat); have n1_ := Aside0.mk (blk_grown (g := gb162) (o := .cells #[.bool a0_0, .slice A0_1 l0_1.length c0_1, .slice A0_2 l0_2.length c0_2] 25 (0, 0)) (by (with_reducible repeat (first | refine blk_drewN ?_ _ | refine blk_drew ?_ | refine blk_alloc ?_ _)); exact BK162.out) hg (Kd.R_ne HO_5.out BK162.out (by decide))); have n2_ := Aside0.mk (hb); have n3_ := Aside0.mk (ho); clear HO_22; clear BK162; clear HB; clear HO_5; have HO_22 := n0_; have BK162 := n1_; have HB := n2_; have HO177 := n3_; clear n0_ n1_ n2_ n3_; clear ho hb hg hat))
            go_roundg k2
            case measure => have := HK1.out; have := HK2.out; omega
            case rel => exact ⟨(y175), (wrap64 (x24_2 + 1)), (by first | rfl | (simp; done) | (simp [*]; done)), H', ⟨by have := HK1.out; have := HK2.out; omega⟩, ⟨by (with_reducible repeat (first | apply Kd.R_alloc | apply Kd.R_drewN | apply Kd.R_drew)); exact HO177.out⟩, ⟨by (with_reducible repeat (first | apply Kd.R_alloc | apply Kd.R_drewN | apply Kd.R_drew)); exact Kd.R_mono HO_22.out (fun _ hk => hk.2)⟩, ⟨by (with_reducible repeat (first | refine blk_drewN ?_ _ | refine blk_drew ?_ | refine blk_alloc ?_ _)); exact BK162.out⟩, ⟨by repeat (first | (with_reducible first | exact HB.out | apply below_alloc | apply pw_below_drewN | apply below_drew1 | refine below_set ?_ GE162.out) | exact HB.out)⟩⟩
           ·rw [if_neg c19] at H
            exact absurd H (by simp)
         ·rw [if_neg c15] at H
          exact absurd H (by simp)
        ·rw [if_neg c14] at H
         exact absurd H (by simp)
       ·rw [if_neg c13] at H
        have c13b0 : decide (x24_2 < (t170.length : Int)) = false := decide_eq_false c13
        clear c13
        have H' := Aside0.mk H
        clear H
        go_wp2
        go_roundg k2
        case measure => have := HK1.out; have := HK2.out; omega
        case rel => exact ⟨(x5_2), (wrap64 (x6_1 + 1)), (by first | rfl | (simp; done) | (simp [*]; done)), H', ⟨by have := HK1.out; have := HK2.out; omega⟩, ⟨by (with_reducible repeat (first | apply Kd.R_alloc | apply Kd.R_drewN | apply Kd.R_drew)); exact Kd.R_mono HO_5.out (fun _ hk => trivial)⟩, ⟨by (with_reducible repeat (first | refine blk_drewN ?_ _ | refine blk_drew ?_ | refine blk_alloc ?_ _)); exact BK162.out⟩, ⟨by repeat (first | (with_reducible first | exact HB.out | apply below_alloc | apply pw_below_drewN | apply below_drew1 | refine below_set ?_ GE162.out) | exact HB.out)⟩⟩
    ·rw [if_neg c7] at H
     exact absurd H (by simp)
   ·rw [if_neg c6] at H
    have c6b0 : decide (x6_1 < (x5_1.length : Int)) = false := decide_eq_false c6
    clear c6
    replace H := Option.bind_eq_some_iff.mp H
    obtain ⟨t166, A220, H⟩ := H
    replace H : (some t166) = some r := H
    have A22 := Aside0.mk A220
    clear A220
    obtain rfl := Option.some.inj H
    obtain ⟨Ao23, co23, eo23⟩ := Kd.R_slice HO_5.out
    subst eo23
    go_wp2_with (first | ((with_reducible refine gate_callee (f := 70) rfl ?_); refine goesL_ (some 38) rfl rfl Tryz.func70 (by kernel_rfl) rfl #[.slice Ao23 x5_1.length co23] rfl (by (try simp only [List.map_toArray, List.map_cons, List.map_nil]); first | done | rfl | (simp only [List.length_drop, List.length_take]; rfl)) ?_; (with_reducible refine (spec_sortInts.calls _ _ x5_1 t166 _ ?side1 ?side2 A22.out).mono ?_); (case side1 => repeat (first | exact (Kd.R_reads' HO_5.out).2.2 | (with_reducible refine Kd.C_alloc ?_ _) | (with_reducible refine Kd.C_drewN ?_ _) | (with_reducible refine Kd.C_drew ?_))); (case side2 => exact (Kd.R_reads' HO_5.out).2.1); rintro e w24 ⟨v167, rfl, ho0, hb⟩; refine ⟨_, rfl, ?_⟩; have n0_ := Aside0.mk (Kd.R_elder' (by (with_reducible repeat (first | apply Kd.R_alloc | apply Kd.R_drewN | apply Kd.R_drew)); exact HO_5.out) (Kd.R_base ho0) hb); have n1_ := Aside0.mk (Kd.R_lower (Kd.R_new' ho0 (Kd.R_lt (by (with_reducible repeat (first | apply Kd.R_alloc | apply Kd.R_drewN | apply Kd.R_drew)); exact HO_5.out))) (below_size (by repeat (first | (with_reducible first | exact HB.out | apply below_alloc | apply pw_below_drewN | apply below_drew1 | refine below_set ?_ GE162.out) | exact HB.out)))); have n2_ := Aside0.mk (blk_below (g := gb162) (o := .cells #[.bool a0_0, .slice A0_1 l0_1.length c0_1, .slice A0_2 l0_2.length c0_2] 25 (0, 0)) (by (with_reducible repeat (first | refine blk_drewN ?_ _ | refine blk_drew ?_ | refine blk_alloc ?_ _)); exact BK162.out) hb); have n3_ := Aside0.mk (below_step (by repeat (first | (with_reducible first | exact HB.out | apply below_alloc | apply pw_below_drewN | apply below_drew1 | refine below_set ?_ GE162.out) | exact HB.out)) hb); clear HO_5; clear BK162; clear HB; have HO_5 := n0_; have HO168 := n1_; have BK162 := n2_; have HB := n3_; clear n0_ n1_ n2_ n3_; (try clear hb); (try clear hb2); (try clear hk); (try clear hi); (try clear ho0)))
    go_ret
    exact ⟨_, by first | rfl | (simp [errW_none, errW_some] <;> rfl) | (simp [*, errW_none, errW_some] <;> rfl), by (with_reducible repeat (first | apply Kd.R_alloc | apply Kd.R_drewN | apply Kd.R_drew)); exact Kd.R_mono HO168.out (fun _ hk => trivial), by repeat (first | (with_reducible first | exact HB.out | apply below_alloc | apply pw_below_drewN | apply below_drew1 | refine below_set ?_ GE162.out) | exact HB.out)⟩

/-! ### spec_Reaches: function 73 -/
def spec_Reaches.f (k : Nat) (a0_0 : Bool) (l0_1 : List Int) (l0_2 : List (S95)) (a1 : Int) (a2 : Int) : Option (Bool) := (spec_reached.f k a0_0 l0_1 l0_2 a1).bind fun t179 => ((spec_hasInt.f k t179 a2).bind fun t182 => (some t182))
set_option maxHeartbeats 8000000 in
set_option maxRecDepth 100000 in
theorem spec_Reaches.calls (k : Nat) (a0_0 : Bool) (A0_1 : Option Addr) (c0_1 : Nat) (l0_1 : List Int) (A0_2 : Option Addr) (c0_2 : Nat) (l0_2 : List (S95)) (a1 : Int) (a2 : Int) (r : Bool) (w : World) (hr0_1 : Kd.C (Kd.int .i64) w A0_1 l0_1.length l0_1) (hc0_1 : l0_1.length ≤ c0_1) (hr0_2 : Kd.C k95 w A0_2 l0_2.length l0_2) (hc0_2 : l0_2.length ≤ c0_2) (h : spec_Reaches.f k a0_0 l0_1 l0_2 a1 a2 = some r) :
  Calls Tryz.prog 73 #[.agg #[.bool a0_0, .slice A0_1 l0_1.length c0_1, .slice A0_2 l0_2.length c0_2], .int .i64 a1, .int .i64 a2] w fun e w' => e = .returned (.bool r) ∧ Below w.heap.size w w' := by
 have hu25 := Tryz.underlying25
 have HR0_1 := Aside0.mk hr0_1
 have HC0_1 := Aside0.mk hc0_1
 clear hr0_1 hc0_1
 have HR0_2 := Aside0.mk hr0_2
 have HC0_2 := Aside0.mk hc0_2
 clear hr0_2 hc0_2
 have HB := Aside0.mk (Below.refl w.heap.size w)
 have H : ((spec_reached.f k a0_0 l0_1 l0_2 a1).bind fun t179 => ((spec_hasInt.f k t179 a2).bind fun t182 => (some t182))) = some r := h
 clear h
 replace H := Option.bind_eq_some_iff.mp H
 obtain ⟨t179, A40, H⟩ := H
 replace H : ((spec_hasInt.f k t179 a2).bind fun t182 => (some t182)) = some r := H
 have A4 := Aside0.mk A40
 clear A40
 replace H := Option.bind_eq_some_iff.mp H
 obtain ⟨t182, A50, H⟩ := H
 replace H : (some t182) = some r := H
 have A5 := Aside0.mk A50
 clear A50
 obtain rfl := Option.some.inj H
 go_enter Tryz.func73, Tryz.ntmps73
 go_wp2_with (first | ((with_reducible refine gate_dst (N := 3) rfl ?_); refine box_event ?hg (N := 3) ?hd (cs := #[.bool a0_0, .slice A0_1 l0_1.length c0_1, .slice A0_2 l0_2.length c0_2]) (t := 25) ?hr ?_; (case hd => rfl); (case hg => rfl); (case hr => first | (go_simp; done) | (go_simp; rfl)); intro gb178 hg w6 hbox hb; have n0_ := Aside0.mk (below_step (by repeat (first | (with_reducible first | exact HB.out | apply below_alloc | apply pw_below_drewN | apply below_drew1) | exact HB.out)) hb); have n1_ := Aside0.mk (hbox); have n2_ := Aside0.mk ((by rw [hg]; exact (below_size (by repeat (first | (with_reducible first | exact HB.out | apply below_alloc | apply pw_below_drewN | apply below_drew1) | exact HB.out))) : w.heap.size ≤ gb178)); have n3_ := Aside0.mk ((by rw [hg]; exact (below_size (by repeat (first | (with_reducible first | exact HB.out | apply below_alloc | apply pw_below_drewN | apply below_drew1) | exact HB.out))) : w.heap.size ≤ gb178)); clear HB; have HB := n0_; have BK178 := n1_; have GW178 := n2_; have GE178 := n3_; clear n0_ n1_ n2_ n3_; clear hb hbox hg; have hcz7_0 : w6.cell? ⟨gb178, 0, none⟩ = some (.bool a0_0) := (blk_cell BK178.out 0).trans rfl; have hcz7_1 : w6.cell? ⟨gb178, 1, none⟩ = some (.slice A0_1 l0_1.length c0_1) := (blk_cell BK178.out 1).trans rfl; have hcz7_2 : w6.cell? ⟨gb178, 2, none⟩ = some (.slice A0_2 l0_2.length c0_2) := (blk_cell BK178.out 2).trans rfl; have hfz7_0 := blk_frozen BK178.out 0; have hfz7_1 := blk_frozen BK178.out 1; have hfz7_2 := blk_frozen BK178.out 2) | ((with_reducible refine gate_callee (f := 72) rfl ?_); refine goesL_ (some 9) rfl rfl Tryz.func72 (by kernel_rfl) rfl #[.agg #[.bool a0_0, .slice A0_1 l0_1.length c0_1, .slice A0_2 l0_2.length c0_2], .int .i64 a1] rfl (by (try simp only [List.map_toArray, List.map_cons, List.map_nil]); first | done | rfl | (simp only [List.length_drop, List.length_take]; rfl)) ?_; (with_reducible refine (spec_reached.calls k a0_0 _ _ l0_1 _ _ l0_2 a1 t179 _ ?side1 ?side2 ?side3 ?side4 A4.out).mono ?_); (case side1 => repeat (first | exact (Kd.C_below HR0_1.out HB.out) | (with_reducible refine Kd.C_alloc ?_ _) | (with_reducible refine Kd.C_drewN ?_ _) | (with_reducible refine Kd.C_drew ?_))); (case side2 => exact HC0_1.out); (case side3 => repeat (first | exact (Kd.C_below HR0_2.out HB.out) | (with_reducible refine Kd.C_alloc ?_ _) | (with_reducible refine Kd.C_drewN ?_ _) | (with_reducible refine Kd.C_drew ?_))); (case side4 => exact HC0_2.out); rintro e w8 ⟨v180, rfl, ho0, hb⟩; refine ⟨_, rfl, ?_⟩; have n0_ := Aside0.mk (Kd.R_lower ho0 (below_size (by repeat (first | (with_reducible first | exact HB.out | apply below_alloc | apply pw_below_drewN | apply below_drew1 | refine below_set ?_ GE178.out) | exact HB.out)))); have n1_ := Aside0.mk (blk_below (g := gb178) (o := .cells #[.bool a0_0, .slice A0_1 l0_1.length c0_1, .slice A0_2 l0_2.length c0_2] 25 (0, 0)) (by (with_reducible repeat (first | refine blk_drewN ?_ _ | refine blk_drew ?_ | refine blk_alloc ?_ _)); exact BK178.out) hb); have n2_ := Aside0.mk (below_step (by repeat (first | (with_reducible first | exact HB.out | apply below_alloc | apply pw_below_drewN | apply below_drew1 | refine below_set ?_ GE178.out) | exact HB.out)) hb); clear BK178; clear HB; have HO181 := n0_; have BK178 := n1_; have HB := n2_; clear n0_ n1_ n2_; (try clear hb); (try clear hb2); (try clear hk); (try clear hi); (try clear ho0); obtain ⟨Ao9, co9, eo9⟩ := Kd.R_slice HO181.out; subst eo9) | ((with_reducible refine gate_callee (f := 33) rfl ?_); refine goesL_ (some 11) rfl rfl Tryz.func33 (by kernel_rfl) rfl #[.slice Ao9 t179.length co9, .int .i64 a2] rfl (by (try simp only [List.map_toArray, List.map_cons, List.map_nil]); first | done | rfl | (simp only [List.length_drop, List.length_take]; rfl)) ?_; (with_reducible refine (spec_hasInt.calls k _ _ t179 a2 t182 _ ?side1 ?side2 A5.out).mono ?_); (case side1 => repeat (first | exact (Kd.R_reads' HO181.out).2.2 | (with_reducible refine Kd.C_alloc ?_ _) | (with_reducible refine Kd.C_drewN ?_ _) | (with_reducible refine Kd.C_drew ?_))); (case side2 => exact (Kd.R_reads' HO181.out).2.1); rintro e w' ⟨rfl, ⟨nd, rfl⟩⟩; refine ⟨_, rfl, ?_⟩))
 go_ret
 exact ⟨by first | rfl | (simp [errW_none, errW_some] <;> rfl) | (simp [*, errW_none, errW_some] <;> rfl), by repeat (first | (with_reducible first | exact HB.out | apply below_alloc | apply pw_below_drewN | apply below_drew1 | refine below_set ?_ GE178.out) | exact HB.out)⟩

/-! ### spec_SCC: function 35 -/
mutual
def spec_SCC.l0 : Nat → List (List Int) → List Int → List Int → Int → Int → Bool → List Int → List (S95) → Option ((List (List Int)))
 | 0, _, _, _, _, _, _, _, _ => none
 | k + 1, x3, x4, x11, x12, x13, x184000, x184001, x184002 => if x13 < x12 then (if 0 ≤ x13 then (if x13 < (x11.length : Int) then ((spec_hasInt.f k x4 (rd x11 x13)).bind fun t188 => (if t188 = true then (spec_SCC.l0 k x3 x4 x11 x12 (wrap64 (x13 + 1)) x184000 x184001 x184002) else ((spec_reached.f k x184000 x184001 x184002 (rd x11 x13)).bind fun t189 => (spec_SCC.l1 k x3 x4 (rd x11 x13) ([] : List Int) x11 x12 x13 t189 (t189.length : Int) 0 x184000 x184001 x184002)))) else (none)) else (none)) else (some x3)
def spec_SCC.l1 : Nat → List (List Int) → List Int → Int → List Int → List Int → Int → Int → List Int → Int → Int → Bool → List Int → List (S95) → Option ((List (List Int)))
 | 0, _, _, _, _, _, _, _, _, _, _, _, _, _ => none
 | k + 1, x3, x4, x6, x7, x11, x12, x13, x22, x23, x24, x184000, x184001, x184002 => if x24 < x23 then (if 0 ≤ x24 then (if x24 < (x22.length : Int) then ((spec_Reaches.f k x184000 x184001 x184002 (rd x22 x24) x6).bind fun t193 => (if t193 = true then (if x7.length < 17592186044416 then (spec_SCC.l1 k x3 x4 x6 (x7 ++ [rd x22 x24]) x11 x12 x13 x22 x23 (wrap64 (x24 + 1)) x184000 x184001 x184002) else (none)) else (spec_SCC.l1 k x3 x4 x6 x7 x11 x12 x13 x22 x23 (wrap64 (x24 + 1)) x184000 x184001 x184002))) else (none)) else (none)) else (if x4.length + x7.length < 17592186044416 then (if x3.length < 5864062014805 then (spec_SCC.l0 k (x3 ++ [x7]) (x4 ++ x7) x11 x12 (wrap64 (x13 + 1)) x184000 x184001 x184002) else (none)) else (none))
end
def spec_SCC.f (k : Nat) (a0_0 : Bool) (l0_1 : List Int) (l0_2 : List (S95)) : Option ((List (List Int))) := (spec_Nodes.f a0_0 l0_1 l0_2).bind fun t184 => (spec_SCC.l0 k ([] : List (List Int)) ([] : List Int) t184 (t184.length : Int) 0 a0_0 l0_1 l0_2)
set_option maxHeartbeats 8000000 in
set_option maxRecDepth 100000 in
theorem spec_SCC.calls (k : Nat) (a0_0 : Bool) (A0_1 : Option Addr) (c0_1 : Nat) (l0_1 : List Int) (A0_2 : Option Addr) (c0_2 : Nat) (l0_2 : List (S95)) (r : List (List Int)) (w : World) (hr0_1 : Kd.C (Kd.int .i64) w A0_1 l0_1.length l0_1) (hc0_1 : l0_1.length ≤ c0_1) (hr0_2 : Kd.C k95 w A0_2 l0_2.length l0_2) (hc0_2 : l0_2.length ≤ c0_2) (h : spec_SCC.f k a0_0 l0_1 l0_2 = some r) :
  Calls Tryz.prog 35 #[.agg #[.bool a0_0, .slice A0_1 l0_1.length c0_1, .slice A0_2 l0_2.length c0_2]] w fun e w' => ∃ v0_ : Value, e = .returned (v0_) ∧ Kd.S (Kd.slice 3 (Kd.int .i64)) 22 w' w.heap.size (fun _ => True) v0_ r ∧ Below w.heap.size w w' := by
 have hu25 := Tryz.underlying25
 have HR0_1 := Aside0.mk hr0_1
 have HC0_1 := Aside0.mk hc0_1
 clear hr0_1 hc0_1
 have HR0_2 := Aside0.mk hr0_2
 have HC0_2 := Aside0.mk hc0_2
 clear hr0_2 hc0_2
 have HB := Aside0.mk (Below.refl w.heap.size w)
 have H : ((spec_Nodes.f a0_0 l0_1 l0_2).bind fun t184 => (spec_SCC.l0 k ([] : List (List Int)) ([] : List Int) t184 (t184.length : Int) 0 a0_0 l0_1 l0_2)) = some r := h
 clear h
 replace H := Option.bind_eq_some_iff.mp H
 obtain ⟨t184, A20, H⟩ := H
 replace H : (spec_SCC.l0 k ([] : List (List Int)) ([] : List Int) t184 (t184.length : Int) 0 a0_0 l0_1 l0_2) = some r := H
 have A2 := Aside0.mk A20
 clear A20
 have H' := Aside0.mk H
 clear H
 go_enter Tryz.func35, Tryz.ntmps35
 go_wp2_with (first | ((with_reducible refine gate_dst (N := 1) rfl ?_); refine box_event ?hg (N := 1) ?hd (cs := #[.bool a0_0, .slice A0_1 l0_1.length c0_1, .slice A0_2 l0_2.length c0_2]) (t := 25) ?hr ?_; (case hd => rfl); (case hg => rfl); (case hr => first | (go_simp; done) | (go_simp; rfl)); intro gb183 hg w3 hbox hb; have n0_ := Aside0.mk (below_step (by repeat (first | (with_reducible first | exact HB.out | apply below_alloc | apply pw_below_drewN | apply below_drew1) | exact HB.out)) hb); have n1_ := Aside0.mk (hbox); have n2_ := Aside0.mk ((by rw [hg]; exact (below_size (by repeat (first | (with_reducible first | exact HB.out | apply below_alloc | apply pw_below_drewN | apply below_drew1) | exact HB.out))) : w.heap.size ≤ gb183)); have n3_ := Aside0.mk ((by rw [hg]; exact (below_size (by repeat (first | (with_reducible first | exact HB.out | apply below_alloc | apply pw_below_drewN | apply below_drew1) | exact HB.out))) : w.heap.size ≤ gb183)); clear HB; have HB := n0_; have BK183 := n1_; have GW183 := n2_; have GE183 := n3_; clear n0_ n1_ n2_ n3_; clear hb hbox hg; have hcz4_0 : w3.cell? ⟨gb183, 0, none⟩ = some (.bool a0_0) := (blk_cell BK183.out 0).trans rfl; have hcz4_1 : w3.cell? ⟨gb183, 1, none⟩ = some (.slice A0_1 l0_1.length c0_1) := (blk_cell BK183.out 1).trans rfl; have hcz4_2 : w3.cell? ⟨gb183, 2, none⟩ = some (.slice A0_2 l0_2.length c0_2) := (blk_cell BK183.out 2).trans rfl; have hfz4_0 := blk_frozen BK183.out 0; have hfz4_1 := blk_frozen BK183.out 1; have hfz4_2 := blk_frozen BK183.out 2) | ((with_reducible refine gate_callee (f := 32) rfl ?_); refine goesL_ (some 11) rfl rfl Tryz.func32 (by kernel_rfl) rfl #[.agg #[.bool a0_0, .slice A0_1 l0_1.length c0_1, .slice A0_2 l0_2.length c0_2]] rfl (by (try simp only [List.map_toArray, List.map_cons, List.map_nil]); first | done | rfl | (simp only [List.length_drop, List.length_take]; rfl)) ?_; (with_reducible refine (spec_Nodes.calls a0_0 _ _ l0_1 _ _ l0_2 t184 _ ?side1 ?side2 ?side3 ?side4 A2.out).mono ?_); (case side1 => repeat (first | exact (Kd.C_below HR0_1.out HB.out) | (with_reducible refine Kd.C_alloc ?_ _) | (with_reducible refine Kd.C_drewN ?_ _) | (with_reducible refine Kd.C_drew ?_))); (case side2 => exact HC0_1.out); (case side3 => repeat (first | exact (Kd.C_below HR0_2.out HB.out) | (with_reducible refine Kd.C_alloc ?_ _) | (with_reducible refine Kd.C_drewN ?_ _) | (with_reducible refine Kd.C_drew ?_))); (case side4 => exact HC0_2.out); rintro e w5 ⟨v185, rfl, ho0, hb⟩; refine ⟨_, rfl, ?_⟩; have n0_ := Aside0.mk (Kd.R_lower ho0 (below_size (by repeat (first | (with_reducible first | exact HB.out | apply below_alloc | apply pw_below_drewN | apply below_drew1 | refine below_set ?_ GE183.out) | exact HB.out)))); have n1_ := Aside0.mk (blk_below (g := gb183) (o := .cells #[.bool a0_0, .slice A0_1 l0_1.length c0_1, .slice A0_2 l0_2.length c0_2] 25 (0, 0)) (by (with_reducible repeat (first | refine blk_drewN ?_ _ | refine blk_drew ?_ | refine blk_alloc ?_ _)); exact BK183.out) hb); have n2_ := Aside0.mk (below_step (by repeat (first | (with_reducible first | exact HB.out | apply below_alloc | apply pw_below_drewN | apply below_drew1 | refine below_set ?_ GE183.out) | exact HB.out)) hb); clear BK183; clear HB; have HO186 := n0_; have BK183 := n1_; have HB := n2_; clear n0_ n1_ n2_; (try clear hb); (try clear hb2); (try clear hk); (try clear hi); (try clear ho0); obtain ⟨Ao6, co6, eo6⟩ := Kd.R_slice HO186.out; subst eo6))
 go_loopg [3, 4, 13] k (fun kq v3 v4 v13 w' => ∃ (x3_1 : List (List Int)) (x4_1 : List Int) (x13_1 : Int), v13 = .int .i64 x13_1 ∧ Aside0 (spec_SCC.l0 kq x3_1 x4_1 t184 (t184.length : Int) x13_1 a0_0 l0_1 l0_2 = some r) ∧ Aside0 (kq ≤ k) ∧ Aside0 (Kd.S (Kd.slice 3 (Kd.int .i64)) 22 w' w.heap.size (fun k_ => some k_ ≠ (v4 : Value).ownBlock ∧ some k_ ≠ ((.slice Ao6 t184.length co6) : Value).ownBlock) v3 x3_1) ∧ Aside0 (Kd.R (Kd.int .i64) 3 w' w.heap.size (fun k_ => some k_ ≠ ((.slice Ao6 t184.length co6) : Value).ownBlock) v4 x4_1) ∧ Aside0 (Kd.R (Kd.int .i64) 3 w' w.heap.size (fun k_ => some k_ ≠ (v4 : Value).ownBlock) (.slice Ao6 t184.length co6) t184) ∧ Aside0 (w'.heap[gb183]? = some (.cells #[.bool a0_0, (.slice A0_1 l0_1.length c0_1), (.slice A0_2 l0_2.length c0_2)] 25 (0, 0))) ∧ Aside0 (Below w.heap.size w w'))
 case atStart => exact ⟨(([] : List (List Int))), (([] : List Int)), (0), (by first | rfl | (simp; done) | (simp [*]; done)), H', ⟨Nat.le_refl _⟩, ⟨by first | exact Kd.S_nil _ _ _ _ _ | exact Kd.N_nil _ _ _ _ _ | exact Kd.V_nil _ _ _ _ _ | exact Kd.Q_nil _ _ _ _ _ | exact Kd.R_nil _ _ _ _ _⟩, ⟨by first | exact Kd.R_nil _ _ _ _ _ | exact Kd.N_nil _ _ _ _ _ | exact Kd.V_nil _ _ _ _ _ | exact Kd.Q_nil _ _ _ _ _ | exact Kd.S_nil _ _ _ _ _⟩, ⟨by (with_reducible repeat (first | apply Kd.R_alloc | apply Kd.R_drewN | apply Kd.R_drew)); exact Kd.R_mono HO186.out (fun _ hk => (by simp [Value.ownBlock]))⟩, ⟨by (with_reducible repeat (first | refine blk_drewN ?_ _ | refine blk_drew ?_ | refine blk_alloc ?_ _)); exact BK183.out⟩, ⟨by repeat (first | (with_reducible first | exact HB.out | apply below_alloc | apply pw_below_drewN | apply below_drew1 | refine below_set ?_ GE183.out) | exact HB.out)⟩⟩
 case round =>
  clear H'
  try clear p2
  try clear c3
  try clear hcz4_0
  try clear hcz4_1
  try clear hcz4_2
  try clear hfz4_0
  try clear hfz4_1
  try clear hfz4_2
  obtain ⟨x3_1, x4_1, x13_1, rfl, HA, HK1, HO_3, HO_4, HO_11, BK183, HB⟩ := hrel
  cases gk with
  | zero => exact absurd HA.out (by simp [spec_SCC.l0])
  | succ k1 =>
   have H := HA.out
   clear HA
   simp only [spec_SCC.l0] at H
   by_cases c7 : x13_1 < (t184.length : Int)
   ·rw [if_pos c7] at H
    have c7b0 : decide (x13_1 < (t184.length : Int)) = true := decide_eq_true c7
    clear c7
    by_cases c8 : 0 ≤ x13_1
    ·rw [if_pos c8] at H
     have c8b0 : decide (0 ≤ x13_1) = true := decide_eq_true c8
     clear c8
     by_cases c9 : x13_1 < (t184.length : Int)
     ·rw [if_pos c9] at H
      have c9b0 : decide (x13_1 < (t184.length : Int)) = true := decide_eq_true c9
      clear c9
      replace H := Option.bind_eq_some_iff.mp H
      obtain ⟨t188, A100, H⟩ := H
      replace H : (if t188 = true then (spec_SCC.l0 k1 x3_1 x4_1 t184 (t184.length : Int) (wrap64 (x13_1 + 1)) a0_0 l0_1 l0_2) else ((spec_reached.f k1 a0_0 l0_1 l0_2 (rd t184 x13_1)).bind fun t189 => (spec_SCC.l1 k1 x3_1 x4_1 (rd t184 x13_1) ([] : List Int) t184 (t184.length : Int) x13_1 t189 (t189.length : Int) 0 a0_0 l0_1 l0_2))) = some r := H
      have A10 := Aside0.mk A100
      clear A100
      by_cases c11 : t188 = true
      ·subst c11
       have H1 : (spec_SCC.l0 k1 x3_1 x4_1 t184 (t184.length : Int) (wrap64 (x13_1 + 1)) a0_0 l0_1 l0_2) = some r := by rw [if_pos rfl] at H; exact H
       clear H
       have H := H1
       clear H1
       have H' := Aside0.mk H
       clear H
       have p187 : 0 ≤ (x13_1 : Int) := of_decide_eq_true (by first | (with_reducible assumption) | assumption)
       have q187 : x13_1 < (t184.length : Int) := of_decide_eq_true (by first | (with_reducible assumption) | assumption)
       obtain ⟨ad187, e187, hx187_0⟩ := Kd.at_int (Kd.R_reads' HO_11.out).2.2 x13_1 p187 q187
       cases e187
       replace p187 := eq_true p187
       replace q187 := eq_true q187
       obtain ⟨Ao12, co12, eo12⟩ := Kd.R_slice HO_4.out
       subst eo12
       go_wp2_with (first | ((with_reducible refine gate_callee (f := 33) rfl ?_); refine goesL_ (some 19) rfl rfl Tryz.func33 (by kernel_rfl) rfl #[.slice Ao12 x4_1.length co12, .int .i64 (rd t184 x13_1)] rfl (by (try simp only [List.map_toArray, List.map_cons, List.map_nil]); first | done | rfl | (simp only [List.length_drop, List.length_take]; rfl)) ?_; (with_reducible refine (spec_hasInt.calls k1 _ _ x4_1 (rd t184 x13_1) true _ ?side1 ?side2 A10.out).mono ?_); (case side1 => repeat (first | exact (Kd.R_reads' HO_4.out).2.2 | (with_reducible refine Kd.C_alloc ?_ _) | (with_reducible refine Kd.C_drewN ?_ _) | (with_reducible refine Kd.C_drew ?_))); (case side2 => exact (Kd.R_reads' HO_4.out).2.1); rintro e w' ⟨rfl, ⟨nd, rfl⟩⟩; refine ⟨_, rfl, ?_⟩))
       go_roundg k1
       case measure => have := HK1.out; omega
       case rel => exact ⟨(x3_1), (x4_1), (wrap64 (x13_1 + 1)), (by first | rfl | (simp; done) | (simp [*]; done)), H', ⟨by have := HK1.out; omega⟩, ⟨by (with_reducible repeat (first | apply Kd.S_alloc | apply Kd.S_drewN | apply Kd.S_drew)); exact HO_3.out⟩, ⟨by (with_reducible repeat (first | apply Kd.R_alloc | apply Kd.R_drewN | apply Kd.R_drew)); exact HO_4.out⟩, ⟨by (with_reducible repeat (first | apply Kd.R_alloc | apply Kd.R_drewN | apply Kd.R_drew)); exact HO_11.out⟩, ⟨by (with_reducible repeat (first | refine blk_drewN ?_ _ | refine blk_drew ?_ | refine blk_alloc ?_ _)); exact BK183.out⟩, ⟨by repeat (first | (with_reducible first | exact HB.out | apply below_alloc | apply pw_below_drewN | apply below_drew1 | refine below_set ?_ GE183.out) | exact HB.out)⟩⟩
      ·replace c11 := Bool.eq_false_iff.mpr c11
       subst c11
       have H1 : ((spec_reached.f k1 a0_0 l0_1 l0_2 (rd t184 x13_1)).bind fun t189 => (spec_SCC.l1 k1 x3_1 x4_1 (rd t184 x13_1) ([] : List Int) t184 (t184.length : Int) x13_1 t189 (t189.length : Int) 0 a0_0 l0_1 l0_2)) = some r := by rw [if_neg (show ¬ (false = true) by decide)] at H; exact H
       clear H
       have H := H1
       clear H1
       replace H := Option.bind_eq_some_iff.mp H
       obtain ⟨t189, A130, H⟩ := H
       replace H : (spec_SCC.l1 k1 x3_1 x4_1 (rd t184 x13_1) ([] : List Int) t184 (t184.length : Int) x13_1 t189 (t189.length : Int) 0 a0_0 l0_1 l0_2) = some r := H
       have A13 := Aside0.mk A130
       clear A130
       have H' := Aside0.mk H
       clear H
       have p187 : 0 ≤ (x13_1 : Int) := of_decide_eq_true (by first | (with_reducible assumption) | assumption)
       have q187 : x13_1 < (t184.length : Int) := of_decide_eq_true (by first | (with_reducible assumption) | assumption)
       obtain ⟨ad187, e187, hx187_0⟩ := Kd.at_int (Kd.R_reads' HO_11.out).2.2 x13_1 p187 q187
       cases e187
       replace p187 := eq_true p187
       replace q187 := eq_true q187
       obtain ⟨Ao14, co14, eo14⟩ := Kd.R_slice HO_4.out
       subst eo14
       go_wp2_with (first | ((with_reducible refine gate_callee (f := 33) rfl ?_); refine goesL_ (some 19) rfl rfl Tryz.func33 (by kernel_rfl) rfl #[.slice Ao14 x4_1.length co14, .int .i64 (rd t184 x13_1)] rfl (by (try simp only [List.map_toArray, List.map_cons, List.map_nil]); first | done | rfl | (simp only [List.length_drop, List.length_take]; rfl)) ?_; (with_reducible refine (spec_hasInt.calls k1 _ _ x4_1 (rd t184 x13_1) false _ ?side1 ?side2 A10.out).mono ?_); (case side1 => repeat (first | exact (Kd.R_reads' HO_4.out).2.2 | (with_reducible refine Kd.C_alloc ?_ _) | (with_reducible refine Kd.C_drewN ?_ _) | (with_reducible refine Kd.C_drew ?_))); (case side2 => exact (Kd.R_reads' HO_4.out).2.1); rintro e w' ⟨rfl, ⟨nd, rfl⟩⟩; refine ⟨_, rfl, ?_⟩; have hcz15_0 : wr.cell? ⟨gb183, 0, none⟩ = some (.bool a0_0) := (blk_cell BK183.out 0).trans rfl; have hcz15_1 : wr.cell? ⟨gb183, 1, none⟩ = some (.slice A0_1 l0_1.length c0_1) := (blk_cell BK183.out 1).trans rfl; have hcz15_2 : wr.cell? ⟨gb183, 2, none⟩ = some (.slice A0_2 l0_2.length c0_2) := (blk_cell BK183.out 2).trans rfl; have hfz15_0 := blk_frozen BK183.out 0; have hfz15_1 := blk_frozen BK183.out 1; have hfz15_2 := blk_frozen BK183.out 2) | ((with_reducible refine gate_callee (f := 72) rfl ?_); refine goesL_ (some 22) rfl rfl Tryz.func72 (by kernel_rfl) rfl #[.agg #[.bool a0_0, .slice A0_1 l0_1.length c0_1, .slice A0_2 l0_2.length c0_2], .int .i64 (rd t184 x13_1)] rfl (by (try simp only [List.map_toArray, List.map_cons, List.map_nil]); first | done | rfl | (simp only [List.length_drop, List.length_take]; rfl)) ?_; (with_reducible refine (spec_reached.calls k1 a0_0 _ _ l0_1 _ _ l0_2 (rd t184 x13_1) t189 _ ?side1 ?side2 ?side3 ?side4 A13.out).mono ?_); (case side1 => repeat (first | exact (Kd.C_below HR0_1.out (by repeat (first | (with_reducible first | exact HB.out | apply below_alloc | apply pw_below_drewN | apply below_drew1 | refine below_set ?_ GE183.out) | exact HB.out))) | (with_reducible refine Kd.C_alloc ?_ _) | (with_reducible refine Kd.C_drewN ?_ _) | (with_reducible refine Kd.C_drew ?_))); (case side2 => exact HC0_1.out); (case side3 => repeat (first | exact (Kd.C_below HR0_2.out (by repeat (first | (with_reducible first | exact HB.out | apply below_alloc | apply pw_below_drewN | apply below_drew1 | refine below_set ?_ GE183.out) | exact HB.out))) | (with_reducible refine Kd.C_alloc ?_ _) | (with_reducible refine Kd.C_drewN ?_ _) | (with_reducible refine Kd.C_drew ?_))); (case side4 => exact HC0_2.out); rintro e w16 ⟨v190, rfl, ho0, hb⟩; refine ⟨_, rfl, ?_⟩; have n0_ := Aside0.mk (Kd.S_elder' (by (with_reducible repeat (first | apply Kd.S_alloc | apply Kd.S_drewN | apply Kd.S_drew)); exact HO_3.out) (Kd.R_base ho0) hb); have n1_ := Aside0.mk (Kd.R_elder' (by (with_reducible repeat (first | apply Kd.R_alloc | apply Kd.R_drewN | apply Kd.R_drew)); exact HO_4.out) (Kd.R_base ho0) hb); have n2_ := Aside0.mk (Kd.R_elder' (by (with_reducible repeat (first | apply Kd.R_alloc | apply Kd.R_drewN | apply Kd.R_drew)); exact HO_11.out) (Kd.R_base ho0) hb); have n3_ := Aside0.mk (Kd.R_lower (Kd.R_new' (Kd.R_new' ho0 (Kd.R_lt (by (with_reducible repeat (first | apply Kd.R_alloc | apply Kd.R_drewN | apply Kd.R_drew)); exact HO_4.out))) (Kd.R_lt (by (with_reducible repeat (first | apply Kd.R_alloc | apply Kd.R_drewN | apply Kd.R_drew)); exact HO_11.out))) (below_size (by repeat (first | (with_reducible first | exact HB.out | apply below_alloc | apply pw_below_drewN | apply below_drew1 | refine below_set ?_ GE183.out) | exact HB.out)))); have n4_ := Aside0.mk (blk_below (g := gb183) (o := .cells #[.bool a0_0, .slice A0_1 l0_1.length c0_1, .slice A0_2 l0_2.length c0_2] 25 (0, 0)) (by (with_reducible repeat (first | refine blk_drewN ?_ _ | refine blk_drew ?_ | refine blk_alloc ?_ _)); exact BK183.out) hb); have n5_ := Aside0.mk (below_step (by repeat (first | (with_reducible first | exact HB.out | apply below_alloc | apply pw_below_drewN | apply below_drew1 | refine below_set ?_ GE183.out) | exact HB.out)) hb); clear HO_3; clear HO_4; clear HO_11; clear BK183; clear HB; have HO_3 := n0_; have HO_4 := n1_; have HO_11 := n2_; have HO191 := n3_; have BK183 := n4_; have HB := n5_; clear n0_ n1_ n2_ n3_ n4_ n5_; (try clear hb); (try clear hb2); (try clear hk); (try clear hi); (try clear ho0); obtain ⟨Ao17, co17, eo17⟩ := Kd.R_slice HO191.out; subst eo17))
       go_loopg [7, 24] k1 (fun kq v7 v24 w' => ∃ (x7_2 : List Int) (x24_2 : Int), v24 = .int .i64 x24_2 ∧ Aside0 (spec_SCC.l1 kq x3_1 x4_1 (rd t184 x13_1) x7_2 t184 (t184.length : Int) x13_1 t189 (t189.length : Int) x24_2 a0_0 l0_1 l0_2 = some r) ∧ Aside0 (kq ≤ k1) ∧ Aside0 (Kd.S (Kd.slice 3 (Kd.int .i64)) 22 w' w.heap.size (fun k_ => some k_ ≠ ((.slice Ao14 x4_1.length co14) : Value).ownBlock ∧ some k_ ≠ (v7 : Value).ownBlock ∧ some k_ ≠ ((.slice (some ad187) t184.length co6) : Value).ownBlock ∧ some k_ ≠ ((.slice Ao17 t189.length co17) : Value).ownBlock) u3 x3_1) ∧ Aside0 (Kd.R (Kd.int .i64) 3 w' w.heap.size (fun k_ => some k_ ≠ (v7 : Value).ownBlock ∧ some k_ ≠ ((.slice (some ad187) t184.length co6) : Value).ownBlock ∧ some k_ ≠ ((.slice Ao17 t189.length co17) : Value).ownBlock) (.slice Ao14 x4_1.length co14) x4_1) ∧ Aside0 (Kd.R (Kd.int .i64) 3 w' w.heap.size (fun k_ => some k_ ≠ ((.slice Ao14 x4_1.length co14) : Value).ownBlock ∧ some k_ ≠ ((.slice (some ad187) t184.length co6) : Value).ownBlock ∧ some k_ ≠ ((.slice Ao17 t189.length co17) : Value).ownBlock) v7 x7_2) ∧ Aside0 (Kd.R (Kd.int .i64) 3 w' w.heap.size (fun k_ => some k_ ≠ ((.slice Ao14 x4_1.length co14) : Value).ownBlock ∧ some k_ ≠ (v7 : Value).ownBlock ∧ some k_ ≠ ((.slice Ao17 t189.length co17) : Value).ownBlock) (.slice (some ad187) t184.length co6) t184) ∧ Aside0 (Kd.R (Kd.int .i64) 3 w' w.heap.size (fun k_ => some k_ ≠ ((.slice Ao14 x4_1.length co14) : Value).ownBlock ∧ some k_ ≠ (v7 : Value).ownBlock ∧ some k_ ≠ ((.slice (some ad187) t184.length co6) : Value).ownBlock) (.slice Ao17 t189.length co17) t189) ∧ Aside0 (w'.heap[gb183]? = some (.cells #[.bool a0_0, (.slice A0_1 l0_1.length c0_1), (.slice A0_2 l0_2.length c0_2)] 25 (0, 0))) ∧ Aside0 (Below w.heap.size w w'))
       case atStart => exact ⟨(([] : List Int)), (0), (by first | rfl | (simp; done) | (simp [*]; done)), H', ⟨Nat.le_refl _⟩, ⟨by (with_reducible repeat (first | apply Kd.S_alloc | apply Kd.S_drewN | apply Kd.S_drew)); exact Kd.S_mono HO_3.out (fun _ hk => ⟨hk.1.1, ⟨(by simp [Value.ownBlock]), ⟨hk.1.2, hk.2⟩⟩⟩)⟩, ⟨by (with_reducible repeat (first | apply Kd.R_alloc | apply Kd.R_drewN | apply Kd.R_drew)); exact Kd.R_mono HO_4.out (fun _ hk => ⟨(by simp [Value.ownBlock]), ⟨hk.1, hk.2⟩⟩)⟩, ⟨by first | exact Kd.R_nil _ _ _ _ _ | exact Kd.N_nil _ _ _ _ _ | exact Kd.V_nil _ _ _ _ _ | exact Kd.Q_nil _ _ _ _ _ | exact Kd.S_nil _ _ _ _ _⟩, ⟨by (with_reducible repeat (first | apply Kd.R_alloc | apply Kd.R_drewN | apply Kd.R_drew)); exact Kd.R_mono HO_11.out (fun _ hk => ⟨hk.1, ⟨(by simp [Value.ownBlock]), hk.2⟩⟩)⟩, ⟨by (with_reducible repeat (first | apply Kd.R_alloc | apply Kd.R_drewN | apply Kd.R_drew)); exact Kd.R_mono HO191.out (fun _ hk => ⟨hk.1.2, ⟨(by simp [Value.ownBlock]), hk.2⟩⟩)⟩, ⟨by (with_reducible repeat (first | refine blk_drewN ?_ _ | refine blk_drew ?_ | refine blk_alloc ?_ _)); exact BK183.out⟩, ⟨by repeat (first | (with_reducible first | exact HB.out | apply below_alloc | apply pw_below_drewN | apply below_drew1 | refine below_set ?_ GE183.out) | exact HB.out)⟩⟩
       case round =>
        clear H'
        try clear c1
        try clear p1
        try clear q1
        try clear hx1
        try clear p2
        try clear c3
        try clear p6
        try clear c7
        try clear c7b0
        try clear c8
        try clear c8b0
        try clear c9
        try clear c9b0
        try clear c11
        try clear hcz15_0
        try clear hcz15_1
        try clear hcz15_2
        try clear hcz4_0
        try clear hcz4_1
        try clear hcz4_2
        try clear hfz15_0
        try clear hfz15_1
        try clear hfz15_2
        try clear hfz4_0
        try clear hfz4_1
        try clear hfz4_2
        try clear hx187_0
        try clear p187
        try clear p2
        try clear q187
        obtain ⟨x7_2, x24_2, rfl, HA, HK2, HO_3, HO_4, HO_7, HO_11, HO_22, BK183, HB⟩ := hrel
        cases gk with
        | zero => exact absurd HA.out (by simp [spec_SCC.l1])
        | succ k2 =>
         have H := HA.out
         clear HA
         simp only [spec_SCC.l1] at H
         by_cases c18 : x24_2 < (t189.length : Int)
         ·rw [if_pos c18] at H
          have c18b0 : decide (x24_2 < (t189.length : Int)) = true := decide_eq_true c18
          clear c18
          by_cases c19 : 0 ≤ x24_2
          ·rw [if_pos c19] at H
           have c19b0 : decide (0 ≤ x24_2) = true := decide_eq_true c19
           clear c19
           by_cases c20 : x24_2 < (t189.length : Int)
           ·rw [if_pos c20] at H
            have c20b0 : decide (x24_2 < (t189.length : Int)) = true := decide_eq_true c20
            clear c20
            replace H := Option.bind_eq_some_iff.mp H
            obtain ⟨t193, A210, H⟩ := H
            replace H : (if t193 = true then (if x7_2.length < 17592186044416 then (spec_SCC.l1 k2 x3_1 x4_1 (rd t184 x13_1) (x7_2 ++ [rd t189 x24_2]) t184 (t184.length : Int) x13_1 t189 (t189.length : Int) (wrap64 (x24_2 + 1)) a0_0 l0_1 l0_2) else (none)) else (spec_SCC.l1 k2 x3_1 x4_1 (rd t184 x13_1) x7_2 t184 (t184.length : Int) x13_1 t189 (t189.length : Int) (wrap64 (x24_2 + 1)) a0_0 l0_1 l0_2)) = some r := H
            have A21 := Aside0.mk A210
            clear A210
            by_cases c22 : t193 = true
            ·subst c22
             have H1 : (if x7_2.length < 17592186044416 then (spec_SCC.l1 k2 x3_1 x4_1 (rd t184 x13_1) (x7_2 ++ [rd t189 x24_2]) t184 (t184.length : Int) x13_1 t189 (t189.length : Int) (wrap64 (x24_2 + 1)) a0_0 l0_1 l0_2) else (none)) = some r := by rw [if_pos rfl] at H; exact H
             clear H
             have H := H1
             clear H1
             by_cases c23 : x7_2.length < 17592186044416
             ·rw [if_pos c23] at H
              have LMc23 := Aside0.mk c23
              clear c23
              obtain ⟨y194, hy194⟩ : ∃ y_ : List Int, y_ = (x7_2 ++ [rd t189 x24_2]) := ⟨_, rfl⟩
              replace H : (spec_SCC.l1 k2 x3_1 x4_1 (rd t184 x13_1) y194 t184 (t184.length : Int) x13_1 t189 (t189.length : Int) (wrap64 (x24_2 + 1)) a0_0 l0_1 l0_2) = some r := by first | (rw [hy194]; with_reducible exact H) | (have H2_ := (Option.bind_some _ _).symm.trans H; rw [hy194]; with_reducible exact H2_) | (have H2_ := (Option.bind_some _ _).symm.trans H; with_reducible exact H2_) | with_reducible exact H | (rw [hy194]; exact H) | exact H
              have Ny194 := Aside0.mk hy194
              clear hy194
              have H' := Aside0.mk H
              clear H
              have p192 : 0 ≤ (x24_2 : Int) := of_decide_eq_true (by first | (with_reducible assumption) | assumption)
              have q192 : x24_2 < (t189.length : Int) := of_decide_eq_true (by first | (with_reducible assumption) | assumption)
              obtain ⟨ad192, e192, hx192_0⟩ := Kd.at_int (Kd.R_reads' HO_22.out).2.2 x24_2 p192 q192
              cases e192
              replace p192 := eq_true p192
              replace q192 := eq_true q192
              have hcz24_0 : wr.cell? ⟨gb183, 0, none⟩ = some (.bool a0_0) := (blk_cell BK183.out 0).trans rfl
              have hcz24_1 : wr.cell? ⟨gb183, 1, none⟩ = some (.slice A0_1 l0_1.length c0_1) := (blk_cell BK183.out 1).trans rfl
              have hcz24_2 : wr.cell? ⟨gb183, 2, none⟩ = some (.slice A0_2 l0_2.length c0_2) := (blk_cell BK183.out 2).trans rfl
              have hfz24_0 := blk_frozen BK183.out 0
              have hfz24_1 := blk_frozen BK183.out 1
              have hfz24_2 := blk_frozen BK183.out 2
              go_wp2_with (first | ((with_reducible refine gate_callee (f := 73) rfl ?_); refine goesL_ (some 31) rfl rfl Tryz.func73 (by kernel_rfl) rfl #[.agg #[.bool a0_0, .slice A0_1 l0_1.length c0_1, .slice A0_2 l0_2.length c0_2], .int .i64 (rd t189 x24_2), .int .i64 (rd t184 x13_1)] rfl (by (try simp only [List.map_toArray, List.map_cons, List.map_nil]); first | done | rfl | (simp only [List.length_drop, List.length_take]; rfl)) ?_; (with_reducible refine (spec_Reaches.calls k2 a0_0 _ _ l0_1 _ _ l0_2 (rd t189 x24_2) (rd t184 x13_1) true _ ?side1 ?side2 ?side3 ?side4 A21.out).mono ?_); (case side1 => repeat (first | exact (Kd.C_below HR0_1.out HB.out) | (with_reducible refine Kd.C_alloc ?_ _) | (with_reducible refine Kd.C_drewN ?_ _) | (with_reducible refine Kd.C_drew ?_))); (case side2 => exact HC0_1.out); (case side3 => repeat (first | exact (Kd.C_below HR0_2.out HB.out) | (with_reducible refine Kd.C_alloc ?_ _) | (with_reducible refine Kd.C_drewN ?_ _) | (with_reducible refine Kd.C_drew ?_))); (case side4 => exact HC0_2.out); rintro e w25 ⟨rfl, hb⟩; refine ⟨_, rfl, ?_⟩; have n0_ := Aside0.mk (Kd.S_below (by (with_reducible repeat (first | apply Kd.S_alloc | apply Kd.S_drewN | apply Kd.S_drew)); exact HO_3.out) hb); have n1_ := Aside0.mk (Kd.R_below (by (with_reducible repeat (first | apply Kd.R_alloc | apply Kd.R_drewN | apply Kd.R_drew)); exact HO_4.out) hb); have n2_ := Aside0.mk (Kd.R_below (by (with_reducible repeat (first | apply Kd.R_alloc | apply Kd.R_drewN | apply Kd.R_drew)); exact HO_7.out) hb); have n3_ := Aside0.mk (Kd.R_below (by (with_reducible repeat (first | apply Kd.R_alloc | apply Kd.R_drewN | apply Kd.R_drew)); exact HO_11.out) hb); have n4_ := Aside0.mk (Kd.R_below (by (with_reducible repeat (first | apply Kd.R_alloc | apply Kd.R_drewN | apply Kd.R_drew)); exact HO_22.out) hb); have n5_ := Aside0.mk (blk_below (g := gb183) (o := .cells #[.bool a0_0, .slice A0_1 l0_1.length c0_1, .slice A0_2 l0_2.length c0_2] 25 (0, 0)) (by (with_reducible repeat (first | refine blk_drewN ?_ _ | refine blk_drew ?_ | refine blk_alloc ?_ _)); exact BK183.out) hb); have n6_ := Aside0.mk (below_step (by repeat (first | (with_reducible first | exact HB.out | apply below_alloc | apply pw_below_drewN | apply below_drew1 | refine below_set ?_ GE183.out) | exact HB.out)) hb); clear HO_3; clear HO_4; clear HO_7; clear HO_11; clear HO_22; clear BK183; clear HB; have HO_3 := n0_; have HO_4 := n1_; have HO_7 := n2_; have HO_11 := n3_; have HO_22 := n4_; have BK183 := n5_; have HB := n6_; clear n0_ n1_ n2_ n3_ n4_ n5_ n6_; (try clear hb); (try clear hb2); (try clear hk); (try clear hi)) | ((with_reducible refine gate_builtin (b := .append) (xs := #[.tmp 32, .tmp 34]) rfl ?_); at_builtin; refine Kd.R_append (Kd.int .i64) (w0 := w) w.heap.size rfl (.tmp 32) (.tmp 34) 22 3 (.int .i64 0) 8 rfl Tryz.underlying22 info3 rfl (by decide) (by omega) u7 x7_2 (rd t189 x24_2) [.int .i64 (rd t189 x24_2)] (fun k_ => some k_ ≠ (.slice Ao14 x4_1.length co14 : Value).ownBlock ∧ some k_ ≠ (.slice (some ad187) t184.length co6 : Value).ownBlock ∧ some k_ ≠ (.slice (some ad192) t189.length co17 : Value).ownBlock) (fun _ => False) rfl rfl ?aP (fun _ hk => hk.elim) ?aF ?aO ?aB ?aS ?aL ?_; (case aP => exact rfl); (case aB => exact (by repeat (first | (with_reducible first | exact HB.out | apply below_alloc | apply pw_below_drewN | apply below_drew1 | refine below_set ?_ GE183.out) | exact HB.out))); (case aF => exact (fun k_ hk => ⟨Kd.fresh' (Kd.R_lt (by (with_reducible repeat (first | apply Kd.R_alloc | apply Kd.R_drewN | apply Kd.R_drew)); exact HO_4.out)) k_ hk, Kd.fresh' (Kd.R_lt (by (with_reducible repeat (first | apply Kd.R_alloc | apply Kd.R_drewN | apply Kd.R_drew)); exact HO_11.out)) k_ hk, Kd.fresh' (Kd.R_lt (by (with_reducible repeat (first | apply Kd.R_alloc | apply Kd.R_drewN | apply Kd.R_drew)); exact HO_22.out)) k_ hk⟩)); (case aO => exact (by (with_reducible repeat (first | apply Kd.R_alloc | apply Kd.R_drewN | apply Kd.R_drew)); exact HO_7.out)); (case aS => exact (below_size (by repeat (first | (with_reducible first | exact HB.out | apply below_alloc | apply pw_below_drewN | apply below_drew1 | refine below_set ?_ GE183.out) | exact HB.out)))); (case aL => have := LMc23.out; omega); intro v195 w26 ho hb hg hat; rw [← Ny194.out] at ho; have n0_ := Aside0.mk (Kd.S_after (ok := (fun k_ => some k_ ≠ (.slice Ao14 x4_1.length co14 : Value).ownBlock ∧ some k_ ≠ (.slice (some ad187) t184.length co6 : Value).ownBlock ∧ some k_ ≠ (.slice (some ad192) t189.length co17 : Value).ownBlock)) (by (with_reducible repeat (first | apply Kd.S_alloc | apply Kd.S_drewN | apply Kd.S_drew)); exact Kd.S_mono HO_3.out (fun _ hk => ⟨⟨hk.1, ⟨hk.2.2.1, hk.2.2.2⟩⟩, hk.2.1⟩)) hg hat); have n1_ := Aside0.mk (Kd.R_after (ok := (fun k_ => some k_ ≠ (.slice (some ad187) t184.length co6 : Value).ownBlock ∧ some k_ ≠ (.slice (some ad192) t189.length co17 : Value).ownBlock)) (by (with_reducible repeat (first | apply Kd.R_alloc | apply Kd.R_drewN | apply Kd.R_drew)); exact Kd.R_mono HO_4.out (fun _ hk => ⟨⟨hk.2.1, hk.2.2⟩, hk.1⟩)) hg hat); have n2_ := Aside0.mk (Kd.R_after (ok := (fun k_ => some k_ ≠ (.slice Ao14 x4_1.length co14 : Value).ownBlock ∧ some k_ ≠ (.slice (some ad192) t189.length co17 : Value).ownBlock)) (by (with_reducible repeat (first | apply Kd.R_alloc | apply Kd.R_drewN | apply Kd.R_drew)); exact Kd.R_mono HO_11.out (fun _ hk => ⟨⟨hk.1, hk.2.2⟩, hk.2.1⟩)) hg hat); have n3_ := Aside0.mk (Kd.R_after (ok := (fun k_ => some k_ ≠ (.slice Ao14 x4_1.length co14 : Value).ownBlock ∧ some k_ ≠ (.slice (some ad187) t184.length co6 : Value).ownBlock)) (by (with_reducible repeat (first | apply Kd.R_alloc | apply Kd.R_drewN | apply Kd.R_drew)); exact Kd.R_mono HO_22.out (fun _ hk => ⟨⟨hk.1, hk.2.2⟩, hk.2.1⟩)) hg hat); have n4_ := Aside0.mk (blk_grown (g := gb183) (o := .cells #[.bool a0_0, .slice A0_1 l0_1.length c0_1, .slice A0_2 l0_2.length c0_2] 25 (0, 0)) (by (with_reducible repeat (first | refine blk_drewN ?_ _ | refine blk_drew ?_ | refine blk_alloc ?_ _)); exact BK183.out) hg (Kd.R_ne HO_7.out BK183.out (by decide))); have n5_ := Aside0.mk (hb); have n6_ := Aside0.mk (ho); clear HO_3; clear HO_4; clear HO_11; clear HO_22; clear BK183; clear HB; clear HO_7; have HO_3 := n0_; have HO_4 := n1_; have HO_11 := n2_; have HO_22 := n3_; have BK183 := n4_; have HB := n5_; have HO196 := n6_; clear n0_ n1_ n2_ n3_ n4_ n5_ n6_; clear ho hb hg hat))
              go_roundg k2
              case measure => have := HK1.out; have := HK2.out; omega
              case rel => exact ⟨(y194), (wrap64 (x24_2 + 1)), (by first | rfl | (simp; done) | (simp [*]; done)), H', ⟨by have := HK1.out; have := HK2.out; omega⟩, ⟨by (with_reducible repeat (first | apply Kd.S_alloc | apply Kd.S_drewN | apply Kd.S_drew)); exact Kd.S_mono HO_3.out (fun _ hk => ⟨hk.1.1, ⟨hk.2, ⟨hk.1.2.1, hk.1.2.2⟩⟩⟩)⟩, ⟨by (with_reducible repeat (first | apply Kd.R_alloc | apply Kd.R_drewN | apply Kd.R_drew)); exact Kd.R_mono HO_4.out (fun _ hk => ⟨hk.2, ⟨hk.1.1, hk.1.2⟩⟩)⟩, ⟨by (with_reducible repeat (first | apply Kd.R_alloc | apply Kd.R_drewN | apply Kd.R_drew)); exact HO196.out⟩, ⟨by (with_reducible repeat (first | apply Kd.R_alloc | apply Kd.R_drewN | apply Kd.R_drew)); exact Kd.R_mono HO_11.out (fun _ hk => ⟨hk.1.1, ⟨hk.2, hk.1.2⟩⟩)⟩, ⟨by (with_reducible repeat (first | apply Kd.R_alloc | apply Kd.R_drewN | apply Kd.R_drew)); exact Kd.R_mono HO_22.out (fun _ hk => ⟨hk.1.1, ⟨hk.2, hk.1.2⟩⟩)⟩, ⟨by (with_reducible repeat (first | refine blk_drewN ?_ _ | refine blk_drew ?_ | refine blk_alloc ?_ _)); exact BK183.out⟩, ⟨by repeat (first | (with_reducible first | exact HB.out | apply below_alloc | apply pw_below_drewN | apply below_drew1 | refine below_set ?_ GE183.out) | exact HB.out)⟩⟩
             ·rw [if_neg c23] at H
              exact absurd H (by simp)
            ·replace c22 := Bool.eq_false_iff.mpr c22
             subst c22
             have H1 : (spec_SCC.l1 k2 x3_1 x4_1 (rd t184 x13_1) x7_2 t184 (t184.length : Int) x13_1 t189 (t189.length : Int) (wrap64 (x24_2 + 1)) a0_0 l0_1 l0_2) = some r := by rw [if_neg (show ¬ (false = true) by decide)] at H; exact H
             clear H
             have H := H1
             clear H1
             have H' := Aside0.mk H
             clear H
             have p192 : 0 ≤ (x24_2 : Int) := of_decide_eq_true (by first | (with_reducible assumption) | assumption)
             have q192 : x24_2 < (t189.length : Int) := of_decide_eq_true (by first | (with_reducible assumption) | assumption)
             obtain ⟨ad192, e192, hx192_0⟩ := Kd.at_int (Kd.R_reads' HO_22.out).2.2 x24_2 p192 q192
             cases e192
             replace p192 := eq_true p192
             replace q192 := eq_true q192
             have hcz27_0 : wr.cell? ⟨gb183, 0, none⟩ = some (.bool a0_0) := (blk_cell BK183.out 0).trans rfl
             have hcz27_1 : wr.cell? ⟨gb183, 1, none⟩ = some (.slice A0_1 l0_1.length c0_1) := (blk_cell BK183.out 1).trans rfl
             have hcz27_2 : wr.cell? ⟨gb183, 2, none⟩ = some (.slice A0_2 l0_2.length c0_2) := (blk_cell BK183.out 2).trans rfl
             have hfz27_0 := blk_frozen BK183.out 0
             have hfz27_1 := blk_frozen BK183.out 1
             have hfz27_2 := blk_frozen BK183.out 2
             go_wp2_with (first | ((with_reducible refine gate_callee (f := 73) rfl ?_); refine goesL_ (some 31) rfl rfl Tryz.func73 (by kernel_rfl) rfl #[.agg #[.bool a0_0, .slice A0_1 l0_1.length c0_1, .slice A0_2 l0_2.length c0_2], .int .i64 (rd t189 x24_2), .int .i64 (rd t184 x13_1)] rfl (by (try simp only [List.map_toArray, List.map_cons, List.map_nil]); first | done | rfl | (simp only [List.length_drop, List.length_take]; rfl)) ?_; (with_reducible refine (spec_Reaches.calls k2 a0_0 _ _ l0_1 _ _ l0_2 (rd t189 x24_2) (rd t184 x13_1) false _ ?side1 ?side2 ?side3 ?side4 A21.out).mono ?_); (case side1 => repeat (first | exact (Kd.C_below HR0_1.out HB.out) | (with_reducible refine Kd.C_alloc ?_ _) | (with_reducible refine Kd.C_drewN ?_ _) | (with_reducible refine Kd.C_drew ?_))); (case side2 => exact HC0_1.out); (case side3 => repeat (first | exact (Kd.C_below HR0_2.out HB.out) | (with_reducible refine Kd.C_alloc ?_ _) | (with_reducible refine Kd.C_drewN ?_ _) | (with_reducible refine Kd.C_drew ?_))); (case side4 => exact HC0_2.out); rintro e w28 ⟨rfl, hb⟩; refine ⟨_, rfl, ?_⟩; have n0_ := Aside0.mk (Kd.S_below (by (with_reducible repeat (first | apply Kd.S_alloc | apply Kd.S_drewN | apply Kd.S_drew)); exact HO_3.out) hb); have n1_ := Aside0.mk (Kd.R_below (by (with_reducible repeat (first | apply Kd.R_alloc | apply Kd.R_drewN | apply Kd.R_drew)); exact HO_4.out) hb); have n2_ := Aside0.mk (Kd.R_below (by (with_reducible repeat (first | apply Kd.R_alloc | apply Kd.R_drewN | apply Kd.R_drew)); exact HO_7.out) hb); have n3_ := Aside0.mk (Kd.R_below (by (with_reducible repeat (first | apply Kd.R_alloc | apply Kd.R_drewN | apply Kd.R_drew)); exact HO_11.out) hb); have n4_ := Aside0.mk (Kd.R_below (by (with_reducible repeat (first | apply Kd.R_alloc | apply Kd.R_drewN | apply Kd.R_drew)); exact HO_22.out) hb); have n5_ := Aside0.mk (blk_below (g := gb183) (o := .cells #[.bool a0_0, .slice A0_1 l0_1.length c0_1, .slice A0_2 l0_2.length c0_2] 25 (0, 0)) (by (with_reducible repeat (first | refine blk_drewN ?_ _ | refine blk_drew ?_ | refine blk_alloc ?_ _)); exact BK183.out) hb); have n6_ := Aside0.mk (below_step (by repeat (first | (with_reducible first | exact HB.out | apply below_alloc | apply pw_below_drewN | apply below_drew1 | refine below_set ?_ GE183.out) | exact HB.out)) hb); clear HO_3; clear HO_4; clear HO_7; clear HO_11; clear HO_22; clear BK183; clear HB; have HO_3 := n0_; have HO_4 := n1_; have HO_7 := n2_; have HO_11 := n3_; have HO_22 := n4_; have BK183 := n5_; have HB := n6_; clear n0_ n1_ n2_ n3_ n4_ n5_ n6_; (try clear hb); (try clear hb2); (try clear hk); (try clear hi)))
             go_roundg k2
             case measure => have := HK1.out; have := HK2.out; omega
             case rel => exact ⟨(x7_2), (wrap64 (x24_2 + 1)), (by first | rfl | (simp; done) | (simp [*]; done)), H', ⟨by have := HK1.out; have := HK2.out; omega⟩, ⟨by (with_reducible repeat (first | apply Kd.S_alloc | apply Kd.S_drewN | apply Kd.S_drew)); exact HO_3.out⟩, ⟨by (with_reducible repeat (first | apply Kd.R_alloc | apply Kd.R_drewN | apply Kd.R_drew)); exact HO_4.out⟩, ⟨by (with_reducible repeat (first | apply Kd.R_alloc | apply Kd.R_drewN | apply Kd.R_drew)); exact HO_7.out⟩, ⟨by (with_reducible repeat (first | apply Kd.R_alloc | apply Kd.R_drewN | apply Kd.R_drew)); exact HO_11.out⟩, ⟨by (with_reducible repeat (first | apply Kd.R_alloc | apply Kd.R_drewN | apply Kd.R_drew)); exact HO_22.out⟩, ⟨by (with_reducible repeat (first | refine blk_drewN ?_ _ | refine blk_drew ?_ | refine blk_alloc ?_ _)); exact BK183.out⟩, ⟨by repeat (first | (with_reducible first | exact HB.out | apply below_alloc | apply pw_below_drewN | apply below_drew1 | refine below_set ?_ GE183.out) | exact HB.out)⟩⟩
           ·rw [if_neg c20] at H
            exact absurd H (by simp)
          ·rw [if_neg c19] at H
           exact absurd H (by simp)
         ·rw [if_neg c18] at H
          have c18b0 : decide (x24_2 < (t189.length : Int)) = false := decide_eq_false c18
          clear c18
          by_cases c29 : x4_1.length + x7_2.length < 17592186044416
          ·rw [if_pos c29] at H
           have LMc29 := Aside0.mk c29
           clear c29
           obtain ⟨y197, hy197⟩ : ∃ y_ : List Int, y_ = (x4_1 ++ x7_2) := ⟨_, rfl⟩
           replace H : (if x3_1.length < 5864062014805 then (spec_SCC.l0 k2 (x3_1 ++ [x7_2]) y197 t184 (t184.length : Int) (wrap64 (x13_1 + 1)) a0_0 l0_1 l0_2) else (none)) = some r := by first | (rw [hy197]; with_reducible exact H) | (have H2_ := (Option.bind_some _ _).symm.trans H; rw [hy197]; with_reducible exact H2_) | (have H2_ := (Option.bind_some _ _).symm.trans H; with_reducible exact H2_) | with_reducible exact H | (rw [hy197]; exact H) | exact H
           have Ny197 := Aside0.mk hy197
           clear hy197
           by_cases c30 : x3_1.length < 5864062014805
           ·rw [if_pos c30] at H
            have LMc30 := Aside0.mk c30
            clear c30
            obtain ⟨y200, hy200⟩ : ∃ y_ : List (List Int), y_ = (x3_1 ++ [x7_2]) := ⟨_, rfl⟩
            replace H : (spec_SCC.l0 k2 y200 y197 t184 (t184.length : Int) (wrap64 (x13_1 + 1)) a0_0 l0_1 l0_2) = some r := by first | (rw [hy200]; with_reducible exact H) | (have H2_ := (Option.bind_some _ _).symm.trans H; rw [hy200]; with_reducible exact H2_) | (have H2_ := (Option.bind_some _ _).symm.trans H; with_reducible exact H2_) | with_reducible exact H | (rw [hy200]; exact H) | exact H
            have Ny200 := Aside0.mk hy200
            clear hy200
            have H' := Aside0.mk H
            clear H
            obtain ⟨Ao32, co32, eo32⟩ := Kd.R_slice HO_7.out
            subst eo32
            go_wp2_with (first | ((with_reducible refine gate_builtin (b := .append) (xs := #[.tmp 37, .tmp 38]) rfl ?_); at_builtin; refine Kd.R_append_rows (Kd.int .i64) (w0 := w) w.heap.size rfl (.tmp 37) (.tmp 38) 22 3 (.int .i64 0) 8 rfl Tryz.underlying22 info3 rfl (by decide) (by omega) (.slice Ao14 x4_1.length co14) x4_1 x7_2 _ _ _ (fun k_ => some k_ ≠ (.slice Ao32 x7_2.length co32 : Value).ownBlock ∧ some k_ ≠ (.slice (some ad187) t184.length co6 : Value).ownBlock ∧ some k_ ≠ (.slice Ao17 t189.length co17 : Value).ownBlock) (fun _ => False) rfl rfl ?aO ?aR (fun _ _ h => h) (fun _ h => h.elim) ?aF ?aB ?aS ?aL ?_; (case aR => repeat (first | exact (Kd.R_reads' HO_7.out).2.2 | (with_reducible refine Kd.C_alloc ?_ _) | (with_reducible refine Kd.C_drewN ?_ _) | (with_reducible refine Kd.C_drew ?_))); (case aB => exact (by repeat (first | (with_reducible first | exact HB.out | apply below_alloc | apply pw_below_drewN | apply below_drew1 | refine below_set ?_ GE183.out) | exact HB.out))); (case aF => exact (fun k_ hk => ⟨Kd.fresh' (Kd.R_lt (by (with_reducible repeat (first | apply Kd.R_alloc | apply Kd.R_drewN | apply Kd.R_drew)); exact HO_7.out)) k_ hk, Kd.fresh' (Kd.R_lt (by (with_reducible repeat (first | apply Kd.R_alloc | apply Kd.R_drewN | apply Kd.R_drew)); exact HO_11.out)) k_ hk, Kd.fresh' (Kd.R_lt (by (with_reducible repeat (first | apply Kd.R_alloc | apply Kd.R_drewN | apply Kd.R_drew)); exact HO_22.out)) k_ hk⟩)); (case aO => exact (by (with_reducible repeat (first | apply Kd.R_alloc | apply Kd.R_drewN | apply Kd.R_drew)); exact HO_4.out)); (case aS => exact (below_size (by repeat (first | (with_reducible first | exact HB.out | apply below_alloc | apply pw_below_drewN | apply below_drew1 | refine below_set ?_ GE183.out) | exact HB.out)))); (case aL => have := LMc29.out; omega); intro v198 w31 ho hb hg hat; rw [← Ny197.out] at ho; have n0_ := Aside0.mk (Kd.S_after (ok := (fun k_ => some k_ ≠ (.slice Ao32 x7_2.length co32 : Value).ownBlock ∧ some k_ ≠ (.slice (some ad187) t184.length co6 : Value).ownBlock ∧ some k_ ≠ (.slice Ao17 t189.length co17 : Value).ownBlock)) (by (with_reducible repeat (first | apply Kd.S_alloc | apply Kd.S_drewN | apply Kd.S_drew)); exact Kd.S_mono HO_3.out (fun _ hk => ⟨⟨hk.2.1, ⟨hk.2.2.1, hk.2.2.2⟩⟩, hk.1⟩)) hg hat); have n1_ := Aside0.mk (Kd.R_after (ok := (fun k_ => some k_ ≠ (.slice (some ad187) t184.length co6 : Value).ownBlock ∧ some k_ ≠ (.slice Ao17 t189.length co17 : Value).ownBlock)) (by (with_reducible repeat (first | apply Kd.R_alloc | apply Kd.R_drewN | apply Kd.R_drew)); exact Kd.R_mono HO_7.out (fun _ hk => ⟨⟨hk.2.1, hk.2.2⟩, hk.1⟩)) hg hat); have n2_ := Aside0.mk (Kd.R_after (ok := (fun k_ => some k_ ≠ (.slice Ao32 x7_2.length co32 : Value).ownBlock ∧ some k_ ≠ (.slice Ao17 t189.length co17 : Value).ownBlock)) (by (with_reducible repeat (first | apply Kd.R_alloc | apply Kd.R_drewN | apply Kd.R_drew)); exact Kd.R_mono HO_11.out (fun _ hk => ⟨⟨hk.2.1, hk.2.2⟩, hk.1⟩)) hg hat); have n3_ := Aside0.mk (Kd.R_after (ok := (fun k_ => some k_ ≠ (.slice Ao32 x7_2.length co32 : Value).ownBlock ∧ some k_ ≠ (.slice (some ad187) t184.length co6 : Value).ownBlock)) (by (with_reducible repeat (first | apply Kd.R_alloc | apply Kd.R_drewN | apply Kd.R_drew)); exact Kd.R_mono HO_22.out (fun _ hk => ⟨⟨hk.2.1, hk.2.2⟩, hk.1⟩)) hg hat); have n4_ := Aside0.mk (blk_grown (g := gb183) (o := .cells #[.bool a0_0, .slice A0_1 l0_1.length c0_1, .slice A0_2 l0_2.length c0_2] 25 (0, 0)) (by (with_reducible repeat (first | refine blk_drewN ?_ _ | refine blk_drew ?_ | refine blk_alloc ?_ _)); exact BK183.out) hg (Kd.R_ne HO_4.out BK183.out (by decide))); have n5_ := Aside0.mk (hb); have n6_ := Aside0.mk (ho); clear HO_3; clear HO_7; clear HO_11; clear HO_22; clear BK183; clear HB; clear HO_4; have HO_3 := n0_; have HO_7 := n1_; have HO_11 := n2_; have HO_22 := n3_; have BK183 := n4_; have HB := n5_; have HO199 := n6_; clear n0_ n1_ n2_ n3_ n4_ n5_ n6_; clear ho hb hg hat) | ((with_reducible refine gate_builtin (b := .append) (xs := #[.tmp 40, .tmp 42]) rfl ?_); at_builtin; refine Kd.S_append (Kd.slice 3 (Kd.int .i64)) (w0 := w) w.heap.size rfl (.tmp 40) (.tmp 42) 29 22 (.slice none 0 0) 24 rfl Tryz.underlying29 info22 rfl (by decide) (by omega) u3 x3_1 x7_2 [.slice Ao32 x7_2.length co32] (fun k_ => some k_ ≠ (.slice (some ad187) t184.length co6 : Value).ownBlock ∧ some k_ ≠ (.slice Ao17 t189.length co17 : Value).ownBlock ∧ some k_ ≠ (v198 : Value).ownBlock) (fun k_ => some k_ = (.slice Ao32 x7_2.length co32 : Value).ownBlock) rfl rfl ?aP (fun k_ hk_ => ((Kd.R_mono (ok' := fun k_ => ((fun k_ => some k_ ≠ (.slice (some ad187) t184.length co6 : Value).ownBlock ∧ some k_ ≠ (.slice Ao17 t189.length co17 : Value).ownBlock ∧ some k_ ≠ (v198 : Value).ownBlock)) k_ ∧ some k_ ≠ (u3 : Value).ownBlock) (Kd.R_apart' (HO_7.out) (Kd.S_typed HO_3.out) (by decide)) (fun k_ hk => ⟨⟨hk.1.1.1, ⟨hk.1.1.2, hk.1.2⟩⟩, hk.2⟩))).1 k_ hk_.symm) ?aF ?aO ?aB ?aS ?aL ?_; (case aP => exact Kd.M_row (Kd.R_mono (Kd.R_tight rfl (Kd.R_mono (ok' := fun k_ => ((fun k_ => some k_ ≠ (.slice (some ad187) t184.length co6 : Value).ownBlock ∧ some k_ ≠ (.slice Ao17 t189.length co17 : Value).ownBlock ∧ some k_ ≠ (v198 : Value).ownBlock)) k_ ∧ some k_ ≠ (u3 : Value).ownBlock) (Kd.R_apart' (HO_7.out) (Kd.S_typed HO_3.out) (by decide)) (fun k_ hk => ⟨⟨hk.1.1.1, ⟨hk.1.1.2, hk.1.2⟩⟩, hk.2⟩))) (fun _ h_ => h_))); (case aB => exact (by repeat (first | (with_reducible first | exact HB.out | apply below_alloc | apply pw_below_drewN | apply below_drew1 | refine below_set ?_ GE183.out) | exact HB.out))); (case aF => exact (fun k_ hk => ⟨Kd.fresh' (Kd.R_lt (by (with_reducible repeat (first | apply Kd.R_alloc | apply Kd.R_drewN | apply Kd.R_drew)); exact HO_11.out)) k_ hk, Kd.fresh' (Kd.R_lt (by (with_reducible repeat (first | apply Kd.R_alloc | apply Kd.R_drewN | apply Kd.R_drew)); exact HO_22.out)) k_ hk, Kd.fresh' (Kd.R_lt (by (with_reducible repeat (first | apply Kd.R_alloc | apply Kd.R_drewN | apply Kd.R_drew)); exact HO199.out)) k_ hk⟩)); (case aO => exact (by (with_reducible repeat (first | apply Kd.S_alloc | apply Kd.S_drewN | apply Kd.S_drew)); exact Kd.S_mono HO_3.out (fun k_ hk => ⟨⟨hk.1.2.1, ⟨hk.1.2.2, hk.2⟩⟩, fun e_ => hk.1.1 e_⟩))); (case aS => exact (below_size (by repeat (first | (with_reducible first | exact HB.out | apply below_alloc | apply pw_below_drewN | apply below_drew1 | refine below_set ?_ GE183.out) | exact HB.out)))); (case aL => have := LMc30.out; omega); intro v201 w33 ho hb hg hat; rw [← Ny200.out] at ho; have n0_ := Aside0.mk (Kd.R_over' (by (with_reducible repeat (first | apply Kd.R_alloc | apply Kd.R_drewN | apply Kd.R_drew)); exact HO_11.out) (Kd.S_typed (by (with_reducible repeat (first | apply Kd.S_alloc | apply Kd.S_drewN | apply Kd.S_drew)); exact HO_3.out)) (by decide) hg); have n1_ := Aside0.mk (Kd.R_over' (by (with_reducible repeat (first | apply Kd.R_alloc | apply Kd.R_drewN | apply Kd.R_drew)); exact HO_22.out) (Kd.S_typed (by (with_reducible repeat (first | apply Kd.S_alloc | apply Kd.S_drewN | apply Kd.S_drew)); exact HO_3.out)) (by decide) hg); have n2_ := Aside0.mk (blk_grown (g := gb183) (o := .cells #[.bool a0_0, .slice A0_1 l0_1.length c0_1, .slice A0_2 l0_2.length c0_2] 25 (0, 0)) (by (with_reducible repeat (first | refine blk_drewN ?_ _ | refine blk_drew ?_ | refine blk_alloc ?_ _)); exact BK183.out) hg (Kd.S_ne HO_3.out BK183.out (by decide))); have n3_ := Aside0.mk (Kd.R_over' (by (with_reducible repeat (first | apply Kd.R_alloc | apply Kd.R_drewN | apply Kd.R_drew)); exact HO199.out) (Kd.S_typed (by (with_reducible repeat (first | apply Kd.S_alloc | apply Kd.S_drewN | apply Kd.S_drew)); exact HO_3.out)) (by decide) hg); have n4_ := Aside0.mk (hb); have n5_ := Aside0.mk (ho); clear HO_11; clear HO_22; clear BK183; clear HO199; clear HB; clear HO_3; clear HO_7; have HO_11 := n0_; have HO_22 := n1_; have BK183 := n2_; have HO199 := n3_; have HB := n4_; have HO202 := n5_; clear n0_ n1_ n2_ n3_ n4_ n5_; clear ho hb hg hat))
            go_roundg k2
            case measure => have := HK1.out; have := HK2.out; omega
            case rel => exact ⟨(y200), (y197), (wrap64 (x13_1 + 1)), (by first | rfl | (simp; done) | (simp [*]; done)), H', ⟨by have := HK1.out; have := HK2.out; omega⟩, ⟨by (with_reducible repeat (first | apply Kd.S_alloc | apply Kd.S_drewN | apply Kd.S_drew)); exact Kd.S_mono HO202.out (fun _ hk => ⟨hk.2.2, hk.1⟩)⟩, ⟨by (with_reducible repeat (first | apply Kd.R_alloc | apply Kd.R_drewN | apply Kd.R_drew)); exact Kd.R_mono HO199.out (fun _ hk => hk.2.1)⟩, ⟨by (with_reducible repeat (first | apply Kd.R_alloc | apply Kd.R_drewN | apply Kd.R_drew)); exact Kd.R_mono HO_11.out (fun _ hk => hk.2)⟩, ⟨by (with_reducible repeat (first | refine blk_drewN ?_ _ | refine blk_drew ?_ | refine blk_alloc ?_ _)); exact BK183.out⟩, ⟨by repeat (first | (with_reducible first | exact HB.out | apply below_alloc | apply pw_below_drewN | apply below_drew1 | refine below_set ?_ GE183.out) | exact HB.out)⟩⟩
           ·rw [if_neg c30] at H
            exact absurd H (by simp)
          ·rw [if_neg c29] at H
           exact absurd H (by simp)
     ·rw [if_neg c9] at H
      exact absurd H (by simp)
    ·rw [if_neg c8] at H
     exact absurd H (by simp)
   ·rw [if_neg c7] at H
    have c7b0 : decide (x13_1 < (t184.length : Int)) = false := decide_eq_false c7
    clear c7
    obtain rfl := Option.some.inj H
    go_wp2
    go_ret
    exact ⟨_, by first | rfl | (simp [errW_none, errW_some] <;> rfl) | (simp [*, errW_none, errW_some] <;> rfl), by (with_reducible repeat (first | apply Kd.S_alloc | apply Kd.S_drewN | apply Kd.S_drew)); exact Kd.S_mono HO_3.out (fun _ hk => trivial), by repeat (first | (with_reducible first | exact HB.out | apply below_alloc | apply pw_below_drewN | apply below_drew1 | refine below_set ?_ GE183.out) | exact HB.out)⟩

end Go.Proofs.YtddklkgcodjijaaGreat.PL

/- Printed by a program (the kit's printer, run over contracts that were proved by hand). -/
namespace Go.Proofs.YtddklkgcodjijaaGreat.PL
open Go.RowKit Go.Proofs.YtddklkgcodjijaaGreatW.PrintWords Go.Proofs.YtddklkgcodjijaaGreatW.PrintLast Go.Proofs.YtddklkgcodjijaaGreatW.PrintMore
attribute [local go_sem] max2_int min2_int max_two min_two max_three min_three max_four min_four   -- for this text's walks alone

attribute [local go_sem high] eqA36
/-! ### spec_firstOf: function 37 -/
def spec_firstOf.l0 : Nat → List Int → List Int → Int → Int → Option (Int)
 | 0, _, _, _, _ => none
 | k + 1, x1, x7, x8, x9 => if x9 < x8 then (if 0 ≤ x9 then (if x9 < (x7.length : Int) then ((spec_hasInt.f k x1 (rd x7 x9)).bind fun t206 => (if t206 = true then (some (rd x7 x9)) else (spec_firstOf.l0 k x1 x7 x8 (wrap64 (x9 + 1))))) else (none)) else (none)) else (some 0)
def spec_firstOf.f (k : Nat) (l0 : List Int) (l1 : List Int) : Option (Int) := spec_firstOf.l0 k l1 l0 (l0.length : Int) 0
set_option maxHeartbeats 8000000 in
set_option maxRecDepth 100000 in
theorem spec_firstOf.calls (k : Nat) (A0 : Option Addr) (c0 : Nat) (l0 : List Int) (A1 : Option Addr) (c1 : Nat) (l1 : List Int) (r : Int) (w : World) (hr0 : Kd.C (Kd.int .i64) w A0 l0.length l0) (hc0 : l0.length ≤ c0) (hr1 : Kd.C (Kd.int .i64) w A1 l1.length l1) (hc1 : l1.length ≤ c1) (h : spec_firstOf.f k l0 l1 = some r) :
  Calls Tryz.prog 37 #[.slice A0 l0.length c0, .slice A1 l1.length c1] w fun e w' => e = .returned (.int .i64 r) ∧ Drawn0 w w' := by
 have HR0 := Aside0.mk hr0
 have HC0 := Aside0.mk hc0
 clear hr0 hc0
 have HR1 := Aside0.mk hr1
 have HC1 := Aside0.mk hc1
 clear hr1 hc1
 have H : (spec_firstOf.l0 k l1 l0 (l0.length : Int) 0) = some r := h
 clear h
 have H' := Aside0.mk H
 clear H
 go_enter Tryz.func37, Tryz.ntmps37
 go_wp2
 go_loopg [9] k (fun kq v9 w' => ∃ (x9_1 : Int), v9 = .int .i64 x9_1 ∧ Aside0 (spec_firstOf.l0 kq l1 l0 (l0.length : Int) x9_1 = some r) ∧ Aside0 (kq ≤ k) ∧ Drawn0 w w')
 case atStart => exact ⟨(0), (by first | rfl | (simp; done) | (simp [*]; done)), H', ⟨Nat.le_refl _⟩, by repeat (first | exact Drawn0.refl _ | apply Drawn0.step)⟩
 case round =>
  clear H'
  try clear c1
  try clear p2
  obtain ⟨x9_1, rfl, HA, HK1, ⟨m1, rfl⟩⟩ := hrel
  cases gk with
  | zero => exact absurd HA.out (by simp [spec_firstOf.l0])
  | succ k1 =>
   have H := HA.out
   clear HA
   simp only [spec_firstOf.l0] at H
   by_cases c3 : x9_1 < (l0.length : Int)
   ·rw [if_pos c3] at H
    have c3b0 : decide (x9_1 < (l0.length : Int)) = true := decide_eq_true c3
    clear c3
    by_cases c4 : 0 ≤ x9_1
    ·rw [if_pos c4] at H
     have c4b0 : decide (0 ≤ x9_1) = true := decide_eq_true c4
     clear c4
     by_cases c5 : x9_1 < (l0.length : Int)
     ·rw [if_pos c5] at H
      have c5b0 : decide (x9_1 < (l0.length : Int)) = true := decide_eq_true c5
      clear c5
      replace H := Option.bind_eq_some_iff.mp H
      obtain ⟨t206, A60, H⟩ := H
      replace H : (if t206 = true then (some (rd l0 x9_1)) else (spec_firstOf.l0 k1 l1 l0 (l0.length : Int) (wrap64 (x9_1 + 1)))) = some r := H
      have A6 := Aside0.mk A60
      clear A60
      by_cases c7 : t206 = true
      ·subst c7
       have H1 : (some (rd l0 x9_1)) = some r := by rw [if_pos rfl] at H; exact H
       clear H
       have H := H1
       clear H1
       obtain rfl := Option.some.inj H
       have p205 : 0 ≤ (x9_1 : Int) := of_decide_eq_true (by first | (with_reducible assumption) | assumption)
       have q205 : x9_1 < (l0.length : Int) := of_decide_eq_true (by first | (with_reducible assumption) | assumption)
       obtain ⟨ad205, e205, hx205_0⟩ := Kd.at_int HR0.out x9_1 p205 q205
       cases e205
       replace p205 := eq_true p205
       replace q205 := eq_true q205
       go_wp2_with (first | ((with_reducible refine gate_callee (f := 33) rfl ?_); refine goesL_ (some 15) rfl rfl Tryz.func33 (by kernel_rfl) rfl #[.slice A1 l1.length c1, .int .i64 (rd l0 x9_1)] rfl (by (try simp only [List.map_toArray, List.map_cons, List.map_nil]); first | done | rfl | (simp only [List.length_drop, List.length_take]; rfl)) ?_; (with_reducible refine (spec_hasInt.calls k1 _ _ l1 (rd l0 x9_1) true _ ?side1 ?side2 A6.out).mono ?_); (case side1 => repeat (first | exact HR1.out | (with_reducible refine Kd.C_alloc ?_ _) | (with_reducible refine Kd.C_drewN ?_ _) | (with_reducible refine Kd.C_drew ?_))); (case side2 => exact HC1.out); rintro e w' ⟨rfl, ⟨nd, rfl⟩⟩; refine ⟨_, rfl, ?_⟩))
       go_ret
       exact ⟨by first | rfl | (simp; done) | (simp [*]; done), by repeat (first | exact Drawn0.refl _ | apply Drawn0.step)⟩
      ·replace c7 := Bool.eq_false_iff.mpr c7
       subst c7
       have H1 : (spec_firstOf.l0 k1 l1 l0 (l0.length : Int) (wrap64 (x9_1 + 1))) = some r := by rw [if_neg (show ¬ (false = true) by decide)] at H; exact H
       clear H
       have H := H1
       clear H1
       have H' := Aside0.mk H
       clear H
       have p205 : 0 ≤ (x9_1 : Int) := of_decide_eq_true (by first | (with_reducible assumption) | assumption)
       have q205 : x9_1 < (l0.length : Int) := of_decide_eq_true (by first | (with_reducible assumption) | assumption)
       obtain ⟨ad205, e205, hx205_0⟩ := Kd.at_int HR0.out x9_1 p205 q205
       cases e205
       replace p205 := eq_true p205
       replace q205 := eq_true q205
       go_wp2_with (first | ((with_reducible refine gate_callee (f := 33) rfl ?_); refine goesL_ (some 15) rfl rfl Tryz.func33 (by kernel_rfl) rfl #[.slice A1 l1.length c1, .int .i64 (rd l0 x9_1)] rfl (by (try simp only [List.map_toArray, List.map_cons, List.map_nil]); first | done | rfl | (simp only [List.length_drop, List.length_take]; rfl)) ?_; (with_reducible refine (spec_hasInt.calls k1 _ _ l1 (rd l0 x9_1) false _ ?side1 ?side2 A6.out).mono ?_); (case side1 => repeat (first | exact HR1.out | (with_reducible refine Kd.C_alloc ?_ _) | (with_reducible refine Kd.C_drewN ?_ _) | (with_reducible refine Kd.C_drew ?_))); (case side2 => exact HC1.out); rintro e w' ⟨rfl, ⟨nd, rfl⟩⟩; refine ⟨_, rfl, ?_⟩))
       go_roundg k1
       case measure => have := HK1.out; omega
       case rel => exact ⟨(wrap64 (x9_1 + 1)), (by first | rfl | (simp; done) | (simp [*]; done)), H', ⟨by have := HK1.out; omega⟩, by repeat (first | exact Drawn0.refl _ | apply Drawn0.step)⟩
     ·rw [if_neg c5] at H
      exact absurd H (by simp)
    ·rw [if_neg c4] at H
     exact absurd H (by simp)
   ·rw [if_neg c3] at H
    have c3b0 : decide (x9_1 < (l0.length : Int)) = false := decide_eq_false c3
    clear c3
    obtain rfl := Option.some.inj H
    go_wp2
    go_ret
    exact ⟨by first | rfl | (simp; done) | (simp [*]; done), by repeat (first | exact Drawn0.refl _ | apply Drawn0.step)⟩

/-! ### slices_Equal_int_int: function 39 -/
def slices_Equal_int_int.l0 : Nat → List Int → List Int → Int → Int → Option (Bool)
 | 0, _, _, _, _ => none
 | k + 1, x0, x1, x12, x13 => if x13 < x12 then (if 0 ≤ x13 then (if x13 < (x0.length : Int) then (if x13 < (x1.length : Int) then (if (rd x0 x13) = (rd x1 x13) then (slices_Equal_int_int.l0 k x0 x1 x12 (wrap64 (x13 + 1))) else (some false)) else (none)) else (none)) else (none)) else (some true)
def slices_Equal_int_int.f (k : Nat) (l0 : List Int) (l1 : List Int) : Option (Bool) := if (l0.length : Int) = (l1.length : Int) then (slices_Equal_int_int.l0 k l0 l1 (l0.length : Int) 0) else (some false)
set_option maxHeartbeats 8000000 in
set_option maxRecDepth 100000 in
theorem slices_Equal_int_int.calls (k : Nat) (A0 : Option Addr) (c0 : Nat) (l0 : List Int) (A1 : Option Addr) (c1 : Nat) (l1 : List Int) (r : Bool) (w : World) (hr0 : Kd.C (Kd.int .i64) w A0 l0.length l0) (hc0 : l0.length ≤ c0) (hr1 : Kd.C (Kd.int .i64) w A1 l1.length l1) (hc1 : l1.length ≤ c1) (h : slices_Equal_int_int.f k l0 l1 = some r) :
  Calls Tryz.prog 39 #[.slice A0 l0.length c0, .slice A1 l1.length c1] w fun e w' => e = .returned (.bool r) ∧ Drawn0 w w' := by
 have HR0 := Aside0.mk hr0
 have HC0 := Aside0.mk hc0
 clear hr0 hc0
 have HR1 := Aside0.mk hr1
 have HC1 := Aside0.mk hc1
 clear hr1 hc1
 have H : (if (l0.length : Int) = (l1.length : Int) then (slices_Equal_int_int.l0 k l0 l1 (l0.length : Int) 0) else (some false)) = some r := h
 clear h
 by_cases c3 : (l0.length : Int) = (l1.length : Int)
 ·rw [if_pos c3] at H
  have c3b0 : ((l0.length : Int) == (l1.length : Int)) = true := beq_iff_eq.mpr c3
  have c3b1 : ((l0.length : Int) != (l1.length : Int)) = false := bne_eq_false_iff_eq.mpr c3
  have c3b2 : (l0.length == l1.length) = true := by first | simpa using c3 | (simp at c3 ⊢; omega)
  clear c3
  have H' := Aside0.mk H
  clear H
  go_enter Tryz.func39, Tryz.ntmps39
  go_wp2
  repeat (go_quiet (fail); try go_wp2)
  go_loopg [13] k (fun kq v13 w' => ∃ (x13_1 : Int), v13 = .int .i64 x13_1 ∧ Aside0 (slices_Equal_int_int.l0 kq l0 l1 (l0.length : Int) x13_1 = some r) ∧ Aside0 (kq ≤ k) ∧ Drawn0 w w')
  case atStart => exact ⟨(0), (by first | rfl | (simp; done) | (simp [*]; done)), H', ⟨Nat.le_refl _⟩, by repeat (first | exact Drawn0.refl _ | apply Drawn0.step)⟩
  case round =>
   clear H'
   try clear c1
   try clear p2
   try clear c3
   try clear c3b0
   try clear c3b1
   try clear c3b2
   obtain ⟨x13_1, rfl, HA, HK1, ⟨m1, rfl⟩⟩ := hrel
   cases gk with
   | zero => exact absurd HA.out (by simp [slices_Equal_int_int.l0])
   | succ k1 =>
    have H := HA.out
    clear HA
    simp only [slices_Equal_int_int.l0] at H
    by_cases c4 : x13_1 < (l0.length : Int)
    ·rw [if_pos c4] at H
     have c4b0 : decide (x13_1 < (l0.length : Int)) = true := decide_eq_true c4
     clear c4
     by_cases c5 : 0 ≤ x13_1
     ·rw [if_pos c5] at H
      have c5b0 : decide (0 ≤ x13_1) = true := decide_eq_true c5
      clear c5
      by_cases c6 : x13_1 < (l0.length : Int)
      ·rw [if_pos c6] at H
       have c6b0 : decide (x13_1 < (l0.length : Int)) = true := decide_eq_true c6
       clear c6
       by_cases c7 : x13_1 < (l1.length : Int)
       ·rw [if_pos c7] at H
        have c7b0 : decide (x13_1 < (l1.length : Int)) = true := decide_eq_true c7
        clear c7
        by_cases c8 : (rd l0 x13_1) = (rd l1 x13_1)
        ·rw [if_pos c8] at H
         have c8b0 : ((rd l0 x13_1) == (rd l1 x13_1)) = true := beq_iff_eq.mpr c8
         have c8b1 : ((rd l0 x13_1) != (rd l1 x13_1)) = false := bne_eq_false_iff_eq.mpr c8
         clear c8
         have H' := Aside0.mk H
         clear H
         have p209 : 0 ≤ (x13_1 : Int) := of_decide_eq_true (by first | (with_reducible assumption) | assumption)
         have q209 : x13_1 < (l0.length : Int) := of_decide_eq_true (by first | (with_reducible assumption) | assumption)
         obtain ⟨ad209, e209, hx209_0⟩ := Kd.at_int HR0.out x13_1 p209 q209
         cases e209
         replace p209 := eq_true p209
         replace q209 := eq_true q209
         have p210 : 0 ≤ (x13_1 : Int) := of_decide_eq_true (by first | (with_reducible assumption) | assumption)
         have q210 : x13_1 < (l1.length : Int) := of_decide_eq_true (by first | (with_reducible assumption) | assumption)
         obtain ⟨ad210, e210, hx210_0⟩ := Kd.at_int HR1.out x13_1 p210 q210
         cases e210
         replace p210 := eq_true p210
         replace q210 := eq_true q210
         go_wp2
         repeat (go_quiet (fail); try go_wp2)
         go_roundg k1
         case measure => have := HK1.out; omega
         case rel => exact ⟨(wrap64 (x13_1 + 1)), (by first | rfl | (simp; done) | (simp [*]; done)), H', ⟨by have := HK1.out; omega⟩, by repeat (first | exact Drawn0.refl _ | apply Drawn0.step)⟩
        ·rw [if_neg c8] at H
         have c8b0 : ((rd l0 x13_1) == (rd l1 x13_1)) = false := beq_eq_false_iff_ne.mpr c8
         have c8b1 : ((rd l0 x13_1) != (rd l1 x13_1)) = true := bne_iff_ne.mpr c8
         obtain rfl := Option.some.inj H
         have p209 : 0 ≤ (x13_1 : Int) := of_decide_eq_true (by first | (with_reducible assumption) | assumption)
         have q209 : x13_1 < (l0.length : Int) := of_decide_eq_true (by first | (with_reducible assumption) | assumption)
         obtain ⟨ad209, e209, hx209_0⟩ := Kd.at_int HR0.out x13_1 p209 q209
         cases e209
         replace p209 := eq_true p209
         replace q209 := eq_true q209
         have p210 : 0 ≤ (x13_1 : Int) := of_decide_eq_true (by first | (with_reducible assumption) | assumption)
         have q210 : x13_1 < (l1.length : Int) := of_decide_eq_true (by first | (with_reducible assumption) | assumption)
         obtain ⟨ad210, e210, hx210_0⟩ := Kd.at_int HR1.out x13_1 p210 q210
         cases e210
         replace p210 := eq_true p210
         replace q210 := eq_true q210
         go_wp2
         repeat (go_quiet (fail); try go_wp2)
         go_ret
         exact ⟨by first | rfl | (simp; done) | (simp [*]; done), by repeat (first | exact Drawn0.refl _ | apply Drawn0.step)⟩
       ·rw [if_neg c7] at H
        exact absurd H (by simp)
      ·rw [if_neg c6] at H
       exact absurd H (by simp)
     ·rw [if_neg c5] at H
      exact absurd H (by simp)
    ·rw [if_neg c4] at H
     have c4b0 : decide (x13_1 < (l0.length : Int)) = false := decide_eq_false c4
     clear c4
     obtain rfl := Option.some.inj H
     go_wp2
     repeat (go_quiet (fail); try go_wp2)
     go_ret
     exact ⟨by first | rfl | (simp; done) | (simp [*]; done), by repeat (first | exact Drawn0.refl _ | apply Drawn0.step)⟩
 ·rw [if_neg c3] at H
  have c3b0 : ((l0.length : Int) == (l1.length : Int)) = false := beq_eq_false_iff_ne.mpr c3
  have c3b1 : ((l0.length : Int) != (l1.length : Int)) = true := bne_iff_ne.mpr c3
  have c3b2 : (l0.length == l1.length) = false := by first | simpa using c3 | (simp at c3 ⊢; omega)
  obtain rfl := Option.some.inj H
  go_enter Tryz.func39, Tryz.ntmps39
  go_wp2
  repeat (go_quiet (fail); try go_wp2)
  go_ret
  exact ⟨by first | rfl | (simp; done) | (simp [*]; done), by repeat (first | exact Drawn0.refl _ | apply Drawn0.step)⟩

/-! ### impl_Slot: function 10 -/
def impl_Slot.l0 : Nat → List (S36) → List (S36) → Int → Int → Option (Bool)
 | 0, _, _, _, _ => none
 | k + 1, x0, x1, x12, x13 => if x13 < x12 then (if 0 ≤ x13 then (if x13 < (x0.length : Int) then (if x13 < (x1.length : Int) then (if (!(((rd_T36 x0 x13).f0) == ((rd_T36 x1 x13).f0)) || (!(((rd_T36 x0 x13).f1) == ((rd_T36 x1 x13).f1)))) = true then (some false) else (impl_Slot.l0 k x0 x1 x12 (wrap64 (x13 + 1)))) else (none)) else (none)) else (none)) else (some true)
def impl_Slot.f (k : Nat) (l0 : List (S36)) (l1 : List (S36)) : Option (Bool) := if (l0.length : Int) = (l1.length : Int) then (impl_Slot.l0 k l0 l1 (l0.length : Int) 0) else (some false)
set_option maxHeartbeats 8000000 in
set_option maxRecDepth 100000 in
theorem impl_Slot.calls (k : Nat) (A0 : Option Addr) (c0 : Nat) (l0 : List (S36)) (A1 : Option Addr) (c1 : Nat) (l1 : List (S36)) (r : Bool) (w : World) (hr0 : Kd.C k36 w A0 l0.length l0) (hc0 : l0.length ≤ c0) (hr1 : Kd.C k36 w A1 l1.length l1) (hc1 : l1.length ≤ c1) (h : impl_Slot.f k l0 l1 = some r) :
  Calls Tryz.prog 10 #[.slice A0 l0.length c0, .slice A1 l1.length c1] w fun e w' => e = .returned (.bool r) ∧ Drawn0 w w' := by
 have hu36 := Tryz.underlying36
 have HR0 := Aside0.mk hr0
 have HC0 := Aside0.mk hc0
 clear hr0 hc0
 have HR1 := Aside0.mk hr1
 have HC1 := Aside0.mk hc1
 clear hr1 hc1
 have H : (if (l0.length : Int) = (l1.length : Int) then (impl_Slot.l0 k l0 l1 (l0.length : Int) 0) else (some false)) = some r := h
 clear h
 by_cases c3 : (l0.length : Int) = (l1.length : Int)
 ·rw [if_pos c3] at H
  have c3b0 : ((l0.length : Int) == (l1.length : Int)) = true := beq_iff_eq.mpr c3
  have c3b1 : ((l0.length : Int) != (l1.length : Int)) = false := bne_eq_false_iff_eq.mpr c3
  have c3b2 : (l0.length == l1.length) = true := by first | simpa using c3 | (simp at c3 ⊢; omega)
  clear c3
  have H' := Aside0.mk H
  clear H
  go_enter Tryz.func10, Tryz.ntmps10
  go_wp2
  repeat (go_quiet (fail); try go_wp2)
  go_loopg [13] k (fun kq v13 w' => ∃ (x13_1 : Int), v13 = .int .i64 x13_1 ∧ Aside0 (impl_Slot.l0 kq l0 l1 (l0.length : Int) x13_1 = some r) ∧ Aside0 (kq ≤ k) ∧ Drawn0 w w')
  case atStart => exact ⟨(0), (by first | rfl | (simp; done) | (simp [*]; done)), H', ⟨Nat.le_refl _⟩, by repeat (first | exact Drawn0.refl _ | apply Drawn0.step)⟩
  case round =>
   clear H'
   try clear c1
   try clear p2
   try clear c3
   try clear c3b0
   try clear c3b1
   try clear c3b2
   obtain ⟨x13_1, rfl, HA, HK1, ⟨m1, rfl⟩⟩ := hrel
   cases gk with
   | zero => exact absurd HA.out (by simp [impl_Slot.l0])
   | succ k1 =>
    have H := HA.out
    clear HA
    simp only [impl_Slot.l0] at H
    by_cases c4 : x13_1 < (l0.length : Int)
    ·rw [if_pos c4] at H
     have c4b0 : decide (x13_1 < (l0.length : Int)) = true := decide_eq_true c4
     clear c4
     by_cases c5 : 0 ≤ x13_1
     ·rw [if_pos c5] at H
      have c5b0 : decide (0 ≤ x13_1) = true := decide_eq_true c5
      clear c5
      by_cases c6 : x13_1 < (l0.length : Int)
      ·rw [if_pos c6] at H
       have c6b0 : decide (x13_1 < (l0.length : Int)) = true := decide_eq_true c6
       clear c6
       by_cases c7 : x13_1 < (l1.length : Int)
       ·rw [if_pos c7] at H
        have c7b0 : decide (x13_1 < (l1.length : Int)) = true := decide_eq_true c7
        clear c7
        by_cases c8 : (!(((rd_T36 l0 x13_1).f0) == ((rd_T36 l1 x13_1).f0)) || (!(((rd_T36 l0 x13_1).f1) == ((rd_T36 l1 x13_1).f1)))) = true
        ·rw [if_pos c8] at H
         have c8b0 : (!(((rd_T36 l0 x13_1).f0) == ((rd_T36 l1 x13_1).f0)) || (!(((rd_T36 l0 x13_1).f1) == ((rd_T36 l1 x13_1).f1)))) = true := c8
         clear c8
         obtain rfl := Option.some.inj H
         have p207 : 0 ≤ (x13_1 : Int) := of_decide_eq_true (by first | (with_reducible assumption) | assumption)
         have q207 : x13_1 < (l0.length : Int) := of_decide_eq_true (by first | (with_reducible assumption) | assumption)
         obtain ⟨ad207, e207, hx207_0, hx207_1⟩ := at_T36 HR0.out x13_1 p207 q207
         cases e207
         replace p207 := eq_true p207
         replace q207 := eq_true q207
         have p208 : 0 ≤ (x13_1 : Int) := of_decide_eq_true (by first | (with_reducible assumption) | assumption)
         have q208 : x13_1 < (l1.length : Int) := of_decide_eq_true (by first | (with_reducible assumption) | assumption)
         obtain ⟨ad208, e208, hx208_0, hx208_1⟩ := at_T36 HR1.out x13_1 p208 q208
         cases e208
         replace p208 := eq_true p208
         replace q208 := eq_true q208
         go_wp2
         repeat (go_quiet (fail); try go_wp2)
         go_ret
         exact ⟨by first | rfl | (simp; done) | (simp [*]; done), by repeat (first | exact Drawn0.refl _ | apply Drawn0.step)⟩
        ·rw [if_neg c8] at H
         have c8b0 : (!(((rd_T36 l0 x13_1).f0) == ((rd_T36 l1 x13_1).f0)) || (!(((rd_T36 l0 x13_1).f1) == ((rd_T36 l1 x13_1).f1)))) = false := by simpa using c8
         clear c8
         have H' := Aside0.mk H
         clear H
         have p207 : 0 ≤ (x13_1 : Int) := of_decide_eq_true (by first | (with_reducible assumption) | assumption)
         have q207 : x13_1 < (l0.length : Int) := of_decide_eq_true (by first | (with_reducible assumption) | assumption)
         obtain ⟨ad207, e207, hx207_0, hx207_1⟩ := at_T36 HR0.out x13_1 p207 q207
         cases e207
         replace p207 := eq_true p207
         replace q207 := eq_true q207
         have p208 : 0 ≤ (x13_1 : Int) := of_decide_eq_true (by first | (with_reducible assumption) | assumption)
         have q208 : x13_1 < (l1.length : Int) := of_decide_eq_true (by first | (with_reducible assumption) | assumption)
         obtain ⟨ad208, e208, hx208_0, hx208_1⟩ := at_T36 HR1.out x13_1 p208 q208
         cases e208
         replace p208 := eq_true p208
         replace q208 := eq_true q208
         go_wp2
         repeat (go_quiet (fail); try go_wp2)
         go_roundg k1
         case measure => have := HK1.out; omega
         case rel => exact ⟨(wrap64 (x13_1 + 1)), (by first | rfl | (simp; done) | (simp [*]; done)), H', ⟨by have := HK1.out; omega⟩, by repeat (first | exact Drawn0.refl _ | apply Drawn0.step)⟩
       ·rw [if_neg c7] at H
        exact absurd H (by simp)
      ·rw [if_neg c6] at H
       exact absurd H (by simp)
     ·rw [if_neg c5] at H
      exact absurd H (by simp)
    ·rw [if_neg c4] at H
     have c4b0 : decide (x13_1 < (l0.length : Int)) = false := decide_eq_false c4
     clear c4
     obtain rfl := Option.some.inj H
     go_wp2
     repeat (go_quiet (fail); try go_wp2)
     go_ret
     exact ⟨by first | rfl | (simp; done) | (simp [*]; done), by repeat (first | exact Drawn0.refl _ | apply Drawn0.step)⟩
 ·rw [if_neg c3] at H
  have c3b0 : ((l0.length : Int) == (l1.length : Int)) = false := beq_eq_false_iff_ne.mpr c3
  have c3b1 : ((l0.length : Int) != (l1.length : Int)) = true := bne_iff_ne.mpr c3
  have c3b2 : (l0.length == l1.length) = false := by first | simpa using c3 | (simp at c3 ⊢; omega)
  obtain rfl := Option.some.inj H
  go_enter Tryz.func10, Tryz.ntmps10
  go_wp2
  repeat (go_quiet (fail); try go_wp2)
  go_ret
  exact ⟨by first | rfl | (simp; done) | (simp [*]; done), by repeat (first | exact Drawn0.refl _ | apply Drawn0.step)⟩

-- NOT PRINTED: function 38 (slices_EqualFunc_int_int_int_int)



end Go.Proofs.YtddklkgcodjijaaGreat.PL
