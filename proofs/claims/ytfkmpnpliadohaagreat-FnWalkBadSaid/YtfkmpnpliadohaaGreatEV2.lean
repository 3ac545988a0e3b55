/- Printed by a program (the kit's printer, run over contracts that were proved by hand). -/
import Derived.Test.YtfkmpnpliadohaaGreatEV1
namespace Go.Proofs.YtfkmpnpliadohaaGreat.PL
open Go.RowKit Go.Proofs.YtfkmpnpliadohaaGreatW.PrintWords Go.Proofs.YtfkmpnpliadohaaGreatW.PrintLast Go.Proofs.YtfkmpnpliadohaaGreatW.PrintMore
attribute [local go_sem] max2_int min2_int max_two min_two max_three min_three max_four min_four   -- for this text's walks alone
set_option linter.unusedVariables false
set_option linter.unusedSimpArgs false

/-! ### laws_formed: function 23 -/
mutual
def laws_formed.l0 : Nat → Int → Bool → List Int → List (S38) → Option (Bool)
  | 0, _, _, _, _ => none
  | k + 1, x3, x292000, x292001, x292002 => if x3 < (x292001.length : Int) then (if 0 ≤ x3 then (if x3 ≤ (x292001.length : Int) then ((slices_Contains_int_int.f k (x292001.take (x3 : Int).toNat) (rd x292001 x3)).bind fun t294 => (if t294 = true then (some false) else (laws_formed.l0 k (wrap64 (x3 + 1)) x292000 x292001 x292002))) else (none)) else (none)) else (laws_formed.l1 k 0 x292000 x292001 x292002)
def laws_formed.l1 : Nat → Int → Bool → List Int → List (S38) → Option (Bool)
  | 0, _, _, _, _ => none
  | k + 1, x4, x292000, x292001, x292002 => if x4 < (x292002.length : Int) then (if 0 ≤ x4 then (if ((rd_T38 x292002 x4).f0) = ((rd_T38 x292002 x4).f1) then (some false) else ((slices_Contains_int_int.f k x292001 ((rd_T38 x292002 x4).f0)).bind fun t297 => (if t297 = true then ((slices_Contains_int_int.f k x292001 ((rd_T38 x292002 x4).f1)).bind fun t298 => (if t298 = true then (laws_formed.l1 k (wrap64 (x4 + 1)) x292000 x292001 x292002) else (some false))) else (some false)))) else (none)) else (some true)
end
def laws_formed.f (k : Nat) (a0_0 : Bool) (l0_1 : List Int) (l0_2 : List (S38)) : Option (Bool) := laws_formed.l0 k 0 a0_0 l0_1 l0_2
theorem laws_formed.mono_l : ∀ k, (∀ y0 y1 y2 y3, LeO (laws_formed.l0 k y0 y1 y2 y3) (laws_formed.l0 (k + 1) y0 y1 y2 y3)) ∧ (∀ y0 y1 y2 y3, LeO (laws_formed.l1 k y0 y1 y2 y3) (laws_formed.l1 (k + 1) y0 y1 y2 y3))
  | 0 => ⟨fun _ _ _ _ r h => by simp [laws_formed.l0] at h, fun _ _ _ _ r h => by simp [laws_formed.l1] at h⟩
  | k + 1 => by
    obtain ⟨ih0, ih1⟩ := laws_formed.mono_l k
    refine ⟨?_, ?_⟩
    · intro y0 y1 y2 y3
      unfold laws_formed.l0
      repeat' first
      | (with_reducible exact ih0 _ _ _ _)
      | (with_reducible exact ih1 _ _ _ _)
      | (with_reducible exact slices_Contains_int_int.mono _ _ _)
      | (with_reducible exact LeO.refl _)
      | (with_reducible exact LeO.none _)
      | (with_reducible refine LeO.ite ?_ ?_)
      | (with_reducible refine LeO.bind ?_ (fun _ => ?_))
      | exact ih0 _ _ _ _
      | exact ih1 _ _ _ _
      | exact slices_Contains_int_int.mono _ _ _
      | exact LeO.none _
      | refine LeO.ite ?_ ?_
      | refine LeO.bind ?_ (fun _ => ?_)
    · intro y0 y1 y2 y3
      unfold laws_formed.l1
      repeat' first
      | (with_reducible exact ih0 _ _ _ _)
      | (with_reducible exact ih1 _ _ _ _)
      | (with_reducible exact slices_Contains_int_int.mono _ _ _)
      | (with_reducible exact LeO.refl _)
      | (with_reducible exact LeO.none _)
      | (with_reducible refine LeO.ite ?_ ?_)
      | (with_reducible refine LeO.bind ?_ (fun _ => ?_))
      | exact ih0 _ _ _ _
      | exact ih1 _ _ _ _
      | exact slices_Contains_int_int.mono _ _ _
      | exact LeO.none _
      | refine LeO.ite ?_ ?_
      | refine LeO.bind ?_ (fun _ => ?_)
theorem laws_formed.mono : ∀ a0 a1 a2 k, LeO (laws_formed.f k a0 a1 a2) (laws_formed.f (k + 1) a0 a1 a2) := by
  intro a0 a1 a2 k
  obtain ⟨ih0, ih1⟩ := laws_formed.mono_l k
  unfold laws_formed.f
  repeat' first
      | (with_reducible exact ih0 _ _ _ _)
      | (with_reducible exact ih1 _ _ _ _)
      | (with_reducible exact slices_Contains_int_int.mono _ _ _)
      | (with_reducible exact LeO.refl _)
      | (with_reducible exact LeO.none _)
      | (with_reducible refine LeO.ite ?_ ?_)
      | (with_reducible refine LeO.bind ?_ (fun _ => ?_))
      | exact ih0 _ _ _ _
      | exact ih1 _ _ _ _
      | exact slices_Contains_int_int.mono _ _ _
      | exact LeO.none _
      | refine LeO.ite ?_ ?_
      | refine LeO.bind ?_ (fun _ => ?_)
set_option maxHeartbeats 8000000 in
set_option maxRecDepth 100000 in
theorem laws_formed.calls (k : Nat) (a0_0 : Bool) (A0_1 : Option Addr) (c0_1 : Nat) (l0_1 : List Int) (A0_2 : Option Addr) (c0_2 : Nat) (l0_2 : List (S38)) (r : Bool) (w : World) (hr0_1 : Kd.C (Kd.int .i64) w A0_1 l0_1.length l0_1) (hc0_1 : l0_1.length ≤ c0_1) (hr0_2 : Kd.C k38 w A0_2 l0_2.length l0_2) (hc0_2 : l0_2.length ≤ c0_2) (h : laws_formed.f k a0_0 l0_1 l0_2 = some r) :
    Calls Tryz.prog 23 #[.agg #[.bool a0_0, .slice A0_1 l0_1.length c0_1, .slice A0_2 l0_2.length c0_2]] w fun e w' => e = .returned (.bool r) ∧ Below w.heap.size w w' := by
  have hu25 := Tryz.underlying25
  have hu38 := Tryz.underlying38
  have HR0_1 := Aside0.mk hr0_1
  have HC0_1 := Aside0.mk hc0_1
  clear hr0_1 hc0_1
  have HR0_2 := Aside0.mk hr0_2
  have HC0_2 := Aside0.mk hc0_2
  clear hr0_2 hc0_2
  have HB := Aside0.mk (Below.refl w.heap.size w)
  have H : (laws_formed.l0 k 0 a0_0 l0_1 l0_2) = some r := h
  clear h
  have H' := Aside0.mk H
  clear H
  go_enter Tryz.func23, Tryz.ntmps23
  go_wp2_with (first | ((with_reducible refine gate_dst (N := 1) rfl ?_); refine box_event ?hg (N := 1) ?hd (cs := #[.bool a0_0, .slice A0_1 l0_1.length c0_1, .slice A0_2 l0_2.length c0_2]) (t := 25) ?hr ?_; (case hd => rfl); (case hg => rfl); (case hr => first | (go_simp; done) | (go_simp; rfl)); intro gb291 hg w2 hbox hb; have n0_ := Aside0.mk (below_step (by repeat (first | (with_reducible first | exact HB.out | apply below_alloc | apply pw_below_drewN | apply below_drew1) | exact HB.out)) hb); have n1_ := Aside0.mk (hbox); have n2_ := Aside0.mk ((by rw [hg]; exact (below_size (by repeat (first | (with_reducible first | exact HB.out | apply below_alloc | apply pw_below_drewN | apply below_drew1) | exact HB.out))) : w.heap.size ≤ gb291)); have n3_ := Aside0.mk ((by rw [hg]; exact (below_size (by repeat (first | (with_reducible first | exact HB.out | apply below_alloc | apply pw_below_drewN | apply below_drew1) | exact HB.out))) : w.heap.size ≤ gb291)); clear HB; have HB := n0_; have BK291 := n1_; have GW291 := n2_; have GE291 := n3_; clear n0_ n1_ n2_ n3_; clear hb hbox hg))
  repeat (go_quiet (first | ((with_reducible refine gate_dst (N := 1) rfl ?_); refine box_event ?hg (N := 1) ?hd (cs := #[.bool a0_0, .slice A0_1 l0_1.length c0_1, .slice A0_2 l0_2.length c0_2]) (t := 25) ?hr ?_; (case hd => rfl); (case hg => rfl); (case hr => first | (go_simp; done) | (go_simp; rfl)); intro gb291 hg w2 hbox hb; have n0_ := Aside0.mk (below_step (by repeat (first | (with_reducible first | exact HB.out | apply below_alloc | apply pw_below_drewN | apply below_drew1) | exact HB.out)) hb); have n1_ := Aside0.mk (hbox); have n2_ := Aside0.mk ((by rw [hg]; exact (below_size (by repeat (first | (with_reducible first | exact HB.out | apply below_alloc | apply pw_below_drewN | apply below_drew1) | exact HB.out))) : w.heap.size ≤ gb291)); have n3_ := Aside0.mk ((by rw [hg]; exact (below_size (by repeat (first | (with_reducible first | exact HB.out | apply below_alloc | apply pw_below_drewN | apply below_drew1) | exact HB.out))) : w.heap.size ≤ gb291)); clear HB; have HB := n0_; have BK291 := n1_; have GW291 := n2_; have GE291 := n3_; clear n0_ n1_ n2_ n3_; clear hb hbox hg)); try go_wp2_with (first | ((with_reducible refine gate_dst (N := 1) rfl ?_); refine box_event ?hg (N := 1) ?hd (cs := #[.bool a0_0, .slice A0_1 l0_1.length c0_1, .slice A0_2 l0_2.length c0_2]) (t := 25) ?hr ?_; (case hd => rfl); (case hg => rfl); (case hr => first | (go_simp; done) | (go_simp; rfl)); intro gb291 hg w2 hbox hb; have n0_ := Aside0.mk (below_step (by repeat (first | (with_reducible first | exact HB.out | apply below_alloc | apply pw_below_drewN | apply below_drew1) | exact HB.out)) hb); have n1_ := Aside0.mk (hbox); have n2_ := Aside0.mk ((by rw [hg]; exact (below_size (by repeat (first | (with_reducible first | exact HB.out | apply below_alloc | apply pw_below_drewN | apply below_drew1) | exact HB.out))) : w.heap.size ≤ gb291)); have n3_ := Aside0.mk ((by rw [hg]; exact (below_size (by repeat (first | (with_reducible first | exact HB.out | apply below_alloc | apply pw_below_drewN | apply below_drew1) | exact HB.out))) : w.heap.size ≤ gb291)); clear HB; have HB := n0_; have BK291 := n1_; have GW291 := n2_; have GE291 := n3_; clear n0_ n1_ n2_ n3_; clear hb hbox hg)))
  go_loopg [3] k (fun kq v3 w' => ∃ (x3_1 : Int), v3 = .int .i64 x3_1 ∧ Aside0 (laws_formed.l0 kq x3_1 a0_0 l0_1 l0_2 = some r) ∧ Aside0 (kq ≤ k) ∧ Aside0 (w'.heap[gb291]? = some (.cells #[.bool a0_0, (.slice A0_1 l0_1.length c0_1), (.slice A0_2 l0_2.length c0_2)] 25 (0, 0))) ∧ Aside0 (Below w.heap.size w w'))
  case atStart => exact ⟨(0), (by first | rfl | (simp; done) | (simp [*]; done)), H', ⟨Nat.le_refl _⟩, ⟨by (with_reducible repeat (first | refine blk_drewN ?_ _ | refine blk_drew ?_ | refine blk_alloc ?_ _)); exact BK291.out⟩, ⟨by repeat (first | (with_reducible first | exact HB.out | apply below_alloc | apply pw_below_drewN | apply below_drew1 | refine below_set ?_ GE291.out) | exact HB.out)⟩⟩
  case round =>
    clear H'
    try clear c2
    try clear p2
    obtain ⟨x3_1, rfl, HA, HK1, BK291, HB⟩ := hrel
    cases gk with
    | zero => exact absurd HA.out (by simp [laws_formed.l0])
    | succ k1 =>
      have H := HA.out
      clear HA
      simp only [laws_formed.l0] at H
      by_cases c3 : x3_1 < (l0_1.length : Int)
      · rw [if_pos c3] at H
        have c3b0 : decide (x3_1 < (l0_1.length : Int)) = true := decide_eq_true c3
        clear c3
        by_cases c4 : 0 ≤ x3_1
        · rw [if_pos c4] at H
          have c4b0 := eq_true c4
          have c4b1 : decide (0 ≤ x3_1) = true := decide_eq_true c4
          clear c4
          by_cases c5 : x3_1 ≤ (l0_1.length : Int)
          · rw [if_pos c5] at H
            have c5b0 := eq_true c5
            have c5b1 : decide (x3_1 ≤ (l0_1.length : Int)) = true := decide_eq_true c5
            clear c5
            replace H := Option.bind_eq_some_iff.mp H
            obtain ⟨t294, A60, H⟩ := H
            replace H : (if t294 = true then (some false) else (laws_formed.l0 k1 (wrap64 (x3_1 + 1)) a0_0 l0_1 l0_2)) = some r := H
            have A6 := Aside0.mk A60
            clear A60
            by_cases c7 : t294 = true
            · subst c7
              have H1 : (some false) = some r := by rw [if_pos rfl] at H; exact H
              clear H
              have H := H1
              clear H1
              obtain rfl := Option.some.inj H
              have hcz8_0 : wr.cell? ⟨gb291, 0, none⟩ = some (.bool a0_0) := (blk_cell BK291.out 0).trans rfl
              have hcz8_1 : wr.cell? ⟨gb291, 1, none⟩ = some (.slice A0_1 l0_1.length c0_1) := (blk_cell BK291.out 1).trans rfl
              have hcz8_2 : wr.cell? ⟨gb291, 2, none⟩ = some (.slice A0_2 l0_2.length c0_2) := (blk_cell BK291.out 2).trans rfl
              have hfz8_0 := blk_frozen BK291.out 0
              have hfz8_1 := blk_frozen BK291.out 1
              have hfz8_2 := blk_frozen BK291.out 2
              obtain ⟨i09, hi09, _, hsz9, _⟩ := info_parts info3
              obtain ⟨hcut9, hA9, hC9⟩ := print_take_of (P := Tryz.prog) (Value.int .i64) 0 22 3 .i64 Tryz.underlying22 hi09 hsz9 A0_1 c0_1 l0_1 x3_1 (of_decide_eq_true (by first | (with_reducible assumption) | assumption)) (of_decide_eq_true (by first | (with_reducible assumption) | assumption)) HC0_1.out
              have HR292 := Aside0.mk (Kd.C_of_reads (h1 := fun _ => rfl) (hA9 _ (Kd.reads_of_C HR0_1.out)))
              have HC292 := Aside0.mk hC9
              clear hA9 hC9 hi09 hsz9
              have p293 : 0 ≤ (x3_1 : Int) := of_decide_eq_true (by first | (with_reducible assumption) | assumption)
              have q293 : x3_1 < (l0_1.length : Int) := of_decide_eq_true (by first | (with_reducible assumption) | assumption)
              obtain ⟨ad293, e293, hx293_0⟩ := Kd.at_int HR0_1.out x3_1 p293 q293
              cases e293
              replace hx293_0 := (HB.out.cell (World.block_lt_of_cell? w _ hx293_0)).trans hx293_0
              replace p293 := eq_true p293
              replace q293 := eq_true q293
              have hl292 : (l0_1.take (x3_1 : Int).toNat).length = x3_1.toNat := by rw [List.length_take]; have := of_eq_true p293; have := of_eq_true q293; omega
              have HCON := Aside0.mk (show ∀ (W : World), Kd.C (Kd.int .i64) W (some ad293) (l0_1.take (x3_1 : Int).toNat).length (l0_1.take (x3_1 : Int).toNat) → Calls Tryz.prog 24 #[.slice (some ad293) x3_1.toNat c0_1, .int .i64 (rd l0_1 x3_1)] W fun e w' => e = .returned (.bool true) ∧ Drawn0 W w' by
                intro W hW
                have h1 := slices_Contains_int_int.calls k1 (some ad293) c0_1 (l0_1.take (x3_1 : Int).toNat) (rd l0_1 x3_1) true W hW (by rw [hl292]; have := HC0_1.out; have := of_eq_true q293; omega) A6.out
                rw [hl292] at h1
                exact h1)
              clear hl292
              go_wp2_with (first | (go_at_call 24; (with_reducible refine (HCON.out _ ?side1).mono ?_); (case side1 => repeat (first | exact (Kd.C_below HR292.out HB.out) | (with_reducible refine Kd.C_alloc ?_ _) | (with_reducible refine Kd.C_drewN ?_ _) | (with_reducible refine Kd.C_drew ?_))); rintro e w' ⟨rfl, ⟨nd, rfl⟩⟩; (try first | exact ⟨rfl, _, World.drewN_drewN _ _ _⟩ | exact ⟨rfl, _, Eq.trans (World.drewN_drewN _ _ _) (congrArg (World.drewN _) (Nat.add_assoc _ _ _))⟩)))
              repeat (go_quiet (first | (go_at_call 24; (with_reducible refine (HCON.out _ ?side1).mono ?_); (case side1 => repeat (first | exact (Kd.C_below HR292.out HB.out) | (with_reducible refine Kd.C_alloc ?_ _) | (with_reducible refine Kd.C_drewN ?_ _) | (with_reducible refine Kd.C_drew ?_))); rintro e w' ⟨rfl, ⟨nd, rfl⟩⟩; (try first | exact ⟨rfl, _, World.drewN_drewN _ _ _⟩ | exact ⟨rfl, _, Eq.trans (World.drewN_drewN _ _ _) (congrArg (World.drewN _) (Nat.add_assoc _ _ _))⟩))); try go_wp2_with (first | (go_at_call 24; (with_reducible refine (HCON.out _ ?side1).mono ?_); (case side1 => repeat (first | exact (Kd.C_below HR292.out HB.out) | (with_reducible refine Kd.C_alloc ?_ _) | (with_reducible refine Kd.C_drewN ?_ _) | (with_reducible refine Kd.C_drew ?_))); rintro e w' ⟨rfl, ⟨nd, rfl⟩⟩; (try first | exact ⟨rfl, _, World.drewN_drewN _ _ _⟩ | exact ⟨rfl, _, Eq.trans (World.drewN_drewN _ _ _) (congrArg (World.drewN _) (Nat.add_assoc _ _ _))⟩))))
              go_ret
              exact ⟨by first | rfl | (simp [errW_none, errW_some] <;> rfl) | (simp [*, errW_none, errW_some] <;> rfl), by repeat (first | (with_reducible first | exact HB.out | apply below_alloc | apply pw_below_drewN | apply below_drew1 | refine below_set ?_ GE291.out) | exact HB.out)⟩
            · replace c7 := Bool.eq_false_iff.mpr c7
              subst c7
              have H1 : (laws_formed.l0 k1 (wrap64 (x3_1 + 1)) a0_0 l0_1 l0_2) = some r := by rw [if_neg (show ¬ (false = true) by decide)] at H; exact H
              clear H
              have H := H1
              clear H1
              have H' := Aside0.mk H
              clear H
              have hcz10_0 : wr.cell? ⟨gb291, 0, none⟩ = some (.bool a0_0) := (blk_cell BK291.out 0).trans rfl
              have hcz10_1 : wr.cell? ⟨gb291, 1, none⟩ = some (.slice A0_1 l0_1.length c0_1) := (blk_cell BK291.out 1).trans rfl
              have hcz10_2 : wr.cell? ⟨gb291, 2, none⟩ = some (.slice A0_2 l0_2.length c0_2) := (blk_cell BK291.out 2).trans rfl
              have hfz10_0 := blk_frozen BK291.out 0
              have hfz10_1 := blk_frozen BK291.out 1
              have hfz10_2 := blk_frozen BK291.out 2
              obtain ⟨i011, hi011, _, hsz11, _⟩ := info_parts info3
              obtain ⟨hcut11, hA11, hC11⟩ := print_take_of (P := Tryz.prog) (Value.int .i64) 0 22 3 .i64 Tryz.underlying22 hi011 hsz11 A0_1 c0_1 l0_1 x3_1 (of_decide_eq_true (by first | (with_reducible assumption) | assumption)) (of_decide_eq_true (by first | (with_reducible assumption) | assumption)) HC0_1.out
              have HR292 := Aside0.mk (Kd.C_of_reads (h1 := fun _ => rfl) (hA11 _ (Kd.reads_of_C HR0_1.out)))
              have HC292 := Aside0.mk hC11
              clear hA11 hC11 hi011 hsz11
              have p293 : 0 ≤ (x3_1 : Int) := of_decide_eq_true (by first | (with_reducible assumption) | assumption)
              have q293 : x3_1 < (l0_1.length : Int) := of_decide_eq_true (by first | (with_reducible assumption) | assumption)
              obtain ⟨ad293, e293, hx293_0⟩ := Kd.at_int HR0_1.out x3_1 p293 q293
              cases e293
              replace hx293_0 := (HB.out.cell (World.block_lt_of_cell? w _ hx293_0)).trans hx293_0
              replace p293 := eq_true p293
              replace q293 := eq_true q293
              have hl292 : (l0_1.take (x3_1 : Int).toNat).length = x3_1.toNat := by rw [List.length_take]; have := of_eq_true p293; have := of_eq_true q293; omega
              have HCON := Aside0.mk (show ∀ (W : World), Kd.C (Kd.int .i64) W (some ad293) (l0_1.take (x3_1 : Int).toNat).length (l0_1.take (x3_1 : Int).toNat) → Calls Tryz.prog 24 #[.slice (some ad293) x3_1.toNat c0_1, .int .i64 (rd l0_1 x3_1)] W fun e w' => e = .returned (.bool false) ∧ Drawn0 W w' by
                intro W hW
                have h1 := slices_Contains_int_int.calls k1 (some ad293) c0_1 (l0_1.take (x3_1 : Int).toNat) (rd l0_1 x3_1) false W hW (by rw [hl292]; have := HC0_1.out; have := of_eq_true q293; omega) A6.out
                rw [hl292] at h1
                exact h1)
              clear hl292
              go_wp2_with (first | (go_at_call 24; (with_reducible refine (HCON.out _ ?side1).mono ?_); (case side1 => repeat (first | exact (Kd.C_below HR292.out HB.out) | (with_reducible refine Kd.C_alloc ?_ _) | (with_reducible refine Kd.C_drewN ?_ _) | (with_reducible refine Kd.C_drew ?_))); rintro e w' ⟨rfl, ⟨nd, rfl⟩⟩; (try first | exact ⟨rfl, _, World.drewN_drewN _ _ _⟩ | exact ⟨rfl, _, Eq.trans (World.drewN_drewN _ _ _) (congrArg (World.drewN _) (Nat.add_assoc _ _ _))⟩)))
              repeat (go_quiet (first | (go_at_call 24; (with_reducible refine (HCON.out _ ?side1).mono ?_); (case side1 => repeat (first | exact (Kd.C_below HR292.out HB.out) | (with_reducible refine Kd.C_alloc ?_ _) | (with_reducible refine Kd.C_drewN ?_ _) | (with_reducible refine Kd.C_drew ?_))); rintro e w' ⟨rfl, ⟨nd, rfl⟩⟩; (try first | exact ⟨rfl, _, World.drewN_drewN _ _ _⟩ | exact ⟨rfl, _, Eq.trans (World.drewN_drewN _ _ _) (congrArg (World.drewN _) (Nat.add_assoc _ _ _))⟩))); try go_wp2_with (first | (go_at_call 24; (with_reducible refine (HCON.out _ ?side1).mono ?_); (case side1 => repeat (first | exact (Kd.C_below HR292.out HB.out) | (with_reducible refine Kd.C_alloc ?_ _) | (with_reducible refine Kd.C_drewN ?_ _) | (with_reducible refine Kd.C_drew ?_))); rintro e w' ⟨rfl, ⟨nd, rfl⟩⟩; (try first | exact ⟨rfl, _, World.drewN_drewN _ _ _⟩ | exact ⟨rfl, _, Eq.trans (World.drewN_drewN _ _ _) (congrArg (World.drewN _) (Nat.add_assoc _ _ _))⟩))))
              go_roundg k1
              case measure => have := HK1.out; omega
              case rel => exact ⟨(wrap64 (x3_1 + 1)), (by first | rfl | (simp; done) | (simp [*]; done)), H', ⟨by have := HK1.out; omega⟩, ⟨by (with_reducible repeat (first | refine blk_drewN ?_ _ | refine blk_drew ?_ | refine blk_alloc ?_ _)); exact BK291.out⟩, ⟨by repeat (first | (with_reducible first | exact HB.out | apply below_alloc | apply pw_below_drewN | apply below_drew1 | refine below_set ?_ GE291.out) | exact HB.out)⟩⟩
          · rw [if_neg c5] at H
            exact absurd H (by simp)
        · rw [if_neg c4] at H
          exact absurd H (by simp)
      · rw [if_neg c3] at H
        have c3b0 : decide (x3_1 < (l0_1.length : Int)) = false := decide_eq_false c3
        clear c3
        have H' := Aside0.mk H
        clear H
        have hcz12_0 : wr.cell? ⟨gb291, 0, none⟩ = some (.bool a0_0) := (blk_cell BK291.out 0).trans rfl
        have hcz12_1 : wr.cell? ⟨gb291, 1, none⟩ = some (.slice A0_1 l0_1.length c0_1) := (blk_cell BK291.out 1).trans rfl
        have hcz12_2 : wr.cell? ⟨gb291, 2, none⟩ = some (.slice A0_2 l0_2.length c0_2) := (blk_cell BK291.out 2).trans rfl
        have hfz12_0 := blk_frozen BK291.out 0
        have hfz12_1 := blk_frozen BK291.out 1
        have hfz12_2 := blk_frozen BK291.out 2
        go_wp2
        repeat (go_quiet (fail); try go_wp2)
        go_loopg [4] k1 (fun kq v4 w' => ∃ (x4_2 : Int), v4 = .int .i64 x4_2 ∧ Aside0 (laws_formed.l1 kq x4_2 a0_0 l0_1 l0_2 = some r) ∧ Aside0 (kq ≤ k1) ∧ Aside0 (w'.heap[gb291]? = some (.cells #[.bool a0_0, (.slice A0_1 l0_1.length c0_1), (.slice A0_2 l0_2.length c0_2)] 25 (0, 0))) ∧ Aside0 (Below w.heap.size w w'))
        case atStart => exact ⟨(0), (by first | rfl | (simp; done) | (simp [*]; done)), H', ⟨Nat.le_refl _⟩, ⟨by (with_reducible repeat (first | refine blk_drewN ?_ _ | refine blk_drew ?_ | refine blk_alloc ?_ _)); exact BK291.out⟩, ⟨by repeat (first | (with_reducible first | exact HB.out | apply below_alloc | apply pw_below_drewN | apply below_drew1 | refine below_set ?_ GE291.out) | exact HB.out)⟩⟩
        case round =>
          clear H'
          try clear c2
          try clear p2
          try clear q2
          try clear hx2
          try clear c3
          try clear c3b0
          try clear c4
          try clear c4b0
          try clear c4b1
          try clear c5
          try clear c5b0
          try clear c5b1
          try clear p6
          try clear c7
          try clear hcz10_0
          try clear hcz10_1
          try clear hcz10_2
          try clear hcz12_0
          try clear hcz12_1
          try clear hcz12_2
          try clear hcz8_0
          try clear hcz8_1
          try clear hcz8_2
          try clear hfz10_0
          try clear hfz10_1
          try clear hfz10_2
          try clear hfz12_0
          try clear hfz12_1
          try clear hfz12_2
          try clear hfz8_0
          try clear hfz8_1
          try clear hfz8_2
          try clear hx293_0
          try clear p2
          try clear p293
          try clear q293
          obtain ⟨x4_2, rfl, HA, HK2, BK291, HB⟩ := hrel
          cases gk with
          | zero => exact absurd HA.out (by simp [laws_formed.l1])
          | succ k2 =>
            have H := HA.out
            clear HA
            simp only [laws_formed.l1] at H
            by_cases c13 : x4_2 < (l0_2.length : Int)
            · rw [if_pos c13] at H
              have c13b0 : decide (x4_2 < (l0_2.length : Int)) = true := decide_eq_true c13
              clear c13
              by_cases c14 : 0 ≤ x4_2
              · rw [if_pos c14] at H
                have c14b0 : decide (0 ≤ x4_2) = true := decide_eq_true c14
                clear c14
                by_cases c15 : ((rd_T38 l0_2 x4_2).f0) = ((rd_T38 l0_2 x4_2).f1)
                · rw [if_pos c15] at H
                  have c15b0 : (((rd_T38 l0_2 x4_2).f0) == ((rd_T38 l0_2 x4_2).f1)) = true := beq_iff_eq.mpr c15
                  have c15b1 : (((rd_T38 l0_2 x4_2).f0) != ((rd_T38 l0_2 x4_2).f1)) = false := bne_eq_false_iff_eq.mpr c15
                  clear c15
                  obtain rfl := Option.some.inj H
                  have hcz16_0 : wr.cell? ⟨gb291, 0, none⟩ = some (.bool a0_0) := (blk_cell BK291.out 0).trans rfl
                  have hcz16_1 : wr.cell? ⟨gb291, 1, none⟩ = some (.slice A0_1 l0_1.length c0_1) := (blk_cell BK291.out 1).trans rfl
                  have hcz16_2 : wr.cell? ⟨gb291, 2, none⟩ = some (.slice A0_2 l0_2.length c0_2) := (blk_cell BK291.out 2).trans rfl
                  have hfz16_0 := blk_frozen BK291.out 0
                  have hfz16_1 := blk_frozen BK291.out 1
                  have hfz16_2 := blk_frozen BK291.out 2
                  have p295 : 0 ≤ (x4_2 : Int) := of_decide_eq_true (by first | (with_reducible assumption) | assumption)
                  have q295 : x4_2 < (l0_2.length : Int) := of_decide_eq_true (by first | (with_reducible assumption) | assumption)
                  obtain ⟨ad295, e295, hx295_0, hx295_1, hx295_2⟩ := at_T38 HR0_2.out x4_2 p295 q295
                  cases e295
                  replace hx295_0 := (HB.out.cell (World.block_lt_of_cell? w _ hx295_0)).trans hx295_0
                  replace hx295_1 := (HB.out.cell (World.block_lt_of_cell? w _ hx295_1)).trans hx295_1
                  replace hx295_2 := (HB.out.cell (World.block_lt_of_cell? w _ hx295_2)).trans hx295_2
                  replace p295 := eq_true p295
                  replace q295 := eq_true q295
                  go_wp2_with (first | ((with_reducible refine gate_dst (N := 5) rfl ?_); refine box_event ?hg (N := 5) ?hd (cs := #[.int .i64 0, .int .i64 0, .int .i64 0]) (t := 38) ?hr ?_; (case hd => rfl); (case hg => rfl); (case hr => first | (go_simp; done) | (go_simp; rfl)); intro gb296 hg w17 hbox hb; have n0_ := Aside0.mk (blk_below (g := gb291) (o := .cells #[.bool a0_0, .slice A0_1 l0_1.length c0_1, .slice (some ad295) l0_2.length c0_2] 25 (0, 0)) (by (with_reducible repeat (first | refine blk_drewN ?_ _ | refine blk_drew ?_ | refine blk_alloc ?_ _)); exact BK291.out) hb); have n1_ := Aside0.mk (below_step (by repeat (first | (with_reducible first | exact HB.out | apply below_alloc | apply pw_below_drewN | apply below_drew1 | refine below_set ?_ GE291.out) | exact HB.out)) hb); have n2_ := Aside0.mk (hbox); have n3_ := Aside0.mk ((by rw [hg]; exact (below_size (by repeat (first | (with_reducible first | exact HB.out | apply below_alloc | apply pw_below_drewN | apply below_drew1 | refine below_set ?_ GE291.out) | exact HB.out))) : w.heap.size ≤ gb296)); have n4_ := Aside0.mk ((by rw [hg]; exact (below_size (by repeat (first | (with_reducible first | exact HB.out | apply below_alloc | apply pw_below_drewN | apply below_drew1 | refine below_set ?_ GE291.out) | exact HB.out))) : w.heap.size ≤ gb296)); have n5_ := Aside0.mk ((by rw [hg]; exact Nat.ne_of_lt (blk_lt (g := gb291) (o := .cells #[.bool a0_0, .slice A0_1 l0_1.length c0_1, .slice (some ad295) l0_2.length c0_2] 25 (0, 0)) (by (with_reducible repeat (first | refine blk_drewN ?_ _ | refine blk_drew ?_ | refine blk_alloc ?_ _)); exact BK291.out)) : gb291 ≠ gb296)); have n6_ := Aside0.mk ((by rw [hg]; exact Nat.ne_of_gt (blk_lt (g := gb291) (o := .cells #[.bool a0_0, .slice A0_1 l0_1.length c0_1, .slice (some ad295) l0_2.length c0_2] 25 (0, 0)) (by (with_reducible repeat (first | refine blk_drewN ?_ _ | refine blk_drew ?_ | refine blk_alloc ?_ _)); exact BK291.out)) : gb296 ≠ gb291)); clear BK291; clear HB; have BK291 := n0_; have HB := n1_; have BK296 := n2_; have GW296 := n3_; have GE296 := n4_; have NB291_296 := n5_; have NB296_291 := n6_; clear n0_ n1_ n2_ n3_ n4_ n5_ n6_; clear hb hbox hg; have hnb18 := NB296_291.out; have hnc18 := NB291_296.out; have hcz19_0 : w17.cell? ⟨gb296, 0, none⟩ = some (.int .i64 0) := (blk_cell BK296.out 0).trans rfl; have hcz19_1 : w17.cell? ⟨gb296, 1, none⟩ = some (.int .i64 0) := (blk_cell BK296.out 1).trans rfl; have hcz19_2 : w17.cell? ⟨gb296, 2, none⟩ = some (.int .i64 0) := (blk_cell BK296.out 2).trans rfl; have hfz19_0 := blk_frozen BK296.out 0; have hfz19_1 := blk_frozen BK296.out 1; have hfz19_2 := blk_frozen BK296.out 2))
                  repeat (go_quiet (first | ((with_reducible refine gate_dst (N := 5) rfl ?_); refine box_event ?hg (N := 5) ?hd (cs := #[.int .i64 0, .int .i64 0, .int .i64 0]) (t := 38) ?hr ?_; (case hd => rfl); (case hg => rfl); (case hr => first | (go_simp; done) | (go_simp; rfl)); intro gb296 hg w17 hbox hb; have n0_ := Aside0.mk (blk_below (g := gb291) (o := .cells #[.bool a0_0, .slice A0_1 l0_1.length c0_1, .slice (some ad295) l0_2.length c0_2] 25 (0, 0)) (by (with_reducible repeat (first | refine blk_drewN ?_ _ | refine blk_drew ?_ | refine blk_alloc ?_ _)); exact BK291.out) hb); have n1_ := Aside0.mk (below_step (by repeat (first | (with_reducible first | exact HB.out | apply below_alloc | apply pw_below_drewN | apply below_drew1 | refine below_set ?_ GE291.out) | exact HB.out)) hb); have n2_ := Aside0.mk (hbox); have n3_ := Aside0.mk ((by rw [hg]; exact (below_size (by repeat (first | (with_reducible first | exact HB.out | apply below_alloc | apply pw_below_drewN | apply below_drew1 | refine below_set ?_ GE291.out) | exact HB.out))) : w.heap.size ≤ gb296)); have n4_ := Aside0.mk ((by rw [hg]; exact (below_size (by repeat (first | (with_reducible first | exact HB.out | apply below_alloc | apply pw_below_drewN | apply below_drew1 | refine below_set ?_ GE291.out) | exact HB.out))) : w.heap.size ≤ gb296)); have n5_ := Aside0.mk ((by rw [hg]; exact Nat.ne_of_lt (blk_lt (g := gb291) (o := .cells #[.bool a0_0, .slice A0_1 l0_1.length c0_1, .slice (some ad295) l0_2.length c0_2] 25 (0, 0)) (by (with_reducible repeat (first | refine blk_drewN ?_ _ | refine blk_drew ?_ | refine blk_alloc ?_ _)); exact BK291.out)) : gb291 ≠ gb296)); have n6_ := Aside0.mk ((by rw [hg]; exact Nat.ne_of_gt (blk_lt (g := gb291) (o := .cells #[.bool a0_0, .slice A0_1 l0_1.length c0_1, .slice (some ad295) l0_2.length c0_2] 25 (0, 0)) (by (with_reducible repeat (first | refine blk_drewN ?_ _ | refine blk_drew ?_ | refine blk_alloc ?_ _)); exact BK291.out)) : gb296 ≠ gb291)); clear BK291; clear HB; have BK291 := n0_; have HB := n1_; have BK296 := n2_; have GW296 := n3_; have GE296 := n4_; have NB291_296 := n5_; have NB296_291 := n6_; clear n0_ n1_ n2_ n3_ n4_ n5_ n6_; clear hb hbox hg; have hnb18 := NB296_291.out; have hnc18 := NB291_296.out; have hcz19_0 : w17.cell? ⟨gb296, 0, none⟩ = some (.int .i64 0) := (blk_cell BK296.out 0).trans rfl; have hcz19_1 : w17.cell? ⟨gb296, 1, none⟩ = some (.int .i64 0) := (blk_cell BK296.out 1).trans rfl; have hcz19_2 : w17.cell? ⟨gb296, 2, none⟩ = some (.int .i64 0) := (blk_cell BK296.out 2).trans rfl; have hfz19_0 := blk_frozen BK296.out 0; have hfz19_1 := blk_frozen BK296.out 1; have hfz19_2 := blk_frozen BK296.out 2)); try go_wp2_with (first | ((with_reducible refine gate_dst (N := 5) rfl ?_); refine box_event ?hg (N := 5) ?hd (cs := #[.int .i64 0, .int .i64 0, .int .i64 0]) (t := 38) ?hr ?_; (case hd => rfl); (case hg => rfl); (case hr => first | (go_simp; done) | (go_simp; rfl)); intro gb296 hg w17 hbox hb; have n0_ := Aside0.mk (blk_below (g := gb291) (o := .cells #[.bool a0_0, .slice A0_1 l0_1.length c0_1, .slice (some ad295) l0_2.length c0_2] 25 (0, 0)) (by (with_reducible repeat (first | refine blk_drewN ?_ _ | refine blk_drew ?_ | refine blk_alloc ?_ _)); exact BK291.out) hb); have n1_ := Aside0.mk (below_step (by repeat (first | (with_reducible first | exact HB.out | apply below_alloc | apply pw_below_drewN | apply below_drew1 | refine below_set ?_ GE291.out) | exact HB.out)) hb); have n2_ := Aside0.mk (hbox); have n3_ := Aside0.mk ((by rw [hg]; exact (below_size (by repeat (first | (with_reducible first | exact HB.out | apply below_alloc | apply pw_below_drewN | apply below_drew1 | refine below_set ?_ GE291.out) | exact HB.out))) : w.heap.size ≤ gb296)); have n4_ := Aside0.mk ((by rw [hg]; exact (below_size (by repeat (first | (with_reducible first | exact HB.out | apply below_alloc | apply pw_below_drewN | apply below_drew1 | refine below_set ?_ GE291.out) | exact HB.out))) : w.heap.size ≤ gb296)); have n5_ := Aside0.mk ((by rw [hg]; exact Nat.ne_of_lt (blk_lt (g := gb291) (o := .cells #[.bool a0_0, .slice A0_1 l0_1.length c0_1, .slice (some ad295) l0_2.length c0_2] 25 (0, 0)) (by (with_reducible repeat (first | refine blk_drewN ?_ _ | refine blk_drew ?_ | refine blk_alloc ?_ _)); exact BK291.out)) : gb291 ≠ gb296)); have n6_ := Aside0.mk ((by rw [hg]; exact Nat.ne_of_gt (blk_lt (g := gb291) (o := .cells #[.bool a0_0, .slice A0_1 l0_1.length c0_1, .slice (some ad295) l0_2.length c0_2] 25 (0, 0)) (by (with_reducible repeat (first | refine blk_drewN ?_ _ | refine blk_drew ?_ | refine blk_alloc ?_ _)); exact BK291.out)) : gb296 ≠ gb291)); clear BK291; clear HB; have BK291 := n0_; have HB := n1_; have BK296 := n2_; have GW296 := n3_; have GE296 := n4_; have NB291_296 := n5_; have NB296_291 := n6_; clear n0_ n1_ n2_ n3_ n4_ n5_ n6_; clear hb hbox hg; have hnb18 := NB296_291.out; have hnc18 := NB291_296.out; have hcz19_0 : w17.cell? ⟨gb296, 0, none⟩ = some (.int .i64 0) := (blk_cell BK296.out 0).trans rfl; have hcz19_1 : w17.cell? ⟨gb296, 1, none⟩ = some (.int .i64 0) := (blk_cell BK296.out 1).trans rfl; have hcz19_2 : w17.cell? ⟨gb296, 2, none⟩ = some (.int .i64 0) := (blk_cell BK296.out 2).trans rfl; have hfz19_0 := blk_frozen BK296.out 0; have hfz19_1 := blk_frozen BK296.out 1; have hfz19_2 := blk_frozen BK296.out 2)))
                  go_ret
                  exact ⟨by first | rfl | (simp [errW_none, errW_some] <;> rfl) | (simp [*, errW_none, errW_some] <;> rfl), by repeat (first | (with_reducible first | exact HB.out | apply below_alloc | apply pw_below_drewN | apply below_drew1 | refine below_set ?_ GE291.out | refine below_set ?_ GE296.out) | exact HB.out)⟩
                · rw [if_neg c15] at H
                  have c15b0 : (((rd_T38 l0_2 x4_2).f0) == ((rd_T38 l0_2 x4_2).f1)) = false := beq_eq_false_iff_ne.mpr c15
                  have c15b1 : (((rd_T38 l0_2 x4_2).f0) != ((rd_T38 l0_2 x4_2).f1)) = true := bne_iff_ne.mpr c15
                  replace H := Option.bind_eq_some_iff.mp H
                  obtain ⟨t297, A200, H⟩ := H
                  replace H : (if t297 = true then ((slices_Contains_int_int.f k2 l0_1 ((rd_T38 l0_2 x4_2).f1)).bind fun t298 => (if t298 = true then (laws_formed.l1 k2 (wrap64 (x4_2 + 1)) a0_0 l0_1 l0_2) else (some false))) else (some false)) = some r := H
                  have A20 := Aside0.mk A200
                  clear A200
                  by_cases c21 : t297 = true
                  · subst c21
                    have H1 : ((slices_Contains_int_int.f k2 l0_1 ((rd_T38 l0_2 x4_2).f1)).bind fun t298 => (if t298 = true then (laws_formed.l1 k2 (wrap64 (x4_2 + 1)) a0_0 l0_1 l0_2) else (some false))) = some r := by rw [if_pos rfl] at H; exact H
                    clear H
                    have H := H1
                    clear H1
                    replace H := Option.bind_eq_some_iff.mp H
                    obtain ⟨t298, A220, H⟩ := H
                    replace H : (if t298 = true then (laws_formed.l1 k2 (wrap64 (x4_2 + 1)) a0_0 l0_1 l0_2) else (some false)) = some r := H
                    have A22 := Aside0.mk A220
                    clear A220
                    by_cases c23 : t298 = true
                    · subst c23
                      have H1 : (laws_formed.l1 k2 (wrap64 (x4_2 + 1)) a0_0 l0_1 l0_2) = some r := by rw [if_pos rfl] at H; exact H
                      clear H
                      have H := H1
                      clear H1
                      have H' := Aside0.mk H
                      clear H
                      have hcz24_0 : wr.cell? ⟨gb291, 0, none⟩ = some (.bool a0_0) := (blk_cell BK291.out 0).trans rfl
                      have hcz24_1 : wr.cell? ⟨gb291, 1, none⟩ = some (.slice A0_1 l0_1.length c0_1) := (blk_cell BK291.out 1).trans rfl
                      have hcz24_2 : wr.cell? ⟨gb291, 2, none⟩ = some (.slice A0_2 l0_2.length c0_2) := (blk_cell BK291.out 2).trans rfl
                      have hfz24_0 := blk_frozen BK291.out 0
                      have hfz24_1 := blk_frozen BK291.out 1
                      have hfz24_2 := blk_frozen BK291.out 2
                      have p295 : 0 ≤ (x4_2 : Int) := of_decide_eq_true (by first | (with_reducible assumption) | assumption)
                      have q295 : x4_2 < (l0_2.length : Int) := of_decide_eq_true (by first | (with_reducible assumption) | assumption)
                      obtain ⟨ad295, e295, hx295_0, hx295_1, hx295_2⟩ := at_T38 HR0_2.out x4_2 p295 q295
                      cases e295
                      replace hx295_0 := (HB.out.cell (World.block_lt_of_cell? w _ hx295_0)).trans hx295_0
                      replace hx295_1 := (HB.out.cell (World.block_lt_of_cell? w _ hx295_1)).trans hx295_1
                      replace hx295_2 := (HB.out.cell (World.block_lt_of_cell? w _ hx295_2)).trans hx295_2
                      replace p295 := eq_true p295
                      replace q295 := eq_true q295
                      go_wp2_with (first | ((with_reducible refine gate_dst (N := 5) rfl ?_); refine box_event ?hg (N := 5) ?hd (cs := #[.int .i64 0, .int .i64 0, .int .i64 0]) (t := 38) ?hr ?_; (case hd => rfl); (case hg => rfl); (case hr => first | (go_simp; done) | (go_simp; rfl)); intro gb296 hg w25 hbox hb; have n0_ := Aside0.mk (blk_below (g := gb291) (o := .cells #[.bool a0_0, .slice A0_1 l0_1.length c0_1, .slice (some ad295) l0_2.length c0_2] 25 (0, 0)) (by (with_reducible repeat (first | refine blk_drewN ?_ _ | refine blk_drew ?_ | refine blk_alloc ?_ _)); exact BK291.out) hb); have n1_ := Aside0.mk (below_step (by repeat (first | (with_reducible first | exact HB.out | apply below_alloc | apply pw_below_drewN | apply below_drew1 | refine below_set ?_ GE291.out) | exact HB.out)) hb); have n2_ := Aside0.mk (hbox); have n3_ := Aside0.mk ((by rw [hg]; exact (below_size (by repeat (first | (with_reducible first | exact HB.out | apply below_alloc | apply pw_below_drewN | apply below_drew1 | refine below_set ?_ GE291.out) | exact HB.out))) : w.heap.size ≤ gb296)); have n4_ := Aside0.mk ((by rw [hg]; exact (below_size (by repeat (first | (with_reducible first | exact HB.out | apply below_alloc | apply pw_below_drewN | apply below_drew1 | refine below_set ?_ GE291.out) | exact HB.out))) : w.heap.size ≤ gb296)); have n5_ := Aside0.mk ((by rw [hg]; exact Nat.ne_of_lt (blk_lt (g := gb291) (o := .cells #[.bool a0_0, .slice A0_1 l0_1.length c0_1, .slice (some ad295) l0_2.length c0_2] 25 (0, 0)) (by (with_reducible repeat (first | refine blk_drewN ?_ _ | refine blk_drew ?_ | refine blk_alloc ?_ _)); exact BK291.out)) : gb291 ≠ gb296)); have n6_ := Aside0.mk ((by rw [hg]; exact Nat.ne_of_gt (blk_lt (g := gb291) (o := .cells #[.bool a0_0, .slice A0_1 l0_1.length c0_1, .slice (some ad295) l0_2.length c0_2] 25 (0, 0)) (by (with_reducible repeat (first | refine blk_drewN ?_ _ | refine blk_drew ?_ | refine blk_alloc ?_ _)); exact BK291.out)) : gb296 ≠ gb291)); clear BK291; clear HB; have BK291 := n0_; have HB := n1_; have BK296 := n2_; have GW296 := n3_; have GE296 := n4_; have NB291_296 := n5_; have NB296_291 := n6_; clear n0_ n1_ n2_ n3_ n4_ n5_ n6_; clear hb hbox hg; have hnb26 := NB296_291.out; have hnc26 := NB291_296.out; have hcz27_0 : w25.cell? ⟨gb296, 0, none⟩ = some (.int .i64 0) := (blk_cell BK296.out 0).trans rfl; have hcz27_1 : w25.cell? ⟨gb296, 1, none⟩ = some (.int .i64 0) := (blk_cell BK296.out 1).trans rfl; have hcz27_2 : w25.cell? ⟨gb296, 2, none⟩ = some (.int .i64 0) := (blk_cell BK296.out 2).trans rfl; have hfz27_0 := blk_frozen BK296.out 0; have hfz27_1 := blk_frozen BK296.out 1; have hfz27_2 := blk_frozen BK296.out 2; have hcz28_0 : w25.cell? ⟨gb291, 0, none⟩ = some (.bool a0_0) := (blk_cell BK291.out 0).trans rfl; have hcz28_1 : w25.cell? ⟨gb291, 1, none⟩ = some (.slice A0_1 l0_1.length c0_1) := (blk_cell BK291.out 1).trans rfl; have hcz28_2 : w25.cell? ⟨gb291, 2, none⟩ = some (.slice (some ad295) l0_2.length c0_2) := (blk_cell BK291.out 2).trans rfl; have hfz28_0 := blk_frozen BK291.out 0; have hfz28_1 := blk_frozen BK291.out 1; have hfz28_2 := blk_frozen BK291.out 2) | (go_at_call 24; (with_reducible refine (slices_Contains_int_int.calls k2 _ _ l0_1 ((rd_T38 l0_2 x4_2).f0) true _ ?side1 ?side2 A20.out).mono ?_); (case side1 => exact Kd.C_below HR0_1.out (by repeat (first | (with_reducible first | exact HB.out | apply below_alloc | apply pw_below_drewN | apply below_drew1 | refine below_set ?_ GE291.out | refine below_set ?_ GE296.out) | exact HB.out))); (case side2 => exact HC0_1.out); rintro e w' ⟨rfl, ⟨nd, rfl⟩⟩; (try first | exact ⟨rfl, _, World.drewN_drewN _ _ _⟩ | exact ⟨rfl, _, Eq.trans (World.drewN_drewN _ _ _) (congrArg (World.drewN _) (Nat.add_assoc _ _ _))⟩)) | (go_at_call 24; (with_reducible refine (slices_Contains_int_int.calls k2 _ _ l0_1 ((rd_T38 l0_2 x4_2).f1) true _ ?side1 ?side2 A22.out).mono ?_); (case side1 => exact Kd.C_below HR0_1.out (by repeat (first | (with_reducible first | exact HB.out | apply below_alloc | apply pw_below_drewN | apply below_drew1 | refine below_set ?_ GE291.out | refine below_set ?_ GE296.out) | exact HB.out))); (case side2 => exact HC0_1.out); rintro e w' ⟨rfl, ⟨nd, rfl⟩⟩; (try first | exact ⟨rfl, _, World.drewN_drewN _ _ _⟩ | exact ⟨rfl, _, Eq.trans (World.drewN_drewN _ _ _) (congrArg (World.drewN _) (Nat.add_assoc _ _ _))⟩)))
                      repeat (go_quiet (first | ((with_reducible refine gate_dst (N := 5) rfl ?_); refine box_event ?hg (N := 5) ?hd (cs := #[.int .i64 0, .int .i64 0, .int .i64 0]) (t := 38) ?hr ?_; (case hd => rfl); (case hg => rfl); (case hr => first | (go_simp; done) | (go_simp; rfl)); intro gb296 hg w25 hbox hb; have n0_ := Aside0.mk (blk_below (g := gb291) (o := .cells #[.bool a0_0, .slice A0_1 l0_1.length c0_1, .slice (some ad295) l0_2.length c0_2] 25 (0, 0)) (by (with_reducible repeat (first | refine blk_drewN ?_ _ | refine blk_drew ?_ | refine blk_alloc ?_ _)); exact BK291.out) hb); have n1_ := Aside0.mk (below_step (by repeat (first | (with_reducible first | exact HB.out | apply below_alloc | apply pw_below_drewN | apply below_drew1 | refine below_set ?_ GE291.out) | exact HB.out)) hb); have n2_ := Aside0.mk (hbox); have n3_ := Aside0.mk ((by rw [hg]; exact (below_size (by repeat (first | (with_reducible first | exact HB.out | apply below_alloc | apply pw_below_drewN | apply below_drew1 | refine below_set ?_ GE291.out) | exact HB.out))) : w.heap.size ≤ gb296)); have n4_ := Aside0.mk ((by rw [hg]; exact (below_size (by repeat (first | (with_reducible first | exact HB.out | apply below_alloc | apply pw_below_drewN | apply below_drew1 | refine below_set ?_ GE291.out) | exact HB.out))) : w.heap.size ≤ gb296)); have n5_ := Aside0.mk ((by rw [hg]; exact Nat.ne_of_lt (blk_lt (g := gb291) (o := .cells #[.bool a0_0, .slice A0_1 l0_1.length c0_1, .slice (some ad295) l0_2.length c0_2] 25 (0, 0)) (by (with_reducible repeat (first | refine blk_drewN ?_ _ | refine blk_drew ?_ | refine blk_alloc ?_ _)); exact BK291.out)) : gb291 ≠ gb296)); have n6_ := Aside0.mk ((by rw [hg]; exact Nat.ne_of_gt (blk_lt (g := gb291) (o := .cells #[.bool a0_0, .slice A0_1 l0_1.length c0_1, .slice (some ad295) l0_2.length c0_2] 25 (0, 0)) (by (with_reducible repeat (first | refine blk_drewN ?_ _ | refine blk_drew ?_ | refine blk_alloc ?_ _)); exact BK291.out)) : gb296 ≠ gb291)); clear BK291; clear HB; have BK291 := n0_; have HB := n1_; have BK296 := n2_; have GW296 := n3_; have GE296 := n4_; have NB291_296 := n5_; have NB296_291 := n6_; clear n0_ n1_ n2_ n3_ n4_ n5_ n6_; clear hb hbox hg; have hnb26 := NB296_291.out; have hnc26 := NB291_296.out; have hcz27_0 : w25.cell? ⟨gb296, 0, none⟩ = some (.int .i64 0) := (blk_cell BK296.out 0).trans rfl; have hcz27_1 : w25.cell? ⟨gb296, 1, none⟩ = some (.int .i64 0) := (blk_cell BK296.out 1).trans rfl; have hcz27_2 : w25.cell? ⟨gb296, 2, none⟩ = some (.int .i64 0) := (blk_cell BK296.out 2).trans rfl; have hfz27_0 := blk_frozen BK296.out 0; have hfz27_1 := blk_frozen BK296.out 1; have hfz27_2 := blk_frozen BK296.out 2; have hcz28_0 : w25.cell? ⟨gb291, 0, none⟩ = some (.bool a0_0) := (blk_cell BK291.out 0).trans rfl; have hcz28_1 : w25.cell? ⟨gb291, 1, none⟩ = some (.slice A0_1 l0_1.length c0_1) := (blk_cell BK291.out 1).trans rfl; have hcz28_2 : w25.cell? ⟨gb291, 2, none⟩ = some (.slice (some ad295) l0_2.length c0_2) := (blk_cell BK291.out 2).trans rfl; have hfz28_0 := blk_frozen BK291.out 0; have hfz28_1 := blk_frozen BK291.out 1; have hfz28_2 := blk_frozen BK291.out 2) | (go_at_call 24; (with_reducible refine (slices_Contains_int_int.calls k2 _ _ l0_1 ((rd_T38 l0_2 x4_2).f0) true _ ?side1 ?side2 A20.out).mono ?_); (case side1 => exact Kd.C_below HR0_1.out (by repeat (first | (with_reducible first | exact HB.out | apply below_alloc | apply pw_below_drewN | apply below_drew1 | refine below_set ?_ GE291.out | refine below_set ?_ GE296.out) | exact HB.out))); (case side2 => exact HC0_1.out); rintro e w' ⟨rfl, ⟨nd, rfl⟩⟩; (try first | exact ⟨rfl, _, World.drewN_drewN _ _ _⟩ | exact ⟨rfl, _, Eq.trans (World.drewN_drewN _ _ _) (congrArg (World.drewN _) (Nat.add_assoc _ _ _))⟩)) | (go_at_call 24; (with_reducible refine (slices_Contains_int_int.calls k2 _ _ l0_1 ((rd_T38 l0_2 x4_2).f1) true _ ?side1 ?side2 A22.out).mono ?_); (case side1 => exact Kd.C_below HR0_1.out (by repeat (first | (with_reducible first | exact HB.out | apply below_alloc | apply pw_below_drewN | apply below_drew1 | refine below_set ?_ GE291.out | refine below_set ?_ GE296.out) | exact HB.out))); (case side2 => exact HC0_1.out); rintro e w' ⟨rfl, ⟨nd, rfl⟩⟩; (try first | exact ⟨rfl, _, World.drewN_drewN _ _ _⟩ | exact ⟨rfl, _, Eq.trans (World.drewN_drewN _ _ _) (congrArg (World.drewN _) (Nat.add_assoc _ _ _))⟩))); try go_wp2_with (first | ((with_reducible refine gate_dst (N := 5) rfl ?_); refine box_event ?hg (N := 5) ?hd (cs := #[.int .i64 0, .int .i64 0, .int .i64 0]) (t := 38) ?hr ?_; (case hd => rfl); (case hg => rfl); (case hr => first | (go_simp; done) | (go_simp; rfl)); intro gb296 hg w25 hbox hb; have n0_ := Aside0.mk (blk_below (g := gb291) (o := .cells #[.bool a0_0, .slice A0_1 l0_1.length c0_1, .slice (some ad295) l0_2.length c0_2] 25 (0, 0)) (by (with_reducible repeat (first | refine blk_drewN ?_ _ | refine blk_drew ?_ | refine blk_alloc ?_ _)); exact BK291.out) hb); have n1_ := Aside0.mk (below_step (by repeat (first | (with_reducible first | exact HB.out | apply below_alloc | apply pw_below_drewN | apply below_drew1 | refine below_set ?_ GE291.out) | exact HB.out)) hb); have n2_ := Aside0.mk (hbox); have n3_ := Aside0.mk ((by rw [hg]; exact (below_size (by repeat (first | (with_reducible first | exact HB.out | apply below_alloc | apply pw_below_drewN | apply below_drew1 | refine below_set ?_ GE291.out) | exact HB.out))) : w.heap.size ≤ gb296)); have n4_ := Aside0.mk ((by rw [hg]; exact (below_size (by repeat (first | (with_reducible first | exact HB.out | apply below_alloc | apply pw_below_drewN | apply below_drew1 | refine below_set ?_ GE291.out) | exact HB.out))) : w.heap.size ≤ gb296)); have n5_ := Aside0.mk ((by rw [hg]; exact Nat.ne_of_lt (blk_lt (g := gb291) (o := .cells #[.bool a0_0, .slice A0_1 l0_1.length c0_1, .slice (some ad295) l0_2.length c0_2] 25 (0, 0)) (by (with_reducible repeat (first | refine blk_drewN ?_ _ | refine blk_drew ?_ | refine blk_alloc ?_ _)); exact BK291.out)) : gb291 ≠ gb296)); have n6_ := Aside0.mk ((by rw [hg]; exact Nat.ne_of_gt (blk_lt (g := gb291) (o := .cells #[.bool a0_0, .slice A0_1 l0_1.length c0_1, .slice (some ad295) l0_2.length c0_2] 25 (0, 0)) (by (with_reducible repeat (first | refine blk_drewN ?_ _ | refine blk_drew ?_ | refine blk_alloc ?_ _)); exact BK291.out)) : gb296 ≠ gb291)); clear BK291; clear HB; have BK291 := n0_; have HB := n1_; have BK296 := n2_; have GW296 := n3_; have GE296 := n4_; have NB291_296 := n5_; have NB296_291 := n6_; clear n0_ n1_ n2_ n3_ n4_ n5_ n6_; clear hb hbox hg; have hnb26 := NB296_291.out; have hnc26 := NB291_296.out; have hcz27_0 : w25.cell? ⟨gb296, 0, none⟩ = some (.int .i64 0) := (blk_cell BK296.out 0).trans rfl; have hcz27_1 : w25.cell? ⟨gb296, 1, none⟩ = some (.int .i64 0) := (blk_cell BK296.out 1).trans rfl; have hcz27_2 : w25.cell? ⟨gb296, 2, none⟩ = some (.int .i64 0) := (blk_cell BK296.out 2).trans rfl; have hfz27_0 := blk_frozen BK296.out 0; have hfz27_1 := blk_frozen BK296.out 1; have hfz27_2 := blk_frozen BK296.out 2; have hcz28_0 : w25.cell? ⟨gb291, 0, none⟩ = some (.bool a0_0) := (blk_cell BK291.out 0).trans rfl; have hcz28_1 : w25.cell? ⟨gb291, 1, none⟩ = some (.slice A0_1 l0_1.length c0_1) := (blk_cell BK291.out 1).trans rfl; have hcz28_2 : w25.cell? ⟨gb291, 2, none⟩ = some (.slice (some ad295) l0_2.length c0_2) := (blk_cell BK291.out 2).trans rfl; have hfz28_0 := blk_frozen BK291.out 0; have hfz28_1 := blk_frozen BK291.out 1; have hfz28_2 := blk_frozen BK291.out 2) | (go_at_call 24; (with_reducible refine (slices_Contains_int_int.calls k2 _ _ l0_1 ((rd_T38 l0_2 x4_2).f0) true _ ?side1 ?side2 A20.out).mono ?_); (case side1 => exact Kd.C_below HR0_1.out (by repeat (first | (with_reducible first | exact HB.out | apply below_alloc | apply pw_below_drewN | apply below_drew1 | refine below_set ?_ GE291.out | refine below_set ?_ GE296.out) | exact HB.out))); (case side2 => exact HC0_1.out); rintro e w' ⟨rfl, ⟨nd, rfl⟩⟩; (try first | exact ⟨rfl, _, World.drewN_drewN _ _ _⟩ | exact ⟨rfl, _, Eq.trans (World.drewN_drewN _ _ _) (congrArg (World.drewN _) (Nat.add_assoc _ _ _))⟩)) | (go_at_call 24; (with_reducible refine (slices_Contains_int_int.calls k2 _ _ l0_1 ((rd_T38 l0_2 x4_2).f1) true _ ?side1 ?side2 A22.out).mono ?_); (case side1 => exact Kd.C_below HR0_1.out (by repeat (first | (with_reducible first | exact HB.out | apply below_alloc | apply pw_below_drewN | apply below_drew1 | refine below_set ?_ GE291.out | refine below_set ?_ GE296.out) | exact HB.out))); (case side2 => exact HC0_1.out); rintro e w' ⟨rfl, ⟨nd, rfl⟩⟩; (try first | exact ⟨rfl, _, World.drewN_drewN _ _ _⟩ | exact ⟨rfl, _, Eq.trans (World.drewN_drewN _ _ _) (congrArg (World.drewN _) (Nat.add_assoc _ _ _))⟩))))
                      go_roundg k2
                      case measure => have := HK1.out; have := HK2.out; omega
                      case rel => exact ⟨(wrap64 (x4_2 + 1)), (by first | rfl | (simp; done) | (simp [*]; done)), H', ⟨by have := HK1.out; have := HK2.out; omega⟩, ⟨by (with_reducible repeat (first | refine blk_drewN ?_ _ | refine blk_drew ?_ | refine blk_alloc ?_ _)); refine blk_far ?_ NB291_296.out _; (with_reducible repeat (first | refine blk_drewN ?_ _ | refine blk_drew ?_ | refine blk_alloc ?_ _)); refine blk_far ?_ NB291_296.out _; (with_reducible repeat (first | refine blk_drewN ?_ _ | refine blk_drew ?_ | refine blk_alloc ?_ _)); refine blk_far ?_ NB291_296.out _; (with_reducible repeat (first | refine blk_drewN ?_ _ | refine blk_drew ?_ | refine blk_alloc ?_ _)); exact BK291.out⟩, ⟨by repeat (first | (with_reducible first | exact HB.out | apply below_alloc | apply pw_below_drewN | apply below_drew1 | refine below_set ?_ GE291.out | refine below_set ?_ GE296.out) | exact HB.out)⟩⟩
                    · replace c23 := Bool.eq_false_iff.mpr c23
                      subst c23
                      have H1 : (some false) = some r := by rw [if_neg (show ¬ (false = true) by decide)] at H; exact H
                      clear H
                      have H := H1
                      clear H1
                      obtain rfl := Option.some.inj H
                      have hcz29_0 : wr.cell? ⟨gb291, 0, none⟩ = some (.bool a0_0) := (blk_cell BK291.out 0).trans rfl
                      have hcz29_1 : wr.cell? ⟨gb291, 1, none⟩ = some (.slice A0_1 l0_1.length c0_1) := (blk_cell BK291.out 1).trans rfl
                      have hcz29_2 : wr.cell? ⟨gb291, 2, none⟩ = some (.slice A0_2 l0_2.length c0_2) := (blk_cell BK291.out 2).trans rfl
                      have hfz29_0 := blk_frozen BK291.out 0
                      have hfz29_1 := blk_frozen BK291.out 1
                      have hfz29_2 := blk_frozen BK291.out 2
                      have p295 : 0 ≤ (x4_2 : Int) := of_decide_eq_true (by first | (with_reducible assumption) | assumption)
                      have q295 : x4_2 < (l0_2.length : Int) := of_decide_eq_true (by first | (with_reducible assumption) | assumption)
                      obtain ⟨ad295, e295, hx295_0, hx295_1, hx295_2⟩ := at_T38 HR0_2.out x4_2 p295 q295
                      cases e295
                      replace hx295_0 := (HB.out.cell (World.block_lt_of_cell? w _ hx295_0)).trans hx295_0
                      replace hx295_1 := (HB.out.cell (World.block_lt_of_cell? w _ hx295_1)).trans hx295_1
                      replace hx295_2 := (HB.out.cell (World.block_lt_of_cell? w _ hx295_2)).trans hx295_2
                      replace p295 := eq_true p295
                      replace q295 := eq_true q295
                      go_wp2_with (first | ((with_reducible refine gate_dst (N := 5) rfl ?_); refine box_event ?hg (N := 5) ?hd (cs := #[.int .i64 0, .int .i64 0, .int .i64 0]) (t := 38) ?hr ?_; (case hd => rfl); (case hg => rfl); (case hr => first | (go_simp; done) | (go_simp; rfl)); intro gb296 hg w30 hbox hb; have n0_ := Aside0.mk (blk_below (g := gb291) (o := .cells #[.bool a0_0, .slice A0_1 l0_1.length c0_1, .slice (some ad295) l0_2.length c0_2] 25 (0, 0)) (by (with_reducible repeat (first | refine blk_drewN ?_ _ | refine blk_drew ?_ | refine blk_alloc ?_ _)); exact BK291.out) hb); have n1_ := Aside0.mk (below_step (by repeat (first | (with_reducible first | exact HB.out | apply below_alloc | apply pw_below_drewN | apply below_drew1 | refine below_set ?_ GE291.out) | exact HB.out)) hb); have n2_ := Aside0.mk (hbox); have n3_ := Aside0.mk ((by rw [hg]; exact (below_size (by repeat (first | (with_reducible first | exact HB.out | apply below_alloc | apply pw_below_drewN | apply below_drew1 | refine below_set ?_ GE291.out) | exact HB.out))) : w.heap.size ≤ gb296)); have n4_ := Aside0.mk ((by rw [hg]; exact (below_size (by repeat (first | (with_reducible first | exact HB.out | apply below_alloc | apply pw_below_drewN | apply below_drew1 | refine below_set ?_ GE291.out) | exact HB.out))) : w.heap.size ≤ gb296)); have n5_ := Aside0.mk ((by rw [hg]; exact Nat.ne_of_lt (blk_lt (g := gb291) (o := .cells #[.bool a0_0, .slice A0_1 l0_1.length c0_1, .slice (some ad295) l0_2.length c0_2] 25 (0, 0)) (by (with_reducible repeat (first | refine blk_drewN ?_ _ | refine blk_drew ?_ | refine blk_alloc ?_ _)); exact BK291.out)) : gb291 ≠ gb296)); have n6_ := Aside0.mk ((by rw [hg]; exact Nat.ne_of_gt (blk_lt (g := gb291) (o := .cells #[.bool a0_0, .slice A0_1 l0_1.length c0_1, .slice (some ad295) l0_2.length c0_2] 25 (0, 0)) (by (with_reducible repeat (first | refine blk_drewN ?_ _ | refine blk_drew ?_ | refine blk_alloc ?_ _)); exact BK291.out)) : gb296 ≠ gb291)); clear BK291; clear HB; have BK291 := n0_; have HB := n1_; have BK296 := n2_; have GW296 := n3_; have GE296 := n4_; have NB291_296 := n5_; have NB296_291 := n6_; clear n0_ n1_ n2_ n3_ n4_ n5_ n6_; clear hb hbox hg; have hnb31 := NB296_291.out; have hnc31 := NB291_296.out; have hcz32_0 : w30.cell? ⟨gb296, 0, none⟩ = some (.int .i64 0) := (blk_cell BK296.out 0).trans rfl; have hcz32_1 : w30.cell? ⟨gb296, 1, none⟩ = some (.int .i64 0) := (blk_cell BK296.out 1).trans rfl; have hcz32_2 : w30.cell? ⟨gb296, 2, none⟩ = some (.int .i64 0) := (blk_cell BK296.out 2).trans rfl; have hfz32_0 := blk_frozen BK296.out 0; have hfz32_1 := blk_frozen BK296.out 1; have hfz32_2 := blk_frozen BK296.out 2; have hcz33_0 : w30.cell? ⟨gb291, 0, none⟩ = some (.bool a0_0) := (blk_cell BK291.out 0).trans rfl; have hcz33_1 : w30.cell? ⟨gb291, 1, none⟩ = some (.slice A0_1 l0_1.length c0_1) := (blk_cell BK291.out 1).trans rfl; have hcz33_2 : w30.cell? ⟨gb291, 2, none⟩ = some (.slice (some ad295) l0_2.length c0_2) := (blk_cell BK291.out 2).trans rfl; have hfz33_0 := blk_frozen BK291.out 0; have hfz33_1 := blk_frozen BK291.out 1; have hfz33_2 := blk_frozen BK291.out 2) | (go_at_call 24; (with_reducible refine (slices_Contains_int_int.calls k2 _ _ l0_1 ((rd_T38 l0_2 x4_2).f0) true _ ?side1 ?side2 A20.out).mono ?_); (case side1 => exact Kd.C_below HR0_1.out (by repeat (first | (with_reducible first | exact HB.out | apply below_alloc | apply pw_below_drewN | apply below_drew1 | refine below_set ?_ GE291.out | refine below_set ?_ GE296.out) | exact HB.out))); (case side2 => exact HC0_1.out); rintro e w' ⟨rfl, ⟨nd, rfl⟩⟩; (try first | exact ⟨rfl, _, World.drewN_drewN _ _ _⟩ | exact ⟨rfl, _, Eq.trans (World.drewN_drewN _ _ _) (congrArg (World.drewN _) (Nat.add_assoc _ _ _))⟩)) | (go_at_call 24; (with_reducible refine (slices_Contains_int_int.calls k2 _ _ l0_1 ((rd_T38 l0_2 x4_2).f1) false _ ?side1 ?side2 A22.out).mono ?_); (case side1 => exact Kd.C_below HR0_1.out (by repeat (first | (with_reducible first | exact HB.out | apply below_alloc | apply pw_below_drewN | apply below_drew1 | refine below_set ?_ GE291.out | refine below_set ?_ GE296.out) | exact HB.out))); (case side2 => exact HC0_1.out); rintro e w' ⟨rfl, ⟨nd, rfl⟩⟩; (try first | exact ⟨rfl, _, World.drewN_drewN _ _ _⟩ | exact ⟨rfl, _, Eq.trans (World.drewN_drewN _ _ _) (congrArg (World.drewN _) (Nat.add_assoc _ _ _))⟩)))
                      repeat (go_quiet (first | ((with_reducible refine gate_dst (N := 5) rfl ?_); refine box_event ?hg (N := 5) ?hd (cs := #[.int .i64 0, .int .i64 0, .int .i64 0]) (t := 38) ?hr ?_; (case hd => rfl); (case hg => rfl); (case hr => first | (go_simp; done) | (go_simp; rfl)); intro gb296 hg w30 hbox hb; have n0_ := Aside0.mk (blk_below (g := gb291) (o := .cells #[.bool a0_0, .slice A0_1 l0_1.length c0_1, .slice (some ad295) l0_2.length c0_2] 25 (0, 0)) (by (with_reducible repeat (first | refine blk_drewN ?_ _ | refine blk_drew ?_ | refine blk_alloc ?_ _)); exact BK291.out) hb); have n1_ := Aside0.mk (below_step (by repeat (first | (with_reducible first | exact HB.out | apply below_alloc | apply pw_below_drewN | apply below_drew1 | refine below_set ?_ GE291.out) | exact HB.out)) hb); have n2_ := Aside0.mk (hbox); have n3_ := Aside0.mk ((by rw [hg]; exact (below_size (by repeat (first | (with_reducible first | exact HB.out | apply below_alloc | apply pw_below_drewN | apply below_drew1 | refine below_set ?_ GE291.out) | exact HB.out))) : w.heap.size ≤ gb296)); have n4_ := Aside0.mk ((by rw [hg]; exact (below_size (by repeat (first | (with_reducible first | exact HB.out | apply below_alloc | apply pw_below_drewN | apply below_drew1 | refine below_set ?_ GE291.out) | exact HB.out))) : w.heap.size ≤ gb296)); have n5_ := Aside0.mk ((by rw [hg]; exact Nat.ne_of_lt (blk_lt (g := gb291) (o := .cells #[.bool a0_0, .slice A0_1 l0_1.length c0_1, .slice (some ad295) l0_2.length c0_2] 25 (0, 0)) (by (with_reducible repeat (first | refine blk_drewN ?_ _ | refine blk_drew ?_ | refine blk_alloc ?_ _)); exact BK291.out)) : gb291 ≠ gb296)); have n6_ := Aside0.mk ((by rw [hg]; exact Nat.ne_of_gt (blk_lt (g := gb291) (o := .cells #[.bool a0_0, .slice A0_1 l0_1.length c0_1, .slice (some ad295) l0_2.length c0_2] 25 (0, 0)) (by (with_reducible repeat (first | refine blk_drewN ?_ _ | refine blk_drew ?_ | refine blk_alloc ?_ _)); exact BK291.out)) : gb296 ≠ gb291)); clear BK291; clear HB; have BK291 := n0_; have HB := n1_; have BK296 := n2_; have GW296 := n3_; have GE296 := n4_; have NB291_296 := n5_; have NB296_291 := n6_; clear n0_ n1_ n2_ n3_ n4_ n5_ n6_; clear hb hbox hg; have hnb31 := NB296_291.out; have hnc31 := NB291_296.out; have hcz32_0 : w30.cell? ⟨gb296, 0, none⟩ = some (.int .i64 0) := (blk_cell BK296.out 0).trans rfl; have hcz32_1 : w30.cell? ⟨gb296, 1, none⟩ = some (.int .i64 0) := (blk_cell BK296.out 1).trans rfl; have hcz32_2 : w30.cell? ⟨gb296, 2, none⟩ = some (.int .i64 0) := (blk_cell BK296.out 2).trans rfl; have hfz32_0 := blk_frozen BK296.out 0; have hfz32_1 := blk_frozen BK296.out 1; have hfz32_2 := blk_frozen BK296.out 2; have hcz33_0 : w30.cell? ⟨gb291, 0, none⟩ = some (.bool a0_0) := (blk_cell BK291.out 0).trans rfl; have hcz33_1 : w30.cell? ⟨gb291, 1, none⟩ = some (.slice A0_1 l0_1.length c0_1) := (blk_cell BK291.out 1).trans rfl; have hcz33_2 : w30.cell? ⟨gb291, 2, none⟩ = some (.slice (some ad295) l0_2.length c0_2) := (blk_cell BK291.out 2).trans rfl; have hfz33_0 := blk_frozen BK291.out 0; have hfz33_1 := blk_frozen BK291.out 1; have hfz33_2 := blk_frozen BK291.out 2) | (go_at_call 24; (with_reducible refine (slices_Contains_int_int.calls k2 _ _ l0_1 ((rd_T38 l0_2 x4_2).f0) true _ ?side1 ?side2 A20.out).mono ?_); (case side1 => exact Kd.C_below HR0_1.out (by repeat (first | (with_reducible first | exact HB.out | apply below_alloc | apply pw_below_drewN | apply below_drew1 | refine below_set ?_ GE291.out | refine below_set ?_ GE296.out) | exact HB.out))); (case side2 => exact HC0_1.out); rintro e w' ⟨rfl, ⟨nd, rfl⟩⟩; (try first | exact ⟨rfl, _, World.drewN_drewN _ _ _⟩ | exact ⟨rfl, _, Eq.trans (World.drewN_drewN _ _ _) (congrArg (World.drewN _) (Nat.add_assoc _ _ _))⟩)) | (go_at_call 24; (with_reducible refine (slices_Contains_int_int.calls k2 _ _ l0_1 ((rd_T38 l0_2 x4_2).f1) false _ ?side1 ?side2 A22.out).mono ?_); (case side1 => exact Kd.C_below HR0_1.out (by repeat (first | (with_reducible first | exact HB.out | apply below_alloc | apply pw_below_drewN | apply below_drew1 | refine below_set ?_ GE291.out | refine below_set ?_ GE296.out) | exact HB.out))); (case side2 => exact HC0_1.out); rintro e w' ⟨rfl, ⟨nd, rfl⟩⟩; (try first | exact ⟨rfl, _, World.drewN_drewN _ _ _⟩ | exact ⟨rfl, _, Eq.trans (World.drewN_drewN _ _ _) (congrArg (World.drewN _) (Nat.add_assoc _ _ _))⟩))); try go_wp2_with (first | ((with_reducible refine gate_dst (N := 5) rfl ?_); refine box_event ?hg (N := 5) ?hd (cs := #[.int .i64 0, .int .i64 0, .int .i64 0]) (t := 38) ?hr ?_; (case hd => rfl); (case hg => rfl); (case hr => first | (go_simp; done) | (go_simp; rfl)); intro gb296 hg w30 hbox hb; have n0_ := Aside0.mk (blk_below (g := gb291) (o := .cells #[.bool a0_0, .slice A0_1 l0_1.length c0_1, .slice (some ad295) l0_2.length c0_2] 25 (0, 0)) (by (with_reducible repeat (first | refine blk_drewN ?_ _ | refine blk_drew ?_ | refine blk_alloc ?_ _)); exact BK291.out) hb); have n1_ := Aside0.mk (below_step (by repeat (first | (with_reducible first | exact HB.out | apply below_alloc | apply pw_below_drewN | apply below_drew1 | refine below_set ?_ GE291.out) | exact HB.out)) hb); have n2_ := Aside0.mk (hbox); have n3_ := Aside0.mk ((by rw [hg]; exact (below_size (by repeat (first | (with_reducible first | exact HB.out | apply below_alloc | apply pw_below_drewN | apply below_drew1 | refine below_set ?_ GE291.out) | exact HB.out))) : w.heap.size ≤ gb296)); have n4_ := Aside0.mk ((by rw [hg]; exact (below_size (by repeat (first | (with_reducible first | exact HB.out | apply below_alloc | apply pw_below_drewN | apply below_drew1 | refine below_set ?_ GE291.out) | exact HB.out))) : w.heap.size ≤ gb296)); have n5_ := Aside0.mk ((by rw [hg]; exact Nat.ne_of_lt (blk_lt (g := gb291) (o := .cells #[.bool a0_0, .slice A0_1 l0_1.length c0_1, .slice (some ad295) l0_2.length c0_2] 25 (0, 0)) (by (with_reducible repeat (first | refine blk_drewN ?_ _ | refine blk_drew ?_ | refine blk_alloc ?_ _)); exact BK291.out)) : gb291 ≠ gb296)); have n6_ := Aside0.mk ((by rw [hg]; exact Nat.ne_of_gt (blk_lt (g := gb291) (o := .cells #[.bool a0_0, .slice A0_1 l0_1.length c0_1, .slice (some ad295) l0_2.length c0_2] 25 (0, 0)) (by (with_reducible repeat (first | refine blk_drewN ?_ _ | refine blk_drew ?_ | refine blk_alloc ?_ _)); exact BK291.out)) : gb296 ≠ gb291)); clear BK291; clear HB; have BK291 := n0_; have HB := n1_; have BK296 := n2_; have GW296 := n3_; have GE296 := n4_; have NB291_296 := n5_; have NB296_291 := n6_; clear n0_ n1_ n2_ n3_ n4_ n5_ n6_; clear hb hbox hg; have hnb31 := NB296_291.out; have hnc31 := NB291_296.out; have hcz32_0 : w30.cell? ⟨gb296, 0, none⟩ = some (.int .i64 0) := (blk_cell BK296.out 0).trans rfl; have hcz32_1 : w30.cell? ⟨gb296, 1, none⟩ = some (.int .i64 0) := (blk_cell BK296.out 1).trans rfl; have hcz32_2 : w30.cell? ⟨gb296, 2, none⟩ = some (.int .i64 0) := (blk_cell BK296.out 2).trans rfl; have hfz32_0 := blk_frozen BK296.out 0; have hfz32_1 := blk_frozen BK296.out 1; have hfz32_2 := blk_frozen BK296.out 2; have hcz33_0 : w30.cell? ⟨gb291, 0, none⟩ = some (.bool a0_0) := (blk_cell BK291.out 0).trans rfl; have hcz33_1 : w30.cell? ⟨gb291, 1, none⟩ = some (.slice A0_1 l0_1.length c0_1) := (blk_cell BK291.out 1).trans rfl; have hcz33_2 : w30.cell? ⟨gb291, 2, none⟩ = some (.slice (some ad295) l0_2.length c0_2) := (blk_cell BK291.out 2).trans rfl; have hfz33_0 := blk_frozen BK291.out 0; have hfz33_1 := blk_frozen BK291.out 1; have hfz33_2 := blk_frozen BK291.out 2) | (go_at_call 24; (with_reducible refine (slices_Contains_int_int.calls k2 _ _ l0_1 ((rd_T38 l0_2 x4_2).f0) true _ ?side1 ?side2 A20.out).mono ?_); (case side1 => exact Kd.C_below HR0_1.out (by repeat (first | (with_reducible first | exact HB.out | apply below_alloc | apply pw_below_drewN | apply below_drew1 | refine below_set ?_ GE291.out | refine below_set ?_ GE296.out) | exact HB.out))); (case side2 => exact HC0_1.out); rintro e w' ⟨rfl, ⟨nd, rfl⟩⟩; (try first | exact ⟨rfl, _, World.drewN_drewN _ _ _⟩ | exact ⟨rfl, _, Eq.trans (World.drewN_drewN _ _ _) (congrArg (World.drewN _) (Nat.add_assoc _ _ _))⟩)) | (go_at_call 24; (with_reducible refine (slices_Contains_int_int.calls k2 _ _ l0_1 ((rd_T38 l0_2 x4_2).f1) false _ ?side1 ?side2 A22.out).mono ?_); (case side1 => exact Kd.C_below HR0_1.out (by repeat (first | (with_reducible first | exact HB.out | apply below_alloc | apply pw_below_drewN | apply below_drew1 | refine below_set ?_ GE291.out | refine below_set ?_ GE296.out) | exact HB.out))); (case side2 => exact HC0_1.out); rintro e w' ⟨rfl, ⟨nd, rfl⟩⟩; (try first | exact ⟨rfl, _, World.drewN_drewN _ _ _⟩ | exact ⟨rfl, _, Eq.trans (World.drewN_drewN _ _ _) (congrArg (World.drewN _) (Nat.add_assoc _ _ _))⟩))))
                      go_ret
                      exact ⟨by first | rfl | (simp [errW_none, errW_some] <;> rfl) | (simp [*, errW_none, errW_some] <;> rfl), by repeat (first | (with_reducible first | exact HB.out | apply below_alloc | apply pw_below_drewN | apply below_drew1 | refine below_set ?_ GE291.out | refine below_set ?_ GE296.out) | exact HB.out)⟩
                  · replace c21 := Bool.eq_false_iff.mpr c21
                    subst c21
                    have H1 : (some false) = some r := by rw [if_neg (show ¬ (false = true) by decide)] at H; exact H
                    clear H
                    have H := H1
                    clear H1
                    obtain rfl := Option.some.inj H
                    have hcz34_0 : wr.cell? ⟨gb291, 0, none⟩ = some (.bool a0_0) := (blk_cell BK291.out 0).trans rfl
                    have hcz34_1 : wr.cell? ⟨gb291, 1, none⟩ = some (.slice A0_1 l0_1.length c0_1) := (blk_cell BK291.out 1).trans rfl
                    have hcz34_2 : wr.cell? ⟨gb291, 2, none⟩ = some (.slice A0_2 l0_2.length c0_2) := (blk_cell BK291.out 2).trans rfl
                    have hfz34_0 := blk_frozen BK291.out 0
                    have hfz34_1 := blk_frozen BK291.out 1
                    have hfz34_2 := blk_frozen BK291.out 2
                    have p295 : 0 ≤ (x4_2 : Int) := of_decide_eq_true (by first | (with_reducible assumption) | assumption)
                    have q295 : x4_2 < (l0_2.length : Int) := of_decide_eq_true (by first | (with_reducible assumption) | assumption)
                    obtain ⟨ad295, e295, hx295_0, hx295_1, hx295_2⟩ := at_T38 HR0_2.out x4_2 p295 q295
                    cases e295
                    replace hx295_0 := (HB.out.cell (World.block_lt_of_cell? w _ hx295_0)).trans hx295_0
                    replace hx295_1 := (HB.out.cell (World.block_lt_of_cell? w _ hx295_1)).trans hx295_1
                    replace hx295_2 := (HB.out.cell (World.block_lt_of_cell? w _ hx295_2)).trans hx295_2
                    replace p295 := eq_true p295
                    replace q295 := eq_true q295
                    go_wp2_with (first | ((with_reducible refine gate_dst (N := 5) rfl ?_); refine box_event ?hg (N := 5) ?hd (cs := #[.int .i64 0, .int .i64 0, .int .i64 0]) (t := 38) ?hr ?_; (case hd => rfl); (case hg => rfl); (case hr => first | (go_simp; done) | (go_simp; rfl)); intro gb296 hg w35 hbox hb; have n0_ := Aside0.mk (blk_below (g := gb291) (o := .cells #[.bool a0_0, .slice A0_1 l0_1.length c0_1, .slice (some ad295) l0_2.length c0_2] 25 (0, 0)) (by (with_reducible repeat (first | refine blk_drewN ?_ _ | refine blk_drew ?_ | refine blk_alloc ?_ _)); exact BK291.out) hb); have n1_ := Aside0.mk (below_step (by repeat (first | (with_reducible first | exact HB.out | apply below_alloc | apply pw_below_drewN | apply below_drew1 | refine below_set ?_ GE291.out) | exact HB.out)) hb); have n2_ := Aside0.mk (hbox); have n3_ := Aside0.mk ((by rw [hg]; exact (below_size (by repeat (first | (with_reducible first | exact HB.out | apply below_alloc | apply pw_below_drewN | apply below_drew1 | refine below_set ?_ GE291.out) | exact HB.out))) : w.heap.size ≤ gb296)); have n4_ := Aside0.mk ((by rw [hg]; exact (below_size (by repeat (first | (with_reducible first | exact HB.out | apply below_alloc | apply pw_below_drewN | apply below_drew1 | refine below_set ?_ GE291.out) | exact HB.out))) : w.heap.size ≤ gb296)); have n5_ := Aside0.mk ((by rw [hg]; exact Nat.ne_of_lt (blk_lt (g := gb291) (o := .cells #[.bool a0_0, .slice A0_1 l0_1.length c0_1, .slice (some ad295) l0_2.length c0_2] 25 (0, 0)) (by (with_reducible repeat (first | refine blk_drewN ?_ _ | refine blk_drew ?_ | refine blk_alloc ?_ _)); exact BK291.out)) : gb291 ≠ gb296)); have n6_ := Aside0.mk ((by rw [hg]; exact Nat.ne_of_gt (blk_lt (g := gb291) (o := .cells #[.bool a0_0, .slice A0_1 l0_1.length c0_1, .slice (some ad295) l0_2.length c0_2] 25 (0, 0)) (by (with_reducible repeat (first | refine blk_drewN ?_ _ | refine blk_drew ?_ | refine blk_alloc ?_ _)); exact BK291.out)) : gb296 ≠ gb291)); clear BK291; clear HB; have BK291 := n0_; have HB := n1_; have BK296 := n2_; have GW296 := n3_; have GE296 := n4_; have NB291_296 := n5_; have NB296_291 := n6_; clear n0_ n1_ n2_ n3_ n4_ n5_ n6_; clear hb hbox hg; have hnb36 := NB296_291.out; have hnc36 := NB291_296.out; have hcz37_0 : w35.cell? ⟨gb296, 0, none⟩ = some (.int .i64 0) := (blk_cell BK296.out 0).trans rfl; have hcz37_1 : w35.cell? ⟨gb296, 1, none⟩ = some (.int .i64 0) := (blk_cell BK296.out 1).trans rfl; have hcz37_2 : w35.cell? ⟨gb296, 2, none⟩ = some (.int .i64 0) := (blk_cell BK296.out 2).trans rfl; have hfz37_0 := blk_frozen BK296.out 0; have hfz37_1 := blk_frozen BK296.out 1; have hfz37_2 := blk_frozen BK296.out 2; have hcz38_0 : w35.cell? ⟨gb291, 0, none⟩ = some (.bool a0_0) := (blk_cell BK291.out 0).trans rfl; have hcz38_1 : w35.cell? ⟨gb291, 1, none⟩ = some (.slice A0_1 l0_1.length c0_1) := (blk_cell BK291.out 1).trans rfl; have hcz38_2 : w35.cell? ⟨gb291, 2, none⟩ = some (.slice (some ad295) l0_2.length c0_2) := (blk_cell BK291.out 2).trans rfl; have hfz38_0 := blk_frozen BK291.out 0; have hfz38_1 := blk_frozen BK291.out 1; have hfz38_2 := blk_frozen BK291.out 2) | (go_at_call 24; (with_reducible refine (slices_Contains_int_int.calls k2 _ _ l0_1 ((rd_T38 l0_2 x4_2).f0) false _ ?side1 ?side2 A20.out).mono ?_); (case side1 => exact Kd.C_below HR0_1.out (by repeat (first | (with_reducible first | exact HB.out | apply below_alloc | apply pw_below_drewN | apply below_drew1 | refine below_set ?_ GE291.out | refine below_set ?_ GE296.out) | exact HB.out))); (case side2 => exact HC0_1.out); rintro e w' ⟨rfl, ⟨nd, rfl⟩⟩; (try first | exact ⟨rfl, _, World.drewN_drewN _ _ _⟩ | exact ⟨rfl, _, Eq.trans (World.drewN_drewN _ _ _) (congrArg (World.drewN _) (Nat.add_assoc _ _ _))⟩)))
                    repeat (go_quiet (first | ((with_reducible refine gate_dst (N := 5) rfl ?_); refine box_event ?hg (N := 5) ?hd (cs := #[.int .i64 0, .int .i64 0, .int .i64 0]) (t := 38) ?hr ?_; (case hd => rfl); (case hg => rfl); (case hr => first | (go_simp; done) | (go_simp; rfl)); intro gb296 hg w35 hbox hb; have n0_ := Aside0.mk (blk_below (g := gb291) (o := .cells #[.bool a0_0, .slice A0_1 l0_1.length c0_1, .slice (some ad295) l0_2.length c0_2] 25 (0, 0)) (by (with_reducible repeat (first | refine blk_drewN ?_ _ | refine blk_drew ?_ | refine blk_alloc ?_ _)); exact BK291.out) hb); have n1_ := Aside0.mk (below_step (by repeat (first | (with_reducible first | exact HB.out | apply below_alloc | apply pw_below_drewN | apply below_drew1 | refine below_set ?_ GE291.out) | exact HB.out)) hb); have n2_ := Aside0.mk (hbox); have n3_ := Aside0.mk ((by rw [hg]; exact (below_size (by repeat (first | (with_reducible first | exact HB.out | apply below_alloc | apply pw_below_drewN | apply below_drew1 | refine below_set ?_ GE291.out) | exact HB.out))) : w.heap.size ≤ gb296)); have n4_ := Aside0.mk ((by rw [hg]; exact (below_size (by repeat (first | (with_reducible first | exact HB.out | apply below_alloc | apply pw_below_drewN | apply below_drew1 | refine below_set ?_ GE291.out) | exact HB.out))) : w.heap.size ≤ gb296)); have n5_ := Aside0.mk ((by rw [hg]; exact Nat.ne_of_lt (blk_lt (g := gb291) (o := .cells #[.bool a0_0, .slice A0_1 l0_1.length c0_1, .slice (some ad295) l0_2.length c0_2] 25 (0, 0)) (by (with_reducible repeat (first | refine blk_drewN ?_ _ | refine blk_drew ?_ | refine blk_alloc ?_ _)); exact BK291.out)) : gb291 ≠ gb296)); have n6_ := Aside0.mk ((by rw [hg]; exact Nat.ne_of_gt (blk_lt (g := gb291) (o := .cells #[.bool a0_0, .slice A0_1 l0_1.length c0_1, .slice (some ad295) l0_2.length c0_2] 25 (0, 0)) (by (with_reducible repeat (first | refine blk_drewN ?_ _ | refine blk_drew ?_ | refine blk_alloc ?_ _)); exact BK291.out)) : gb296 ≠ gb291)); clear BK291; clear HB; have BK291 := n0_; have HB := n1_; have BK296 := n2_; have GW296 := n3_; have GE296 := n4_; have NB291_296 := n5_; have NB296_291 := n6_; clear n0_ n1_ n2_ n3_ n4_ n5_ n6_; clear hb hbox hg; have hnb36 := NB296_291.out; have hnc36 := NB291_296.out; have hcz37_0 : w35.cell? ⟨gb296, 0, none⟩ = some (.int .i64 0) := (blk_cell BK296.out 0).trans rfl; have hcz37_1 : w35.cell? ⟨gb296, 1, none⟩ = some (.int .i64 0) := (blk_cell BK296.out 1).trans rfl; have hcz37_2 : w35.cell? ⟨gb296, 2, none⟩ = some (.int .i64 0) := (blk_cell BK296.out 2).trans rfl; have hfz37_0 := blk_frozen BK296.out 0; have hfz37_1 := blk_frozen BK296.out 1; have hfz37_2 := blk_frozen BK296.out 2; have hcz38_0 : w35.cell? ⟨gb291, 0, none⟩ = some (.bool a0_0) := (blk_cell BK291.out 0).trans rfl; have hcz38_1 : w35.cell? ⟨gb291, 1, none⟩ = some (.slice A0_1 l0_1.length c0_1) := (blk_cell BK291.out 1).trans rfl; have hcz38_2 : w35.cell? ⟨gb291, 2, none⟩ = some (.slice (some ad295) l0_2.length c0_2) := (blk_cell BK291.out 2).trans rfl; have hfz38_0 := blk_frozen BK291.out 0; have hfz38_1 := blk_frozen BK291.out 1; have hfz38_2 := blk_frozen BK291.out 2) | (go_at_call 24; (with_reducible refine (slices_Contains_int_int.calls k2 _ _ l0_1 ((rd_T38 l0_2 x4_2).f0) false _ ?side1 ?side2 A20.out).mono ?_); (case side1 => exact Kd.C_below HR0_1.out (by repeat (first | (with_reducible first | exact HB.out | apply below_alloc | apply pw_below_drewN | apply below_drew1 | refine below_set ?_ GE291.out | refine below_set ?_ GE296.out) | exact HB.out))); (case side2 => exact HC0_1.out); rintro e w' ⟨rfl, ⟨nd, rfl⟩⟩; (try first | exact ⟨rfl, _, World.drewN_drewN _ _ _⟩ | exact ⟨rfl, _, Eq.trans (World.drewN_drewN _ _ _) (congrArg (World.drewN _) (Nat.add_assoc _ _ _))⟩))); try go_wp2_with (first | ((with_reducible refine gate_dst (N := 5) rfl ?_); refine box_event ?hg (N := 5) ?hd (cs := #[.int .i64 0, .int .i64 0, .int .i64 0]) (t := 38) ?hr ?_; (case hd => rfl); (case hg => rfl); (case hr => first | (go_simp; done) | (go_simp; rfl)); intro gb296 hg w35 hbox hb; have n0_ := Aside0.mk (blk_below (g := gb291) (o := .cells #[.bool a0_0, .slice A0_1 l0_1.length c0_1, .slice (some ad295) l0_2.length c0_2] 25 (0, 0)) (by (with_reducible repeat (first | refine blk_drewN ?_ _ | refine blk_drew ?_ | refine blk_alloc ?_ _)); exact BK291.out) hb); have n1_ := Aside0.mk (below_step (by repeat (first | (with_reducible first | exact HB.out | apply below_alloc | apply pw_below_drewN | apply below_drew1 | refine below_set ?_ GE291.out) | exact HB.out)) hb); have n2_ := Aside0.mk (hbox); have n3_ := Aside0.mk ((by rw [hg]; exact (below_size (by repeat (first | (with_reducible first | exact HB.out | apply below_alloc | apply pw_below_drewN | apply below_drew1 | refine below_set ?_ GE291.out) | exact HB.out))) : w.heap.size ≤ gb296)); have n4_ := Aside0.mk ((by rw [hg]; exact (below_size (by repeat (first | (with_reducible first | exact HB.out | apply below_alloc | apply pw_below_drewN | apply below_drew1 | refine below_set ?_ GE291.out) | exact HB.out))) : w.heap.size ≤ gb296)); have n5_ := Aside0.mk ((by rw [hg]; exact Nat.ne_of_lt (blk_lt (g := gb291) (o := .cells #[.bool a0_0, .slice A0_1 l0_1.length c0_1, .slice (some ad295) l0_2.length c0_2] 25 (0, 0)) (by (with_reducible repeat (first | refine blk_drewN ?_ _ | refine blk_drew ?_ | refine blk_alloc ?_ _)); exact BK291.out)) : gb291 ≠ gb296)); have n6_ := Aside0.mk ((by rw [hg]; exact Nat.ne_of_gt (blk_lt (g := gb291) (o := .cells #[.bool a0_0, .slice A0_1 l0_1.length c0_1, .slice (some ad295) l0_2.length c0_2] 25 (0, 0)) (by (with_reducible repeat (first | refine blk_drewN ?_ _ | refine blk_drew ?_ | refine blk_alloc ?_ _)); exact BK291.out)) : gb296 ≠ gb291)); clear BK291; clear HB; have BK291 := n0_; have HB := n1_; have BK296 := n2_; have GW296 := n3_; have GE296 := n4_; have NB291_296 := n5_; have NB296_291 := n6_; clear n0_ n1_ n2_ n3_ n4_ n5_ n6_; clear hb hbox hg; have hnb36 := NB296_291.out; have hnc36 := NB291_296.out; have hcz37_0 : w35.cell? ⟨gb296, 0, none⟩ = some (.int .i64 0) := (blk_cell BK296.out 0).trans rfl; have hcz37_1 : w35.cell? ⟨gb296, 1, none⟩ = some (.int .i64 0) := (blk_cell BK296.out 1).trans rfl; have hcz37_2 : w35.cell? ⟨gb296, 2, none⟩ = some (.int .i64 0) := (blk_cell BK296.out 2).trans rfl; have hfz37_0 := blk_frozen BK296.out 0; have hfz37_1 := blk_frozen BK296.out 1; have hfz37_2 := blk_frozen BK296.out 2; have hcz38_0 : w35.cell? ⟨gb291, 0, none⟩ = some (.bool a0_0) := (blk_cell BK291.out 0).trans rfl; have hcz38_1 : w35.cell? ⟨gb291, 1, none⟩ = some (.slice A0_1 l0_1.length c0_1) := (blk_cell BK291.out 1).trans rfl; have hcz38_2 : w35.cell? ⟨gb291, 2, none⟩ = some (.slice (some ad295) l0_2.length c0_2) := (blk_cell BK291.out 2).trans rfl; have hfz38_0 := blk_frozen BK291.out 0; have hfz38_1 := blk_frozen BK291.out 1; have hfz38_2 := blk_frozen BK291.out 2) | (go_at_call 24; (with_reducible refine (slices_Contains_int_int.calls k2 _ _ l0_1 ((rd_T38 l0_2 x4_2).f0) false _ ?side1 ?side2 A20.out).mono ?_); (case side1 => exact Kd.C_below HR0_1.out (by repeat (first | (with_reducible first | exact HB.out | apply below_alloc | apply pw_below_drewN | apply below_drew1 | refine below_set ?_ GE291.out | refine below_set ?_ GE296.out) | exact HB.out))); (case side2 => exact HC0_1.out); rintro e w' ⟨rfl, ⟨nd, rfl⟩⟩; (try first | exact ⟨rfl, _, World.drewN_drewN _ _ _⟩ | exact ⟨rfl, _, Eq.trans (World.drewN_drewN _ _ _) (congrArg (World.drewN _) (Nat.add_assoc _ _ _))⟩))))
                    go_ret
                    exact ⟨by first | rfl | (simp [errW_none, errW_some] <;> rfl) | (simp [*, errW_none, errW_some] <;> rfl), by repeat (first | (with_reducible first | exact HB.out | apply below_alloc | apply pw_below_drewN | apply below_drew1 | refine below_set ?_ GE291.out | refine below_set ?_ GE296.out) | exact HB.out)⟩
              · rw [if_neg c14] at H
                exact absurd H (by simp)
            · rw [if_neg c13] at H
              have c13b0 : decide (x4_2 < (l0_2.length : Int)) = false := decide_eq_false c13
              clear c13
              obtain rfl := Option.some.inj H
              have hcz39_0 : wr.cell? ⟨gb291, 0, none⟩ = some (.bool a0_0) := (blk_cell BK291.out 0).trans rfl
              have hcz39_1 : wr.cell? ⟨gb291, 1, none⟩ = some (.slice A0_1 l0_1.length c0_1) := (blk_cell BK291.out 1).trans rfl
              have hcz39_2 : wr.cell? ⟨gb291, 2, none⟩ = some (.slice A0_2 l0_2.length c0_2) := (blk_cell BK291.out 2).trans rfl
              have hfz39_0 := blk_frozen BK291.out 0
              have hfz39_1 := blk_frozen BK291.out 1
              have hfz39_2 := blk_frozen BK291.out 2
              go_wp2
              repeat (go_quiet (fail); try go_wp2)
              go_ret
              exact ⟨by first | rfl | (simp [errW_none, errW_some] <;> rfl) | (simp [*, errW_none, errW_some] <;> rfl), by repeat (first | (with_reducible first | exact HB.out | apply below_alloc | apply pw_below_drewN | apply below_drew1 | refine below_set ?_ GE291.out) | exact HB.out)⟩

/-! ### laws_FnWalkBad: function 5 -/
def laws_FnWalkBad.j0 : Nat → List (S99) → Bool → Bool → List Int → Bool → Bool → Bool → Option (Bool)
  | 0, _, _, _, _, _, _, _ => none
  | k + 1, x7, x9, x10, x11, x13, x14, x47 => if x47 = true then (if x10 = true then (some false) else (if x14 = true then (some false) else ((laws_walksOne.f k).bind fun t317 => (some t317)))) else (if x10 = true then (if x14 = true then (if x9 = true then (some false) else (if x13 = true then (some false) else (if (wrap64 ((x7.length : Int) + (x11.length : Int))) = 0 then ((laws_walksOne.f k).bind fun t318 => (some t318)) else (some false)))) else (some false)) else (some false))
def laws_FnWalkBad.f (k : Nat) (a0_0 : Bool) (l0_1 : List Int) (l0_2 : List (S38)) (a1 : Int) (a2 : Int) : Option (Bool) := (laws_zzFits1.f a0_0 l0_1 l0_2).bind fun t300 => (if t300 = true then ((laws_sized.f k a0_0 l0_1 l0_2 30).bind fun t301 => (if t301 = true then ((impl_BreadthFirst.f a0_0 l0_1 l0_2 a1 a2 ([] : List (S38))).bind fun bt303 => ((impl_DepthFirst.f a0_0 l0_1 l0_2 a1 a2 ([] : List (S38))).bind fun bt309 => ((laws_formed.f k a0_0 l0_1 l0_2).bind fun t315 => (if t315 = true then ((slices_Contains_int_int.f k l0_1 a1).bind fun t316 => (laws_FnWalkBad.j0 k bt303.1 bt303.2.2.1 bt303.2.2.2 bt309.1 bt309.2.2.1 bt309.2.2.2 t316)) else (laws_FnWalkBad.j0 k bt303.1 bt303.2.2.1 bt303.2.2.2 bt309.1 bt309.2.2.1 bt309.2.2.2 false))))) else ((laws_walksOne.f k).bind fun t302 => (some t302)))) else (some true))
theorem laws_FnWalkBad.mono_l : ∀ k, (∀ y0 y1 y2 y3 y4 y5 y6, LeO (laws_FnWalkBad.j0 k y0 y1 y2 y3 y4 y5 y6) (laws_FnWalkBad.j0 (k + 1) y0 y1 y2 y3 y4 y5 y6))
  | 0 => fun _ _ _ _ _ _ _ r h => by simp [laws_FnWalkBad.j0] at h
  | k + 1 => by
    have ih0 := laws_FnWalkBad.mono_l k
    · intro y0 y1 y2 y3 y4 y5 y6
      unfold laws_FnWalkBad.j0
      repeat' first
      | (with_reducible exact ih0 _ _ _ _ _ _ _)
      | (with_reducible exact laws_formed.mono _ _ _ _)
      | (with_reducible exact laws_sized.mono _ _ _ _ _)
      | (with_reducible exact laws_walksOne.mono _)
      | (with_reducible exact slices_Contains_int_int.mono _ _ _)
      | (with_reducible exact LeO.refl _)
      | (with_reducible exact LeO.none _)
      | (with_reducible refine LeO.ite ?_ ?_)
      | (with_reducible refine LeO.bind ?_ (fun _ => ?_))
      | exact ih0 _ _ _ _ _ _ _
      | exact laws_formed.mono _ _ _ _
      | exact laws_sized.mono _ _ _ _ _
      | exact laws_walksOne.mono _
      | exact slices_Contains_int_int.mono _ _ _
      | exact LeO.none _
      | refine LeO.ite ?_ ?_
      | refine LeO.bind ?_ (fun _ => ?_)
theorem laws_FnWalkBad.mono : ∀ a0 a1 a2 a3 a4 k, LeO (laws_FnWalkBad.f k a0 a1 a2 a3 a4) (laws_FnWalkBad.f (k + 1) a0 a1 a2 a3 a4) := by
  intro a0 a1 a2 a3 a4 k
  have ih0 := laws_FnWalkBad.mono_l k
  unfold laws_FnWalkBad.f
  repeat' first
      | (with_reducible exact ih0 _ _ _ _ _ _ _)
      | (with_reducible exact laws_formed.mono _ _ _ _)
      | (with_reducible exact laws_sized.mono _ _ _ _ _)
      | (with_reducible exact laws_walksOne.mono _)
      | (with_reducible exact slices_Contains_int_int.mono _ _ _)
      | (with_reducible exact LeO.refl _)
      | (with_reducible exact LeO.none _)
      | (with_reducible refine LeO.ite ?_ ?_)
      | (with_reducible refine LeO.bind ?_ (fun _ => ?_))
      | exact ih0 _ _ _ _ _ _ _
      | exact laws_formed.mono _ _ _ _
      | exact laws_sized.mono _ _ _ _ _
      | exact laws_walksOne.mono _
      | exact slices_Contains_int_int.mono _ _ _
      | exact LeO.none _
      | refine LeO.ite ?_ ?_
      | refine LeO.bind ?_ (fun _ => ?_)
set_option maxHeartbeats 8000000 in
set_option maxRecDepth 100000 in
theorem laws_FnWalkBad.calls (k : Nat) (a0_0 : Bool) (A0_1 : Option Addr) (c0_1 : Nat) (l0_1 : List Int) (A0_2 : Option Addr) (c0_2 : Nat) (l0_2 : List (S38)) (a1 : Int) (a2 : Int) (r : Bool) (w : World) (hr0_1 : Kd.C (Kd.int .i64) w A0_1 l0_1.length l0_1) (hc0_1 : l0_1.length ≤ c0_1) (hr0_2 : Kd.C k38 w A0_2 l0_2.length l0_2) (hc0_2 : l0_2.length ≤ c0_2) (h : laws_FnWalkBad.f k a0_0 l0_1 l0_2 a1 a2 = some r) :
    Calls Tryz.prog 5 #[.agg #[.bool a0_0, .slice A0_1 l0_1.length c0_1, .slice A0_2 l0_2.length c0_2], .int .i64 a1, .int .i64 a2] w fun e w' => e = .returned (.bool r) ∧ Below w.heap.size w w' := by
  have hu25 := Tryz.underlying25
  have HR0_1 := Aside0.mk hr0_1
  have HC0_1 := Aside0.mk hc0_1
  clear hr0_1 hc0_1
  have HR0_2 := Aside0.mk hr0_2
  have HC0_2 := Aside0.mk hc0_2
  clear hr0_2 hc0_2
  have HB := Aside0.mk (Below.refl w.heap.size w)
  have H : ((laws_zzFits1.f a0_0 l0_1 l0_2).bind fun t300 => (if t300 = true then ((laws_sized.f k a0_0 l0_1 l0_2 30).bind fun t301 => (if t301 = true then ((impl_BreadthFirst.f a0_0 l0_1 l0_2 a1 a2 ([] : List (S38))).bind fun bt303 => ((impl_DepthFirst.f a0_0 l0_1 l0_2 a1 a2 ([] : List (S38))).bind fun bt309 => ((laws_formed.f k a0_0 l0_1 l0_2).bind fun t315 => (if t315 = true then ((slices_Contains_int_int.f k l0_1 a1).bind fun t316 => (laws_FnWalkBad.j0 k bt303.1 bt303.2.2.1 bt303.2.2.2 bt309.1 bt309.2.2.1 bt309.2.2.2 t316)) else (laws_FnWalkBad.j0 k bt303.1 bt303.2.2.1 bt303.2.2.2 bt309.1 bt309.2.2.1 bt309.2.2.2 false))))) else ((laws_walksOne.f k).bind fun t302 => (some t302)))) else (some true))) = some r := h
  clear h
  replace H := Option.bind_eq_some_iff.mp H
  obtain ⟨t300, A40, H⟩ := H
  replace H : (if t300 = true then ((laws_sized.f k a0_0 l0_1 l0_2 30).bind fun t301 => (if t301 = true then ((impl_BreadthFirst.f a0_0 l0_1 l0_2 a1 a2 ([] : List (S38))).bind fun bt303 => ((impl_DepthFirst.f a0_0 l0_1 l0_2 a1 a2 ([] : List (S38))).bind fun bt309 => ((laws_formed.f k a0_0 l0_1 l0_2).bind fun t315 => (if t315 = true then ((slices_Contains_int_int.f k l0_1 a1).bind fun t316 => (laws_FnWalkBad.j0 k bt303.1 bt303.2.2.1 bt303.2.2.2 bt309.1 bt309.2.2.1 bt309.2.2.2 t316)) else (laws_FnWalkBad.j0 k bt303.1 bt303.2.2.1 bt303.2.2.2 bt309.1 bt309.2.2.1 bt309.2.2.2 false))))) else ((laws_walksOne.f k).bind fun t302 => (some t302)))) else (some true)) = some r := H
  have A4 := Aside0.mk A40
  clear A40
  by_cases c5 : t300 = true
  · subst c5
    have H1 : ((laws_sized.f k a0_0 l0_1 l0_2 30).bind fun t301 => (if t301 = true then ((impl_BreadthFirst.f a0_0 l0_1 l0_2 a1 a2 ([] : List (S38))).bind fun bt303 => ((impl_DepthFirst.f a0_0 l0_1 l0_2 a1 a2 ([] : List (S38))).bind fun bt309 => ((laws_formed.f k a0_0 l0_1 l0_2).bind fun t315 => (if t315 = true then ((slices_Contains_int_int.f k l0_1 a1).bind fun t316 => (laws_FnWalkBad.j0 k bt303.1 bt303.2.2.1 bt303.2.2.2 bt309.1 bt309.2.2.1 bt309.2.2.2 t316)) else (laws_FnWalkBad.j0 k bt303.1 bt303.2.2.1 bt303.2.2.2 bt309.1 bt309.2.2.1 bt309.2.2.2 false))))) else ((laws_walksOne.f k).bind fun t302 => (some t302)))) = some r := by rw [if_pos rfl] at H; exact H
    clear H
    have H := H1
    clear H1
    replace H := Option.bind_eq_some_iff.mp H
    obtain ⟨t301, A60, H⟩ := H
    replace H : (if t301 = true then ((impl_BreadthFirst.f a0_0 l0_1 l0_2 a1 a2 ([] : List (S38))).bind fun bt303 => ((impl_DepthFirst.f a0_0 l0_1 l0_2 a1 a2 ([] : List (S38))).bind fun bt309 => ((laws_formed.f k a0_0 l0_1 l0_2).bind fun t315 => (if t315 = true then ((slices_Contains_int_int.f k l0_1 a1).bind fun t316 => (laws_FnWalkBad.j0 k bt303.1 bt303.2.2.1 bt303.2.2.2 bt309.1 bt309.2.2.1 bt309.2.2.2 t316)) else (laws_FnWalkBad.j0 k bt303.1 bt303.2.2.1 bt303.2.2.2 bt309.1 bt309.2.2.1 bt309.2.2.2 false))))) else ((laws_walksOne.f k).bind fun t302 => (some t302))) = some r := H
    have A6 := Aside0.mk A60
    clear A60
    by_cases c7 : t301 = true
    · subst c7
      have H1 : ((impl_BreadthFirst.f a0_0 l0_1 l0_2 a1 a2 ([] : List (S38))).bind fun bt303 => ((impl_DepthFirst.f a0_0 l0_1 l0_2 a1 a2 ([] : List (S38))).bind fun bt309 => ((laws_formed.f k a0_0 l0_1 l0_2).bind fun t315 => (if t315 = true then ((slices_Contains_int_int.f k l0_1 a1).bind fun t316 => (laws_FnWalkBad.j0 k bt303.1 bt303.2.2.1 bt303.2.2.2 bt309.1 bt309.2.2.1 bt309.2.2.2 t316)) else (laws_FnWalkBad.j0 k bt303.1 bt303.2.2.1 bt303.2.2.2 bt309.1 bt309.2.2.1 bt309.2.2.2 false))))) = some r := by rw [if_pos rfl] at H; exact H
      clear H
      have H := H1
      clear H1
      replace H := Option.bind_eq_some_iff.mp H
      obtain ⟨⟨t303, t306, t307, t308⟩, A80, H⟩ := H
      replace H : ((impl_DepthFirst.f a0_0 l0_1 l0_2 a1 a2 ([] : List (S38))).bind fun bt309 => ((laws_formed.f k a0_0 l0_1 l0_2).bind fun t315 => (if t315 = true then ((slices_Contains_int_int.f k l0_1 a1).bind fun t316 => (laws_FnWalkBad.j0 k t303 t307 t308 bt309.1 bt309.2.2.1 bt309.2.2.2 t316)) else (laws_FnWalkBad.j0 k t303 t307 t308 bt309.1 bt309.2.2.1 bt309.2.2.2 false)))) = some r := H
      have A8 := Aside0.mk A80
      clear A80
      replace H := Option.bind_eq_some_iff.mp H
      obtain ⟨⟨t309, t312, t313, t314⟩, A90, H⟩ := H
      replace H : ((laws_formed.f k a0_0 l0_1 l0_2).bind fun t315 => (if t315 = true then ((slices_Contains_int_int.f k l0_1 a1).bind fun t316 => (laws_FnWalkBad.j0 k t303 t307 t308 t309 t313 t314 t316)) else (laws_FnWalkBad.j0 k t303 t307 t308 t309 t313 t314 false))) = some r := H
      have A9 := Aside0.mk A90
      clear A90
      have HC10 := Aside0.mk H
      clear H
      go_enter Tryz.func5, Tryz.ntmps5
      go_upto_region 7 with (first | ((with_reducible refine gate_dst (N := 3) rfl ?_); (try (refine gate_guard (by rfl) ?_; dsimp only)); refine box_event ?hg (N := 3) ?hd (cs := #[.bool a0_0, .slice A0_1 l0_1.length c0_1, .slice A0_2 l0_2.length c0_2]) (t := 25) ?hr ?_; (case hd => rfl); (case hg => rfl); (case hr => first | (go_simp; done) | (go_simp; rfl)); intro gb299 hg w11 hbox hb; have n0_ := Aside0.mk (below_step (by repeat (first | (with_reducible first | exact HB.out | apply below_alloc | apply pw_below_drewN | apply below_drew1) | exact HB.out)) hb); have n1_ := Aside0.mk (hbox); have n2_ := Aside0.mk ((by rw [hg]; exact (below_size (by repeat (first | (with_reducible first | exact HB.out | apply below_alloc | apply pw_below_drewN | apply below_drew1) | exact HB.out))) : w.heap.size ≤ gb299)); have n3_ := Aside0.mk ((by rw [hg]; exact (below_size (by repeat (first | (with_reducible first | exact HB.out | apply below_alloc | apply pw_below_drewN | apply below_drew1) | exact HB.out))) : w.heap.size ≤ gb299)); clear HB; have HB := n0_; have BK299 := n1_; have GW299 := n2_; have GE299 := n3_; clear n0_ n1_ n2_ n3_; clear hb hbox hg; have hcz12_0 : w11.cell? ⟨gb299, 0, none⟩ = some (.bool a0_0) := (blk_cell BK299.out 0).trans rfl; have hcz12_1 : w11.cell? ⟨gb299, 1, none⟩ = some (.slice A0_1 l0_1.length c0_1) := (blk_cell BK299.out 1).trans rfl; have hcz12_2 : w11.cell? ⟨gb299, 2, none⟩ = some (.slice A0_2 l0_2.length c0_2) := (blk_cell BK299.out 2).trans rfl; have hfz12_0 := blk_frozen BK299.out 0; have hfz12_1 := blk_frozen BK299.out 1; have hfz12_2 := blk_frozen BK299.out 2) | ((with_reducible refine gate_callee (f := 10) rfl ?_); refine goesL_ (some 16) rfl rfl Tryz.func10 (by kernel_rfl) rfl #[.agg #[.bool a0_0, .slice A0_1 l0_1.length c0_1, .slice A0_2 l0_2.length c0_2]] rfl (by (try simp only [List.map_toArray, List.map_cons, List.map_nil]); first | done | rfl | (simp only [List.length_drop, List.length_take]; rfl)) ?_; (with_reducible refine (laws_zzFits1.calls a0_0 _ _ l0_1 _ _ l0_2 true _ ?side1 ?side2 ?side3 ?side4 A4.out).mono ?_); (case side1 => repeat (first | exact (Kd.C_below HR0_1.out HB.out) | (with_reducible refine Kd.C_alloc ?_ _) | (with_reducible refine Kd.C_drewN ?_ _) | (with_reducible refine Kd.C_drew ?_))); (case side2 => exact HC0_1.out); (case side3 => repeat (first | exact (Kd.C_below HR0_2.out HB.out) | (with_reducible refine Kd.C_alloc ?_ _) | (with_reducible refine Kd.C_drewN ?_ _) | (with_reducible refine Kd.C_drew ?_))); (case side4 => exact HC0_2.out); rintro e w13 ⟨rfl, hb⟩; refine ⟨_, rfl, ?_⟩; have n0_ := Aside0.mk (blk_below (g := gb299) (o := .cells #[.bool a0_0, .slice A0_1 l0_1.length c0_1, .slice A0_2 l0_2.length c0_2] 25 (0, 0)) (by (with_reducible repeat (first | refine blk_drewN ?_ _ | refine blk_drew ?_ | refine blk_alloc ?_ _)); exact BK299.out) hb); have n1_ := Aside0.mk (below_step (by repeat (first | (with_reducible first | exact HB.out | apply below_alloc | apply pw_below_drewN | apply below_drew1 | refine below_set ?_ GE299.out) | exact HB.out)) hb); clear BK299; clear HB; have BK299 := n0_; have HB := n1_; clear n0_ n1_; (try clear hb); (try clear hb2); (try clear hk); (try clear hi); have hcz14_0 : w13.cell? ⟨gb299, 0, none⟩ = some (.bool a0_0) := (blk_cell BK299.out 0).trans rfl; have hcz14_1 : w13.cell? ⟨gb299, 1, none⟩ = some (.slice A0_1 l0_1.length c0_1) := (blk_cell BK299.out 1).trans rfl; have hcz14_2 : w13.cell? ⟨gb299, 2, none⟩ = some (.slice A0_2 l0_2.length c0_2) := (blk_cell BK299.out 2).trans rfl; have hfz14_0 := blk_frozen BK299.out 0; have hfz14_1 := blk_frozen BK299.out 1; have hfz14_2 := blk_frozen BK299.out 2) | ((with_reducible refine gate_callee (f := 19) rfl ?_); refine goesL_ (some 19) rfl rfl Tryz.func19 (by kernel_rfl) rfl #[.agg #[.bool a0_0, .slice A0_1 l0_1.length c0_1, .slice A0_2 l0_2.length c0_2], .int .i64 30] rfl (by (try simp only [List.map_toArray, List.map_cons, List.map_nil]); first | done | rfl | (simp only [List.length_drop, List.length_take]; rfl)) ?_; (with_reducible refine (laws_sized.calls k a0_0 _ _ l0_1 _ _ l0_2 30 true _ ?side1 ?side2 ?side3 ?side4 A6.out).mono ?_); (case side1 => repeat (first | exact (Kd.C_below HR0_1.out HB.out) | (with_reducible refine Kd.C_alloc ?_ _) | (with_reducible refine Kd.C_drewN ?_ _) | (with_reducible refine Kd.C_drew ?_))); (case side2 => exact HC0_1.out); (case side3 => repeat (first | exact (Kd.C_below HR0_2.out HB.out) | (with_reducible refine Kd.C_alloc ?_ _) | (with_reducible refine Kd.C_drewN ?_ _) | (with_reducible refine Kd.C_drew ?_))); (case side4 => exact HC0_2.out); rintro e w15 ⟨rfl, hb⟩; refine ⟨_, rfl, ?_⟩; have n0_ := Aside0.mk (blk_below (g := gb299) (o := .cells #[.bool a0_0, .slice A0_1 l0_1.length c0_1, .slice A0_2 l0_2.length c0_2] 25 (0, 0)) (by (with_reducible repeat (first | refine blk_drewN ?_ _ | refine blk_drew ?_ | refine blk_alloc ?_ _)); exact BK299.out) hb); have n1_ := Aside0.mk (below_step (by repeat (first | (with_reducible first | exact HB.out | apply below_alloc | apply pw_below_drewN | apply below_drew1 | refine below_set ?_ GE299.out) | exact HB.out)) hb); clear BK299; clear HB; have BK299 := n0_; have HB := n1_; clear n0_ n1_; (try clear hb); (try clear hb2); (try clear hk); (try clear hi); have hcz16_0 : w15.cell? ⟨gb299, 0, none⟩ = some (.bool a0_0) := (blk_cell BK299.out 0).trans rfl; have hcz16_1 : w15.cell? ⟨gb299, 1, none⟩ = some (.slice A0_1 l0_1.length c0_1) := (blk_cell BK299.out 1).trans rfl; have hcz16_2 : w15.cell? ⟨gb299, 2, none⟩ = some (.slice A0_2 l0_2.length c0_2) := (blk_cell BK299.out 2).trans rfl; have hfz16_0 := blk_frozen BK299.out 0; have hfz16_1 := blk_frozen BK299.out 1; have hfz16_2 := blk_frozen BK299.out 2) | ((with_reducible refine gate_callee (f := 21) rfl ?_); refine goesL_ (some 26) rfl rfl Tryz.func21 (by kernel_rfl) rfl #[.agg #[.bool a0_0, .slice A0_1 l0_1.length c0_1, .slice A0_2 l0_2.length c0_2], .int .i64 a1, .int .i64 a2, .slice none 0 0] rfl (by (try simp only [List.map_toArray, List.map_cons, List.map_nil]); first | done | rfl | (simp only [List.length_drop, List.length_take]; rfl)) ?_; (refine (impl_BreadthFirst.calls a0_0 _ _ l0_1 _ _ l0_2 a1 a2 _ _ ([] : List (S38)) t303 t306 t307 t308 _ ?side1 ?side2 ?side3 ?side4 ?side5 ?side6 A8.out).mono ?_); (case side1 => repeat (first | exact (Kd.C_below HR0_1.out HB.out) | (with_reducible refine Kd.C_alloc ?_ _) | (with_reducible refine Kd.C_drewN ?_ _) | (with_reducible refine Kd.C_drew ?_))); (case side2 => exact HC0_1.out); (case side3 => repeat (first | exact (Kd.C_below HR0_2.out HB.out) | (with_reducible refine Kd.C_alloc ?_ _) | (with_reducible refine Kd.C_drewN ?_ _) | (with_reducible refine Kd.C_drew ?_))); (case side4 => exact HC0_2.out); (case side5 => exact Kd.C_nil _ _); (case side6 => exact Nat.le_refl _); rintro e w17 ⟨v304, rfl, ho0, hb⟩; refine ⟨_, rfl, ?_⟩; have n0_ := Aside0.mk (Kd.R_lower ho0 (below_size (by repeat (first | (with_reducible first | exact HB.out | apply below_alloc | apply pw_below_drewN | apply below_drew1 | refine below_set ?_ GE299.out) | exact HB.out)))); have n1_ := Aside0.mk (blk_below (g := gb299) (o := .cells #[.bool a0_0, .slice A0_1 l0_1.length c0_1, .slice A0_2 l0_2.length c0_2] 25 (0, 0)) (by (with_reducible repeat (first | refine blk_drewN ?_ _ | refine blk_drew ?_ | refine blk_alloc ?_ _)); exact BK299.out) hb); have n2_ := Aside0.mk (below_step (by repeat (first | (with_reducible first | exact HB.out | apply below_alloc | apply pw_below_drewN | apply below_drew1 | refine below_set ?_ GE299.out) | exact HB.out)) hb); clear BK299; clear HB; have HO305 := n0_; have BK299 := n1_; have HB := n2_; clear n0_ n1_ n2_; (try clear hb); (try clear hb2); (try clear hk); (try clear hi); (try clear ho0); have hcz18_0 : w17.cell? ⟨gb299, 0, none⟩ = some (.bool a0_0) := (blk_cell BK299.out 0).trans rfl; have hcz18_1 : w17.cell? ⟨gb299, 1, none⟩ = some (.slice A0_1 l0_1.length c0_1) := (blk_cell BK299.out 1).trans rfl; have hcz18_2 : w17.cell? ⟨gb299, 2, none⟩ = some (.slice A0_2 l0_2.length c0_2) := (blk_cell BK299.out 2).trans rfl; have hfz18_0 := blk_frozen BK299.out 0; have hfz18_1 := blk_frozen BK299.out 1; have hfz18_2 := blk_frozen BK299.out 2) | ((with_reducible refine gate_callee (f := 22) rfl ?_); refine goesL_ (some 35) rfl rfl Tryz.func22 (by kernel_rfl) rfl #[.agg #[.bool a0_0, .slice A0_1 l0_1.length c0_1, .slice A0_2 l0_2.length c0_2], .int .i64 a1, .int .i64 a2, .slice none 0 0] rfl (by (try simp only [List.map_toArray, List.map_cons, List.map_nil]); first | done | rfl | (simp only [List.length_drop, List.length_take]; rfl)) ?_; (refine (impl_DepthFirst.calls a0_0 _ _ l0_1 _ _ l0_2 a1 a2 _ _ ([] : List (S38)) t309 t312 t313 t314 _ ?side1 ?side2 ?side3 ?side4 ?side5 ?side6 A9.out).mono ?_); (case side1 => repeat (first | exact (Kd.C_below HR0_1.out HB.out) | (with_reducible refine Kd.C_alloc ?_ _) | (with_reducible refine Kd.C_drewN ?_ _) | (with_reducible refine Kd.C_drew ?_))); (case side2 => exact HC0_1.out); (case side3 => repeat (first | exact (Kd.C_below HR0_2.out HB.out) | (with_reducible refine Kd.C_alloc ?_ _) | (with_reducible refine Kd.C_drewN ?_ _) | (with_reducible refine Kd.C_drew ?_))); (case side4 => exact HC0_2.out); (case side5 => exact Kd.C_nil _ _); (case side6 => exact Nat.le_refl _); rintro e w19 ⟨v310, rfl, ho0, hb⟩; refine ⟨_, rfl, ?_⟩; have n0_ := Aside0.mk (Kd.R_below (by (with_reducible repeat (first | apply Kd.R_alloc | apply Kd.R_drewN | apply Kd.R_drew)); exact HO305.out) hb); have n1_ := Aside0.mk (Kd.R_lower ho0 (below_size (by repeat (first | (with_reducible first | exact HB.out | apply below_alloc | apply pw_below_drewN | apply below_drew1 | refine below_set ?_ GE299.out) | exact HB.out)))); have n2_ := Aside0.mk (blk_below (g := gb299) (o := .cells #[.bool a0_0, .slice A0_1 l0_1.length c0_1, .slice A0_2 l0_2.length c0_2] 25 (0, 0)) (by (with_reducible repeat (first | refine blk_drewN ?_ _ | refine blk_drew ?_ | refine blk_alloc ?_ _)); exact BK299.out) hb); have n3_ := Aside0.mk (below_step (by repeat (first | (with_reducible first | exact HB.out | apply below_alloc | apply pw_below_drewN | apply below_drew1 | refine below_set ?_ GE299.out) | exact HB.out)) hb); clear HO305; clear BK299; clear HB; have HO305 := n0_; have HO311 := n1_; have BK299 := n2_; have HB := n3_; clear n0_ n1_ n2_ n3_; (try clear hb); (try clear hb2); (try clear hk); (try clear hi); (try clear ho0)))
      (try simp only [Act.put, List.setIfInBounds_toArray, List.set_cons_zero, List.set_cons_succ])
      go_cut [47] (fun v47 wc => ∃ (kq : Nat) (x47_9 : Bool), v47 = .bool x47_9 ∧ Aside0 (laws_FnWalkBad.j0 kq t303 t307 t308 t309 t313 t314 x47_9 = some r) ∧ Aside0 (kq ≤ k) ∧ Aside0 (Kd.R k99 99 wc w.heap.size (fun _ => True) v304 t303) ∧ Aside0 (Kd.R (Kd.int .i64) 3 wc w.heap.size (fun _ => True) v310 t309) ∧ Aside0 (wc.heap[gb299]? = some (.cells #[.bool a0_0, (.slice A0_1 l0_1.length c0_1), (.slice A0_2 l0_2.length c0_2)] 25 (0, 0))) ∧ Aside0 (Below w.heap.size w wc))
      case first =>
        have H := HC10.out
        clear HC10
        replace H := Option.bind_eq_some_iff.mp H
        obtain ⟨t315, A200, H⟩ := H
        replace H : (if t315 = true then ((slices_Contains_int_int.f k l0_1 a1).bind fun t316 => (laws_FnWalkBad.j0 k t303 t307 t308 t309 t313 t314 t316)) else (laws_FnWalkBad.j0 k t303 t307 t308 t309 t313 t314 false)) = some r := H
        have A20 := Aside0.mk A200
        clear A200
        by_cases c21 : t315 = true
        · subst c21
          have H1 : ((slices_Contains_int_int.f k l0_1 a1).bind fun t316 => (laws_FnWalkBad.j0 k t303 t307 t308 t309 t313 t314 t316)) = some r := by rw [if_pos rfl] at H; exact H
          clear H
          have H := H1
          clear H1
          replace H := Option.bind_eq_some_iff.mp H
          obtain ⟨t316, A220, H⟩ := H
          replace H : (laws_FnWalkBad.j0 k t303 t307 t308 t309 t313 t314 t316) = some r := H
          have A22 := Aside0.mk A220
          clear A220
          have H' := Aside0.mk H
          clear H
          have hcz23_0 : w19.cell? ⟨gb299, 0, none⟩ = some (.bool a0_0) := (blk_cell BK299.out 0).trans rfl
          have hcz23_1 : w19.cell? ⟨gb299, 1, none⟩ = some (.slice A0_1 l0_1.length c0_1) := (blk_cell BK299.out 1).trans rfl
          have hcz23_2 : w19.cell? ⟨gb299, 2, none⟩ = some (.slice A0_2 l0_2.length c0_2) := (blk_cell BK299.out 2).trans rfl
          have hfz23_0 := blk_frozen BK299.out 0
          have hfz23_1 := blk_frozen BK299.out 1
          have hfz23_2 := blk_frozen BK299.out 2
          go_wp2_with (first | ((with_reducible refine gate_callee (f := 23) rfl ?_); refine goesL_ (some 41) rfl rfl Tryz.func23 (by kernel_rfl) rfl #[.agg #[.bool a0_0, .slice A0_1 l0_1.length c0_1, .slice A0_2 l0_2.length c0_2]] rfl (by (try simp only [List.map_toArray, List.map_cons, List.map_nil]); first | done | rfl | (simp only [List.length_drop, List.length_take]; rfl)) ?_; (with_reducible refine (laws_formed.calls k a0_0 _ _ l0_1 _ _ l0_2 true _ ?side1 ?side2 ?side3 ?side4 A20.out).mono ?_); (case side1 => repeat (first | exact (Kd.C_below HR0_1.out HB.out) | (with_reducible refine Kd.C_alloc ?_ _) | (with_reducible refine Kd.C_drewN ?_ _) | (with_reducible refine Kd.C_drew ?_))); (case side2 => exact HC0_1.out); (case side3 => repeat (first | exact (Kd.C_below HR0_2.out HB.out) | (with_reducible refine Kd.C_alloc ?_ _) | (with_reducible refine Kd.C_drewN ?_ _) | (with_reducible refine Kd.C_drew ?_))); (case side4 => exact HC0_2.out); rintro e w24 ⟨rfl, hb⟩; refine ⟨_, rfl, ?_⟩; have n0_ := Aside0.mk (Kd.R_below (by (with_reducible repeat (first | apply Kd.R_alloc | apply Kd.R_drewN | apply Kd.R_drew)); exact HO305.out) hb); have n1_ := Aside0.mk (Kd.R_below (by (with_reducible repeat (first | apply Kd.R_alloc | apply Kd.R_drewN | apply Kd.R_drew)); exact HO311.out) hb); have n2_ := Aside0.mk (blk_below (g := gb299) (o := .cells #[.bool a0_0, .slice A0_1 l0_1.length c0_1, .slice A0_2 l0_2.length c0_2] 25 (0, 0)) (by (with_reducible repeat (first | refine blk_drewN ?_ _ | refine blk_drew ?_ | refine blk_alloc ?_ _)); exact BK299.out) hb); have n3_ := Aside0.mk (below_step (by repeat (first | (with_reducible first | exact HB.out | apply below_alloc | apply pw_below_drewN | apply below_drew1 | refine below_set ?_ GE299.out) | exact HB.out)) hb); clear HO305; clear HO311; clear BK299; clear HB; have HO305 := n0_; have HO311 := n1_; have BK299 := n2_; have HB := n3_; clear n0_ n1_ n2_ n3_; (try clear hb); (try clear hb2); (try clear hk); (try clear hi); have hcz25_0 : w24.cell? ⟨gb299, 0, none⟩ = some (.bool a0_0) := (blk_cell BK299.out 0).trans rfl; have hcz25_1 : w24.cell? ⟨gb299, 1, none⟩ = some (.slice A0_1 l0_1.length c0_1) := (blk_cell BK299.out 1).trans rfl; have hcz25_2 : w24.cell? ⟨gb299, 2, none⟩ = some (.slice A0_2 l0_2.length c0_2) := (blk_cell BK299.out 2).trans rfl; have hfz25_0 := blk_frozen BK299.out 0; have hfz25_1 := blk_frozen BK299.out 1; have hfz25_2 := blk_frozen BK299.out 2) | (go_at_call 24; (with_reducible refine (slices_Contains_int_int.calls k _ _ l0_1 a1 t316 _ ?side1 ?side2 A22.out).mono ?_); (case side1 => repeat (first | exact (Kd.C_below HR0_1.out HB.out) | (with_reducible refine Kd.C_alloc ?_ _) | (with_reducible refine Kd.C_drewN ?_ _) | (with_reducible refine Kd.C_drew ?_))); (case side2 => exact HC0_1.out); rintro e w' ⟨rfl, ⟨nd, rfl⟩⟩))
          go_meet
          case rel => exact ⟨_, (t316), (by first | rfl | (simp; done) | (simp [*]; done)), H', ⟨by first | omega | exact Nat.le_refl _⟩, ⟨by (with_reducible repeat (first | apply Kd.R_alloc | apply Kd.R_drewN | apply Kd.R_drew)); exact HO305.out⟩, ⟨by (with_reducible repeat (first | apply Kd.R_alloc | apply Kd.R_drewN | apply Kd.R_drew)); exact HO311.out⟩, ⟨by (with_reducible repeat (first | refine blk_drewN ?_ _ | refine blk_drew ?_ | refine blk_alloc ?_ _)); exact BK299.out⟩, ⟨by repeat (first | (with_reducible first | exact HB.out | apply below_alloc | apply pw_below_drewN | apply below_drew1 | refine below_set ?_ GE299.out) | exact HB.out)⟩⟩
        · replace c21 := Bool.eq_false_iff.mpr c21
          subst c21
          have H1 : (laws_FnWalkBad.j0 k t303 t307 t308 t309 t313 t314 false) = some r := by rw [if_neg (show ¬ (false = true) by decide)] at H; exact H
          clear H
          have H := H1
          clear H1
          have H' := Aside0.mk H
          clear H
          have hcz26_0 : w19.cell? ⟨gb299, 0, none⟩ = some (.bool a0_0) := (blk_cell BK299.out 0).trans rfl
          have hcz26_1 : w19.cell? ⟨gb299, 1, none⟩ = some (.slice A0_1 l0_1.length c0_1) := (blk_cell BK299.out 1).trans rfl
          have hcz26_2 : w19.cell? ⟨gb299, 2, none⟩ = some (.slice A0_2 l0_2.length c0_2) := (blk_cell BK299.out 2).trans rfl
          have hfz26_0 := blk_frozen BK299.out 0
          have hfz26_1 := blk_frozen BK299.out 1
          have hfz26_2 := blk_frozen BK299.out 2
          go_wp2_with (first | ((with_reducible refine gate_callee (f := 23) rfl ?_); refine goesL_ (some 41) rfl rfl Tryz.func23 (by kernel_rfl) rfl #[.agg #[.bool a0_0, .slice A0_1 l0_1.length c0_1, .slice A0_2 l0_2.length c0_2]] rfl (by (try simp only [List.map_toArray, List.map_cons, List.map_nil]); first | done | rfl | (simp only [List.length_drop, List.length_take]; rfl)) ?_; (with_reducible refine (laws_formed.calls k a0_0 _ _ l0_1 _ _ l0_2 false _ ?side1 ?side2 ?side3 ?side4 A20.out).mono ?_); (case side1 => repeat (first | exact (Kd.C_below HR0_1.out HB.out) | (with_reducible refine Kd.C_alloc ?_ _) | (with_reducible refine Kd.C_drewN ?_ _) | (with_reducible refine Kd.C_drew ?_))); (case side2 => exact HC0_1.out); (case side3 => repeat (first | exact (Kd.C_below HR0_2.out HB.out) | (with_reducible refine Kd.C_alloc ?_ _) | (with_reducible refine Kd.C_drewN ?_ _) | (with_reducible refine Kd.C_drew ?_))); (case side4 => exact HC0_2.out); rintro e w27 ⟨rfl, hb⟩; refine ⟨_, rfl, ?_⟩; have n0_ := Aside0.mk (Kd.R_below (by (with_reducible repeat (first | apply Kd.R_alloc | apply Kd.R_drewN | apply Kd.R_drew)); exact HO305.out) hb); have n1_ := Aside0.mk (Kd.R_below (by (with_reducible repeat (first | apply Kd.R_alloc | apply Kd.R_drewN | apply Kd.R_drew)); exact HO311.out) hb); have n2_ := Aside0.mk (blk_below (g := gb299) (o := .cells #[.bool a0_0, .slice A0_1 l0_1.length c0_1, .slice A0_2 l0_2.length c0_2] 25 (0, 0)) (by (with_reducible repeat (first | refine blk_drewN ?_ _ | refine blk_drew ?_ | refine blk_alloc ?_ _)); exact BK299.out) hb); have n3_ := Aside0.mk (below_step (by repeat (first | (with_reducible first | exact HB.out | apply below_alloc | apply pw_below_drewN | apply below_drew1 | refine below_set ?_ GE299.out) | exact HB.out)) hb); clear HO305; clear HO311; clear BK299; clear HB; have HO305 := n0_; have HO311 := n1_; have BK299 := n2_; have HB := n3_; clear n0_ n1_ n2_ n3_; (try clear hb); (try clear hb2); (try clear hk); (try clear hi)))
          go_meet
          case rel => exact ⟨_, (false), (by first | rfl | (simp; done) | (simp [*]; done)), H', ⟨by first | omega | exact Nat.le_refl _⟩, ⟨by (with_reducible repeat (first | apply Kd.R_alloc | apply Kd.R_drewN | apply Kd.R_drew)); exact HO305.out⟩, ⟨by (with_reducible repeat (first | apply Kd.R_alloc | apply Kd.R_drewN | apply Kd.R_drew)); exact HO311.out⟩, ⟨by (with_reducible repeat (first | refine blk_drewN ?_ _ | refine blk_drew ?_ | refine blk_alloc ?_ _)); exact BK299.out⟩, ⟨by repeat (first | (with_reducible first | exact HB.out | apply below_alloc | apply pw_below_drewN | apply below_drew1 | refine below_set ?_ GE299.out) | exact HB.out)⟩⟩
      case rest =>
        clear HC10
        try clear c1
        try clear c2
        try clear p2
        try clear c5
        try clear c7
        try clear c10
        try clear c19
        try clear c21
        try clear c22
        try clear c23
        try clear hcz12_0
        try clear hcz12_1
        try clear hcz12_2
        try clear hcz14_0
        try clear hcz14_1
        try clear hcz14_2
        try clear hcz16_0
        try clear hcz16_1
        try clear hcz16_2
        try clear hcz18_0
        try clear hcz18_1
        try clear hcz18_2
        try clear hcz23_0
        try clear hcz23_1
        try clear hcz23_2
        try clear hcz25_0
        try clear hcz25_1
        try clear hcz25_2
        try clear hcz26_0
        try clear hcz26_1
        try clear hcz26_2
        try clear hfz12_0
        try clear hfz12_1
        try clear hfz12_2
        try clear hfz14_0
        try clear hfz14_1
        try clear hfz14_2
        try clear hfz16_0
        try clear hfz16_1
        try clear hfz16_2
        try clear hfz18_0
        try clear hfz18_1
        try clear hfz18_2
        try clear hfz23_0
        try clear hfz23_1
        try clear hfz23_2
        try clear hfz25_0
        try clear hfz25_1
        try clear hfz25_2
        try clear hfz26_0
        try clear hfz26_1
        try clear hfz26_2
        obtain ⟨kq, x47_9, rfl, HA, HJ9, HO_7, HO_11, BK299, HB⟩ := hcut
        cases kq with
        | zero => exact absurd HA.out (by simp [laws_FnWalkBad.j0])
        | succ kj9 =>
          have H := HA.out
          clear HA
          simp only [laws_FnWalkBad.j0] at H
          by_cases c28 : x47_9 = true
          · subst c28
            have H1 : (if t308 = true then (some false) else (if t314 = true then (some false) else ((laws_walksOne.f kj9).bind fun t317 => (some t317)))) = some r := by rw [if_pos rfl] at H; exact H
            clear H
            have H := H1
            clear H1
            by_cases c29 : t308 = true
            · subst c29
              have H1 : (some false) = some r := by rw [if_pos rfl] at H; exact H
              clear H
              have H := H1
              clear H1
              obtain rfl := Option.some.inj H
              go_wp2
              go_ret
              exact ⟨by first | rfl | (simp [errW_none, errW_some] <;> rfl) | (simp [*, errW_none, errW_some] <;> rfl), by repeat (first | (with_reducible first | exact HB.out | apply below_alloc | apply pw_below_drewN | apply below_drew1 | refine below_set ?_ GE299.out) | exact HB.out)⟩
            · replace c29 := Bool.eq_false_iff.mpr c29
              subst c29
              have H1 : (if t314 = true then (some false) else ((laws_walksOne.f kj9).bind fun t317 => (some t317))) = some r := by rw [if_neg (show ¬ (false = true) by decide)] at H; exact H
              clear H
              have H := H1
              clear H1
              by_cases c30 : t314 = true
              · subst c30
                have H1 : (some false) = some r := by rw [if_pos rfl] at H; exact H
                clear H
                have H := H1
                clear H1
                obtain rfl := Option.some.inj H
                go_wp2
                go_ret
                exact ⟨by first | rfl | (simp [errW_none, errW_some] <;> rfl) | (simp [*, errW_none, errW_some] <;> rfl), by repeat (first | (with_reducible first | exact HB.out | apply below_alloc | apply pw_below_drewN | apply below_drew1 | refine below_set ?_ GE299.out) | exact HB.out)⟩
              · replace c30 := Bool.eq_false_iff.mpr c30
                subst c30
                have H1 : ((laws_walksOne.f kj9).bind fun t317 => (some t317)) = some r := by rw [if_neg (show ¬ (false = true) by decide)] at H; exact H
                clear H
                have H := H1
                clear H1
                replace H := Option.bind_eq_some_iff.mp H
                obtain ⟨t317, A310, H⟩ := H
                replace H : (some t317) = some r := H
                have A31 := Aside0.mk A310
                clear A310
                obtain rfl := Option.some.inj H
                go_wp2_with (first | (go_at_call 20; (with_reducible refine (laws_walksOne.calls kj9  t317 _ A31.out).mono ?_); rintro e w32 ⟨rfl, hb⟩; have n0_ := Aside0.mk (Kd.R_below (by (with_reducible repeat (first | apply Kd.R_alloc | apply Kd.R_drewN | apply Kd.R_drew)); exact HO_7.out) hb); have n1_ := Aside0.mk (Kd.R_below (by (with_reducible repeat (first | apply Kd.R_alloc | apply Kd.R_drewN | apply Kd.R_drew)); exact HO_11.out) hb); have n2_ := Aside0.mk (blk_below (g := gb299) (o := .cells #[.bool a0_0, .slice A0_1 l0_1.length c0_1, .slice A0_2 l0_2.length c0_2] 25 (0, 0)) (by (with_reducible repeat (first | refine blk_drewN ?_ _ | refine blk_drew ?_ | refine blk_alloc ?_ _)); exact BK299.out) hb); have n3_ := Aside0.mk (below_step (by repeat (first | (with_reducible first | exact HB.out | apply below_alloc | apply pw_below_drewN | apply below_drew1 | refine below_set ?_ GE299.out) | exact HB.out)) hb); clear HO_7; clear HO_11; clear BK299; clear HB; have HO_7 := n0_; have HO_11 := n1_; have BK299 := n2_; have HB := n3_; clear n0_ n1_ n2_ n3_; (try clear hb); (try clear hb2); (try clear hk); (try clear hi)))
                go_ret
                exact ⟨by first | rfl | (simp [errW_none, errW_some] <;> rfl) | (simp [*, errW_none, errW_some] <;> rfl), by repeat (first | (with_reducible first | exact HB.out | apply below_alloc | apply pw_below_drewN | apply below_drew1 | refine below_set ?_ GE299.out) | exact HB.out)⟩
          · replace c28 := Bool.eq_false_iff.mpr c28
            subst c28
            have H1 : (if t308 = true then (if t314 = true then (if t307 = true then (some false) else (if t313 = true then (some false) else (if (wrap64 ((t303.length : Int) + (t309.length : Int))) = 0 then ((laws_walksOne.f kj9).bind fun t318 => (some t318)) else (some false)))) else (some false)) else (some false)) = some r := by rw [if_neg (show ¬ (false = true) by decide)] at H; exact H
            clear H
            have H := H1
            clear H1
            by_cases c33 : t308 = true
            · subst c33
              have H1 : (if t314 = true then (if t307 = true then (some false) else (if t313 = true then (some false) else (if (wrap64 ((t303.length : Int) + (t309.length : Int))) = 0 then ((laws_walksOne.f kj9).bind fun t318 => (some t318)) else (some false)))) else (some false)) = some r := by rw [if_pos rfl] at H; exact H
              clear H
              have H := H1
              clear H1
              by_cases c34 : t314 = true
              · subst c34
                have H1 : (if t307 = true then (some false) else (if t313 = true then (some false) else (if (wrap64 ((t303.length : Int) + (t309.length : Int))) = 0 then ((laws_walksOne.f kj9).bind fun t318 => (some t318)) else (some false)))) = some r := by rw [if_pos rfl] at H; exact H
                clear H
                have H := H1
                clear H1
                by_cases c35 : t307 = true
                · subst c35
                  have H1 : (some false) = some r := by rw [if_pos rfl] at H; exact H
                  clear H
                  have H := H1
                  clear H1
                  obtain rfl := Option.some.inj H
                  go_wp2
                  go_ret
                  exact ⟨by first | rfl | (simp [errW_none, errW_some] <;> rfl) | (simp [*, errW_none, errW_some] <;> rfl), by repeat (first | (with_reducible first | exact HB.out | apply below_alloc | apply pw_below_drewN | apply below_drew1 | refine below_set ?_ GE299.out) | exact HB.out)⟩
                · replace c35 := Bool.eq_false_iff.mpr c35
                  subst c35
                  have H1 : (if t313 = true then (some false) else (if (wrap64 ((t303.length : Int) + (t309.length : Int))) = 0 then ((laws_walksOne.f kj9).bind fun t318 => (some t318)) else (some false))) = some r := by rw [if_neg (show ¬ (false = true) by decide)] at H; exact H
                  clear H
                  have H := H1
                  clear H1
                  by_cases c36 : t313 = true
                  · subst c36
                    have H1 : (some false) = some r := by rw [if_pos rfl] at H; exact H
                    clear H
                    have H := H1
                    clear H1
                    obtain rfl := Option.some.inj H
                    go_wp2
                    go_ret
                    exact ⟨by first | rfl | (simp [errW_none, errW_some] <;> rfl) | (simp [*, errW_none, errW_some] <;> rfl), by repeat (first | (with_reducible first | exact HB.out | apply below_alloc | apply pw_below_drewN | apply below_drew1 | refine below_set ?_ GE299.out) | exact HB.out)⟩
                  · replace c36 := Bool.eq_false_iff.mpr c36
                    subst c36
                    have H1 : (if (wrap64 ((t303.length : Int) + (t309.length : Int))) = 0 then ((laws_walksOne.f kj9).bind fun t318 => (some t318)) else (some false)) = some r := by rw [if_neg (show ¬ (false = true) by decide)] at H; exact H
                    clear H
                    have H := H1
                    clear H1
                    by_cases c37 : (wrap64 ((t303.length : Int) + (t309.length : Int))) = 0
                    · rw [if_pos c37] at H
                      have c37b0 : ((wrap64 ((t303.length : Int) + (t309.length : Int))) == 0) = true := beq_iff_eq.mpr c37
                      have c37b1 : ((wrap64 ((t303.length : Int) + (t309.length : Int))) != 0) = false := bne_eq_false_iff_eq.mpr c37
                      clear c37
                      replace H := Option.bind_eq_some_iff.mp H
                      obtain ⟨t318, A380, H⟩ := H
                      replace H : (some t318) = some r := H
                      have A38 := Aside0.mk A380
                      clear A380
                      obtain rfl := Option.some.inj H
                      obtain ⟨Ao39, co39, eo39⟩ := Kd.R_slice HO_7.out
                      subst eo39
                      obtain ⟨Ao40, co40, eo40⟩ := Kd.R_slice HO_11.out
                      subst eo40
                      go_wp2_with (first | (go_at_call 20; (with_reducible refine (laws_walksOne.calls kj9  t318 _ A38.out).mono ?_); rintro e w41 ⟨rfl, hb⟩; have n0_ := Aside0.mk (Kd.R_below (by (with_reducible repeat (first | apply Kd.R_alloc | apply Kd.R_drewN | apply Kd.R_drew)); exact HO_7.out) hb); have n1_ := Aside0.mk (Kd.R_below (by (with_reducible repeat (first | apply Kd.R_alloc | apply Kd.R_drewN | apply Kd.R_drew)); exact HO_11.out) hb); have n2_ := Aside0.mk (blk_below (g := gb299) (o := .cells #[.bool a0_0, .slice A0_1 l0_1.length c0_1, .slice A0_2 l0_2.length c0_2] 25 (0, 0)) (by (with_reducible repeat (first | refine blk_drewN ?_ _ | refine blk_drew ?_ | refine blk_alloc ?_ _)); exact BK299.out) hb); have n3_ := Aside0.mk (below_step (by repeat (first | (with_reducible first | exact HB.out | apply below_alloc | apply pw_below_drewN | apply below_drew1 | refine below_set ?_ GE299.out) | exact HB.out)) hb); clear HO_7; clear HO_11; clear BK299; clear HB; have HO_7 := n0_; have HO_11 := n1_; have BK299 := n2_; have HB := n3_; clear n0_ n1_ n2_ n3_; (try clear hb); (try clear hb2); (try clear hk); (try clear hi)))
                      go_ret
                      exact ⟨by first | rfl | (simp [errW_none, errW_some] <;> rfl) | (simp [*, errW_none, errW_some] <;> rfl), by repeat (first | (with_reducible first | exact HB.out | apply below_alloc | apply pw_below_drewN | apply below_drew1 | refine below_set ?_ GE299.out) | exact HB.out)⟩
                    · rw [if_neg c37] at H
                      have c37b0 : ((wrap64 ((t303.length : Int) + (t309.length : Int))) == 0) = false := beq_eq_false_iff_ne.mpr c37
                      have c37b1 : ((wrap64 ((t303.length : Int) + (t309.length : Int))) != 0) = true := bne_iff_ne.mpr c37
                      obtain rfl := Option.some.inj H
                      obtain ⟨Ao42, co42, eo42⟩ := Kd.R_slice HO_7.out
                      subst eo42
                      obtain ⟨Ao43, co43, eo43⟩ := Kd.R_slice HO_11.out
                      subst eo43
                      go_wp2
                      go_ret
                      exact ⟨by first | rfl | (simp [errW_none, errW_some] <;> rfl) | (simp [*, errW_none, errW_some] <;> rfl), by repeat (first | (with_reducible first | exact HB.out | apply below_alloc | apply pw_below_drewN | apply below_drew1 | refine below_set ?_ GE299.out) | exact HB.out)⟩
              · replace c34 := Bool.eq_false_iff.mpr c34
                subst c34
                have H1 : (some false) = some r := by rw [if_neg (show ¬ (false = true) by decide)] at H; exact H
                clear H
                have H := H1
                clear H1
                obtain rfl := Option.some.inj H
                go_wp2
                go_ret
                exact ⟨by first | rfl | (simp [errW_none, errW_some] <;> rfl) | (simp [*, errW_none, errW_some] <;> rfl), by repeat (first | (with_reducible first | exact HB.out | apply below_alloc | apply pw_below_drewN | apply below_drew1 | refine below_set ?_ GE299.out) | exact HB.out)⟩
            · replace c33 := Bool.eq_false_iff.mpr c33
              subst c33
              have H1 : (some false) = some r := by rw [if_neg (show ¬ (false = true) by decide)] at H; exact H
              clear H
              have H := H1
              clear H1
              obtain rfl := Option.some.inj H
              go_wp2
              go_ret
              exact ⟨by first | rfl | (simp [errW_none, errW_some] <;> rfl) | (simp [*, errW_none, errW_some] <;> rfl), by repeat (first | (with_reducible first | exact HB.out | apply below_alloc | apply pw_below_drewN | apply below_drew1 | refine below_set ?_ GE299.out) | exact HB.out)⟩
    · replace c7 := Bool.eq_false_iff.mpr c7
      subst c7
      have H1 : ((laws_walksOne.f k).bind fun t302 => (some t302)) = some r := by rw [if_neg (show ¬ (false = true) by decide)] at H; exact H
      clear H
      have H := H1
      clear H1
      replace H := Option.bind_eq_some_iff.mp H
      obtain ⟨t302, A440, H⟩ := H
      replace H : (some t302) = some r := H
      have A44 := Aside0.mk A440
      clear A440
      obtain rfl := Option.some.inj H
      go_enter Tryz.func5, Tryz.ntmps5
      go_wp2_with (first | ((with_reducible refine gate_dst (N := 3) rfl ?_); (try (refine gate_guard (by rfl) ?_; dsimp only)); refine box_event ?hg (N := 3) ?hd (cs := #[.bool a0_0, .slice A0_1 l0_1.length c0_1, .slice A0_2 l0_2.length c0_2]) (t := 25) ?hr ?_; (case hd => rfl); (case hg => rfl); (case hr => first | (go_simp; done) | (go_simp; rfl)); intro gb299 hg w45 hbox hb; have n0_ := Aside0.mk (below_step (by repeat (first | (with_reducible first | exact HB.out | apply below_alloc | apply pw_below_drewN | apply below_drew1) | exact HB.out)) hb); have n1_ := Aside0.mk (hbox); have n2_ := Aside0.mk ((by rw [hg]; exact (below_size (by repeat (first | (with_reducible first | exact HB.out | apply below_alloc | apply pw_below_drewN | apply below_drew1) | exact HB.out))) : w.heap.size ≤ gb299)); have n3_ := Aside0.mk ((by rw [hg]; exact (below_size (by repeat (first | (with_reducible first | exact HB.out | apply below_alloc | apply pw_below_drewN | apply below_drew1) | exact HB.out))) : w.heap.size ≤ gb299)); clear HB; have HB := n0_; have BK299 := n1_; have GW299 := n2_; have GE299 := n3_; clear n0_ n1_ n2_ n3_; clear hb hbox hg; have hcz46_0 : w45.cell? ⟨gb299, 0, none⟩ = some (.bool a0_0) := (blk_cell BK299.out 0).trans rfl; have hcz46_1 : w45.cell? ⟨gb299, 1, none⟩ = some (.slice A0_1 l0_1.length c0_1) := (blk_cell BK299.out 1).trans rfl; have hcz46_2 : w45.cell? ⟨gb299, 2, none⟩ = some (.slice A0_2 l0_2.length c0_2) := (blk_cell BK299.out 2).trans rfl; have hfz46_0 := blk_frozen BK299.out 0; have hfz46_1 := blk_frozen BK299.out 1; have hfz46_2 := blk_frozen BK299.out 2) | ((with_reducible refine gate_callee (f := 10) rfl ?_); refine goesL_ (some 16) rfl rfl Tryz.func10 (by kernel_rfl) rfl #[.agg #[.bool a0_0, .slice A0_1 l0_1.length c0_1, .slice A0_2 l0_2.length c0_2]] rfl (by (try simp only [List.map_toArray, List.map_cons, List.map_nil]); first | done | rfl | (simp only [List.length_drop, List.length_take]; rfl)) ?_; (with_reducible refine (laws_zzFits1.calls a0_0 _ _ l0_1 _ _ l0_2 true _ ?side1 ?side2 ?side3 ?side4 A4.out).mono ?_); (case side1 => repeat (first | exact (Kd.C_below HR0_1.out HB.out) | (with_reducible refine Kd.C_alloc ?_ _) | (with_reducible refine Kd.C_drewN ?_ _) | (with_reducible refine Kd.C_drew ?_))); (case side2 => exact HC0_1.out); (case side3 => repeat (first | exact (Kd.C_below HR0_2.out HB.out) | (with_reducible refine Kd.C_alloc ?_ _) | (with_reducible refine Kd.C_drewN ?_ _) | (with_reducible refine Kd.C_drew ?_))); (case side4 => exact HC0_2.out); rintro e w47 ⟨rfl, hb⟩; refine ⟨_, rfl, ?_⟩; have n0_ := Aside0.mk (blk_below (g := gb299) (o := .cells #[.bool a0_0, .slice A0_1 l0_1.length c0_1, .slice A0_2 l0_2.length c0_2] 25 (0, 0)) (by (with_reducible repeat (first | refine blk_drewN ?_ _ | refine blk_drew ?_ | refine blk_alloc ?_ _)); exact BK299.out) hb); have n1_ := Aside0.mk (below_step (by repeat (first | (with_reducible first | exact HB.out | apply below_alloc | apply pw_below_drewN | apply below_drew1 | refine below_set ?_ GE299.out) | exact HB.out)) hb); clear BK299; clear HB; have BK299 := n0_; have HB := n1_; clear n0_ n1_; (try clear hb); (try clear hb2); (try clear hk); (try clear hi); have hcz48_0 : w47.cell? ⟨gb299, 0, none⟩ = some (.bool a0_0) := (blk_cell BK299.out 0).trans rfl; have hcz48_1 : w47.cell? ⟨gb299, 1, none⟩ = some (.slice A0_1 l0_1.length c0_1) := (blk_cell BK299.out 1).trans rfl; have hcz48_2 : w47.cell? ⟨gb299, 2, none⟩ = some (.slice A0_2 l0_2.length c0_2) := (blk_cell BK299.out 2).trans rfl; have hfz48_0 := blk_frozen BK299.out 0; have hfz48_1 := blk_frozen BK299.out 1; have hfz48_2 := blk_frozen BK299.out 2) | ((with_reducible refine gate_callee (f := 19) rfl ?_); refine goesL_ (some 19) rfl rfl Tryz.func19 (by kernel_rfl) rfl #[.agg #[.bool a0_0, .slice A0_1 l0_1.length c0_1, .slice A0_2 l0_2.length c0_2], .int .i64 30] rfl (by (try simp only [List.map_toArray, List.map_cons, List.map_nil]); first | done | rfl | (simp only [List.length_drop, List.length_take]; rfl)) ?_; (with_reducible refine (laws_sized.calls k a0_0 _ _ l0_1 _ _ l0_2 30 false _ ?side1 ?side2 ?side3 ?side4 A6.out).mono ?_); (case side1 => repeat (first | exact (Kd.C_below HR0_1.out HB.out) | (with_reducible refine Kd.C_alloc ?_ _) | (with_reducible refine Kd.C_drewN ?_ _) | (with_reducible refine Kd.C_drew ?_))); (case side2 => exact HC0_1.out); (case side3 => repeat (first | exact (Kd.C_below HR0_2.out HB.out) | (with_reducible refine Kd.C_alloc ?_ _) | (with_reducible refine Kd.C_drewN ?_ _) | (with_reducible refine Kd.C_drew ?_))); (case side4 => exact HC0_2.out); rintro e w49 ⟨rfl, hb⟩; refine ⟨_, rfl, ?_⟩; have n0_ := Aside0.mk (blk_below (g := gb299) (o := .cells #[.bool a0_0, .slice A0_1 l0_1.length c0_1, .slice A0_2 l0_2.length c0_2] 25 (0, 0)) (by (with_reducible repeat (first | refine blk_drewN ?_ _ | refine blk_drew ?_ | refine blk_alloc ?_ _)); exact BK299.out) hb); have n1_ := Aside0.mk (below_step (by repeat (first | (with_reducible first | exact HB.out | apply below_alloc | apply pw_below_drewN | apply below_drew1 | refine below_set ?_ GE299.out) | exact HB.out)) hb); clear BK299; clear HB; have BK299 := n0_; have HB := n1_; clear n0_ n1_; (try clear hb); (try clear hb2); (try clear hk); (try clear hi)) | ((with_reducible refine gate_callee (f := 20) rfl ?_); refine goesL_ (some 21) rfl rfl Tryz.func20 (by kernel_rfl) rfl #[] rfl (by (try simp only [List.map_toArray, List.map_cons, List.map_nil]); first | done | rfl | (simp only [List.length_drop, List.length_take]; rfl)) ?_; (with_reducible refine (laws_walksOne.calls k  t302 _ A44.out).mono ?_); rintro e w50 ⟨rfl, hb⟩; refine ⟨_, rfl, ?_⟩; have n0_ := Aside0.mk (blk_below (g := gb299) (o := .cells #[.bool a0_0, .slice A0_1 l0_1.length c0_1, .slice A0_2 l0_2.length c0_2] 25 (0, 0)) (by (with_reducible repeat (first | refine blk_drewN ?_ _ | refine blk_drew ?_ | refine blk_alloc ?_ _)); exact BK299.out) hb); have n1_ := Aside0.mk (below_step (by repeat (first | (with_reducible first | exact HB.out | apply below_alloc | apply pw_below_drewN | apply below_drew1 | refine below_set ?_ GE299.out) | exact HB.out)) hb); clear BK299; clear HB; have BK299 := n0_; have HB := n1_; clear n0_ n1_; (try clear hb); (try clear hb2); (try clear hk); (try clear hi)))
      go_ret
      exact ⟨by first | rfl | (simp [errW_none, errW_some] <;> rfl) | (simp [*, errW_none, errW_some] <;> rfl), by repeat (first | (with_reducible first | exact HB.out | apply below_alloc | apply pw_below_drewN | apply below_drew1 | refine below_set ?_ GE299.out) | exact HB.out)⟩
  · replace c5 := Bool.eq_false_iff.mpr c5
    subst c5
    have H1 : (some true) = some r := by rw [if_neg (show ¬ (false = true) by decide)] at H; exact H
    clear H
    have H := H1
    clear H1
    obtain rfl := Option.some.inj H
    go_enter Tryz.func5, Tryz.ntmps5
    go_wp2_with (first | ((with_reducible refine gate_dst (N := 3) rfl ?_); (try (refine gate_guard (by rfl) ?_; dsimp only)); refine box_event ?hg (N := 3) ?hd (cs := #[.bool a0_0, .slice A0_1 l0_1.length c0_1, .slice A0_2 l0_2.length c0_2]) (t := 25) ?hr ?_; (case hd => rfl); (case hg => rfl); (case hr => first | (go_simp; done) | (go_simp; rfl)); intro gb299 hg w51 hbox hb; have n0_ := Aside0.mk (below_step (by repeat (first | (with_reducible first | exact HB.out | apply below_alloc | apply pw_below_drewN | apply below_drew1) | exact HB.out)) hb); have n1_ := Aside0.mk (hbox); have n2_ := Aside0.mk ((by rw [hg]; exact (below_size (by repeat (first | (with_reducible first | exact HB.out | apply below_alloc | apply pw_below_drewN | apply below_drew1) | exact HB.out))) : w.heap.size ≤ gb299)); have n3_ := Aside0.mk ((by rw [hg]; exact (below_size (by repeat (first | (with_reducible first | exact HB.out | apply below_alloc | apply pw_below_drewN | apply below_drew1) | exact HB.out))) : w.heap.size ≤ gb299)); clear HB; have HB := n0_; have BK299 := n1_; have GW299 := n2_; have GE299 := n3_; clear n0_ n1_ n2_ n3_; clear hb hbox hg; have hcz52_0 : w51.cell? ⟨gb299, 0, none⟩ = some (.bool a0_0) := (blk_cell BK299.out 0).trans rfl; have hcz52_1 : w51.cell? ⟨gb299, 1, none⟩ = some (.slice A0_1 l0_1.length c0_1) := (blk_cell BK299.out 1).trans rfl; have hcz52_2 : w51.cell? ⟨gb299, 2, none⟩ = some (.slice A0_2 l0_2.length c0_2) := (blk_cell BK299.out 2).trans rfl; have hfz52_0 := blk_frozen BK299.out 0; have hfz52_1 := blk_frozen BK299.out 1; have hfz52_2 := blk_frozen BK299.out 2) | ((with_reducible refine gate_callee (f := 10) rfl ?_); refine goesL_ (some 16) rfl rfl Tryz.func10 (by kernel_rfl) rfl #[.agg #[.bool a0_0, .slice A0_1 l0_1.length c0_1, .slice A0_2 l0_2.length c0_2]] rfl (by (try simp only [List.map_toArray, List.map_cons, List.map_nil]); first | done | rfl | (simp only [List.length_drop, List.length_take]; rfl)) ?_; (with_reducible refine (laws_zzFits1.calls a0_0 _ _ l0_1 _ _ l0_2 false _ ?side1 ?side2 ?side3 ?side4 A4.out).mono ?_); (case side1 => repeat (first | exact (Kd.C_below HR0_1.out HB.out) | (with_reducible refine Kd.C_alloc ?_ _) | (with_reducible refine Kd.C_drewN ?_ _) | (with_reducible refine Kd.C_drew ?_))); (case side2 => exact HC0_1.out); (case side3 => repeat (first | exact (Kd.C_below HR0_2.out HB.out) | (with_reducible refine Kd.C_alloc ?_ _) | (with_reducible refine Kd.C_drewN ?_ _) | (with_reducible refine Kd.C_drew ?_))); (case side4 => exact HC0_2.out); rintro e w53 ⟨rfl, hb⟩; refine ⟨_, rfl, ?_⟩; have n0_ := Aside0.mk (blk_below (g := gb299) (o := .cells #[.bool a0_0, .slice A0_1 l0_1.length c0_1, .slice A0_2 l0_2.length c0_2] 25 (0, 0)) (by (with_reducible repeat (first | refine blk_drewN ?_ _ | refine blk_drew ?_ | refine blk_alloc ?_ _)); exact BK299.out) hb); have n1_ := Aside0.mk (below_step (by repeat (first | (with_reducible first | exact HB.out | apply below_alloc | apply pw_below_drewN | apply below_drew1 | refine below_set ?_ GE299.out) | exact HB.out)) hb); clear BK299; clear HB; have BK299 := n0_; have HB := n1_; clear n0_ n1_; (try clear hb); (try clear hb2); (try clear hk); (try clear hi)))
    go_ret
    exact ⟨by first | rfl | (simp [errW_none, errW_some] <;> rfl) | (simp [*, errW_none, errW_some] <;> rfl), by repeat (first | (with_reducible first | exact HB.out | apply below_alloc | apply pw_below_drewN | apply below_drew1 | refine below_set ?_ GE299.out) | exact HB.out)⟩

end Go.Proofs.YtfkmpnpliadohaaGreat.PL
