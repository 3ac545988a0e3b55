/- Printed by a program (the kit's printer, run over contracts that were proved by hand). -/
import Derived.Test.YtddklkgcodjijaaGreatAG0
import Derived.Test.YtddklkgcodjijaaGreatAG2
set_option linter.unusedVariables false
set_option linter.unusedSimpArgs false
namespace Go.Proofs.YtddklkgcodjijaaGreat.PL
open Go.RowKit Go.Proofs.YtddklkgcodjijaaGreatW.PrintWords Go.Proofs.YtddklkgcodjijaaGreatW.PrintLast Go.Proofs.YtddklkgcodjijaaGreatW.PrintMore
attribute [local go_sem] max2_int min2_int max_two min_two max_three min_three max_four min_four   -- for this text's walks alone

/-! ### laws_rising: function 64 -/
def laws_rising.l0 : Nat → List Int → Int → Option (Bool)
 | 0, _, _ => none
 | k + 1, x0, x3 => if x3 < (x0.length : Int) then (if 0 ≤ (wrap64 (x3 - 1)) then (if (wrap64 (x3 - 1)) < (x0.length : Int) then (if 0 ≤ x3 then (if (rd x0 (wrap64 (x3 - 1))) ≥ (rd x0 x3) then (some false) else (laws_rising.l0 k x0 (wrap64 (x3 + 1)))) else (none)) else (none)) else (none)) else (some true)
def laws_rising.f (k : Nat) (l0 : List Int) : Option (Bool) := laws_rising.l0 k l0 1
theorem laws_rising.mono_l : ∀ k, (∀ y0 y1, LeO (laws_rising.l0 k y0 y1) (laws_rising.l0 (k + 1) y0 y1))
 | 0 => fun _ _ r h => by simp [laws_rising.l0] at h
 | k + 1 => by
  have ih0 := laws_rising.mono_l k
  ·intro y0 y1
   unfold laws_rising.l0
   repeat' first
   | (with_reducible exact ih0 _ _)
   | (with_reducible exact LeO.refl _)
   | (with_reducible exact LeO.none _)
   | (with_reducible refine LeO.ite ?_ ?_)
   | (with_reducible refine LeO.bind ?_ (fun _ => ?_))
   | exact ih0 _ _
   | exact LeO.none _
   | refine LeO.ite ?_ ?_
   | refine LeO.bind ?_ (fun _ => ?_)
theorem laws_rising.mono : ∀ a0 k, LeO (laws_rising.f k a0) (laws_rising.f (k + 1) a0) := by
 intro a0 k
 have ih0 := laws_rising.mono_l k
 unfold laws_rising.f
 repeat' first
   | (with_reducible exact ih0 _ _)
   | (with_reducible exact LeO.refl _)
   | (with_reducible exact LeO.none _)
   | (with_reducible refine LeO.ite ?_ ?_)
   | (with_reducible refine LeO.bind ?_ (fun _ => ?_))
   | exact ih0 _ _
   | exact LeO.none _
   | refine LeO.ite ?_ ?_
   | refine LeO.bind ?_ (fun _ => ?_)
set_option maxHeartbeats 8000000 in
set_option maxRecDepth 100000 in
theorem laws_rising.calls (k : Nat) (A0 : Option Addr) (c0 : Nat) (l0 : List Int) (r : Bool) (w : World) (hr0 : Kd.C (Kd.int .i64) w A0 l0.length l0) (hc0 : l0.length ≤ c0) (h : laws_rising.f k l0 = some r) :
  Calls Tryz.prog 64 #[.slice A0 l0.length c0] w fun e w' => e = .returned (.bool r) ∧ Drawn0 w w' := by
 have HR0 := Aside0.mk hr0
 have HC0 := Aside0.mk hc0
 clear hr0 hc0
 have H : (laws_rising.l0 k l0 1) = some r := h
 clear h
 have H' := Aside0.mk H
 clear H
 go_enter Tryz.func64, Tryz.ntmps64
 go_wp2
 repeat (go_quiet (fail); try go_wp2)
 go_loopg [3] k (fun kq v3 w' => ∃ (x3_1 : Int), v3 = .int .i64 x3_1 ∧ Aside0 (laws_rising.l0 kq l0 x3_1 = some r) ∧ Aside0 (kq ≤ k) ∧ Drawn0 w w')
 case atStart => exact ⟨(1), (by first | rfl | (simp; done) | (simp [*]; done)), H', ⟨Nat.le_refl _⟩, by repeat (first | exact Drawn0.refl _ | apply Drawn0.step)⟩
 case round =>
  clear H'
  obtain ⟨x3_1, rfl, HA, HK1, ⟨m1, rfl⟩⟩ := hrel
  cases gk with
  | zero => exact absurd HA.out (by simp [laws_rising.l0])
  | succ k1 =>
   have H := HA.out
   clear HA
   simp only [laws_rising.l0] at H
   by_cases c2 : x3_1 < (l0.length : Int)
   ·rw [if_pos c2] at H
    have c2b0 : decide (x3_1 < (l0.length : Int)) = true := decide_eq_true c2
    clear c2
    obtain ⟨ji3, hji3⟩ : ∃ j_ : Int, (wrap64 (x3_1 - 1)) = j_ := ⟨_, rfl⟩
    replace H : (if 0 ≤ (ji3) then (if (ji3) < (l0.length : Int) then (if 0 ≤ x3_1 then (if (rd l0 (ji3)) ≥ (rd l0 x3_1) then (some false) else (laws_rising.l0 k1 l0 (wrap64 (x3_1 + 1)))) else (none)) else (none)) else (none)) = some r := by first | (rw [hji3] at H; exact H) | (simp only [hji3] at H ⊢; exact H)
    have hji3w : (IntKind.i64.wrap (x3_1 - 1)) = ji3 := (i64_w _).trans hji3
    by_cases c4 : 0 ≤ (ji3)
    ·rw [if_pos c4] at H
     have c4b0 : decide (0 ≤ (ji3)) = true := decide_eq_true c4
     clear c4
     by_cases c5 : (ji3) < (l0.length : Int)
     ·rw [if_pos c5] at H
      have c5b0 : decide ((ji3) < (l0.length : Int)) = true := decide_eq_true c5
      clear c5
      by_cases c6 : 0 ≤ x3_1
      ·rw [if_pos c6] at H
       have c6b0 : decide (0 ≤ x3_1) = true := decide_eq_true c6
       clear c6
       by_cases c7 : (rd l0 (ji3)) ≥ (rd l0 x3_1)
       ·rw [if_pos c7] at H
        have c7b0 : decide ((rd l0 x3_1) ≤ (rd l0 (ji3))) = true := decide_eq_true c7
        clear c7
        obtain rfl := Option.some.inj H
        have p111 : 0 ≤ ((ji3) : Int) := of_decide_eq_true (by first | (with_reducible assumption) | assumption)
        have q111 : (ji3) < (l0.length : Int) := of_decide_eq_true (by first | (with_reducible assumption) | assumption)
        obtain ⟨ad111, e111, hx111_0⟩ := Kd.at_int HR0.out (ji3) p111 q111
        cases e111
        replace p111 := eq_true p111
        replace q111 := eq_true q111
        have p112 : 0 ≤ (x3_1 : Int) := of_decide_eq_true (by first | (with_reducible assumption) | assumption)
        have q112 : x3_1 < (l0.length : Int) := of_decide_eq_true (by first | (with_reducible assumption) | assumption)
        obtain ⟨ad112, e112, hx112_0⟩ := Kd.at_int HR0.out x3_1 p112 q112
        obtain rfl : ad111 = ad112 := (by injection e112)
        replace p112 := eq_true p112
        replace q112 := eq_true q112
        go_wp2
        repeat (go_quiet (fail); try go_wp2)
        go_ret
        exact ⟨by first | rfl | (simp; done) | (simp only [← hji3] <;> (first | rfl | simp)) | (simp [*]; done), by repeat (first | exact Drawn0.refl _ | apply Drawn0.step)⟩
       ·rw [if_neg c7] at H
        have c7b0 : decide ((rd l0 x3_1) ≤ (rd l0 (ji3))) = false := decide_eq_false c7
        clear c7
        have H' := Aside0.mk H
        clear H
        have p111 : 0 ≤ ((ji3) : Int) := of_decide_eq_true (by first | (with_reducible assumption) | assumption)
        have q111 : (ji3) < (l0.length : Int) := of_decide_eq_true (by first | (with_reducible assumption) | assumption)
        obtain ⟨ad111, e111, hx111_0⟩ := Kd.at_int HR0.out (ji3) p111 q111
        cases e111
        replace p111 := eq_true p111
        replace q111 := eq_true q111
        have p112 : 0 ≤ (x3_1 : Int) := of_decide_eq_true (by first | (with_reducible assumption) | assumption)
        have q112 : x3_1 < (l0.length : Int) := of_decide_eq_true (by first | (with_reducible assumption) | assumption)
        obtain ⟨ad112, e112, hx112_0⟩ := Kd.at_int HR0.out x3_1 p112 q112
        obtain rfl : ad111 = ad112 := (by injection e112)
        replace p112 := eq_true p112
        replace q112 := eq_true q112
        go_wp2
        repeat (go_quiet (fail); try go_wp2)
        go_roundg k1
        case measure => have := HK1.out; omega
        case rel => exact ⟨(wrap64 (x3_1 + 1)), (by first | rfl | (simp; done) | (simp [*]; done)), H', ⟨by have := HK1.out; omega⟩, by repeat (first | exact Drawn0.refl _ | apply Drawn0.step)⟩
      ·rw [if_neg c6] at H
       exact absurd H (by simp)
     ·rw [if_neg c5] at H
      exact absurd H (by simp)
    ·rw [if_neg c4] at H
     exact absurd H (by simp)
   ·rw [if_neg c2] at H
    have c2b0 : decide (x3_1 < (l0.length : Int)) = false := decide_eq_false c2
    clear c2
    obtain rfl := Option.some.inj H
    go_wp2
    repeat (go_quiet (fail); try go_wp2)
    go_ret
    exact ⟨by first | rfl | (simp; done) | (simp [*]; done), by repeat (first | exact Drawn0.refl _ | apply Drawn0.step)⟩

/-! ### laws_index: function 51 -/
def laws_index.l0 : Nat → List Int → Int → Int → Option (Int)
 | 0, _, _, _ => none
 | k + 1, x0, x1, x5 => if x5 < (x0.length : Int) then (if 0 ≤ x5 then (if (rd x0 x5) = x1 then (some x5) else (laws_index.l0 k x0 x1 (wrap64 (x5 + 1)))) else (none)) else (some (-1))
def laws_index.f (k : Nat) (l0 : List Int) (a1 : Int) : Option (Int) := laws_index.l0 k l0 a1 0
set_option maxHeartbeats 8000000 in
set_option maxRecDepth 100000 in
theorem laws_index.calls (k : Nat) (A0 : Option Addr) (c0 : Nat) (l0 : List Int) (a1 : Int) (r : Int) (w : World) (hr0 : Kd.C (Kd.int .i64) w A0 l0.length l0) (hc0 : l0.length ≤ c0) (h : laws_index.f k l0 a1 = some r) :
  Calls Tryz.prog 51 #[.slice A0 l0.length c0, .int .i64 a1] w fun e w' => e = .returned (.int .i64 r) ∧ Drawn0 w w' := by
 have HR0 := Aside0.mk hr0
 have HC0 := Aside0.mk hc0
 clear hr0 hc0
 have H : (laws_index.l0 k l0 a1 0) = some r := h
 clear h
 have H' := Aside0.mk H
 clear H
 go_enter Tryz.func51, Tryz.ntmps51
 go_wp2
 go_loopg [5] k (fun kq v5 w' => ∃ (x5_1 : Int), v5 = .int .i64 x5_1 ∧ Aside0 (laws_index.l0 kq l0 a1 x5_1 = some r) ∧ Aside0 (kq ≤ k) ∧ Drawn0 w w')
 case atStart => exact ⟨(0), (by first | rfl | (simp; done) | (simp [*]; done)), H', ⟨Nat.le_refl _⟩, by repeat (first | exact Drawn0.refl _ | apply Drawn0.step)⟩
 case round =>
  clear H'
  try clear p2
  obtain ⟨x5_1, rfl, HA, HK1, ⟨m1, rfl⟩⟩ := hrel
  cases gk with
  | zero => exact absurd HA.out (by simp [laws_index.l0])
  | succ k1 =>
   have H := HA.out
   clear HA
   simp only [laws_index.l0] at H
   by_cases c3 : x5_1 < (l0.length : Int)
   ·rw [if_pos c3] at H
    have c3b0 : decide (x5_1 < (l0.length : Int)) = true := decide_eq_true c3
    clear c3
    by_cases c4 : 0 ≤ x5_1
    ·rw [if_pos c4] at H
     have c4b0 : decide (0 ≤ x5_1) = true := decide_eq_true c4
     clear c4
     by_cases c5 : (rd l0 x5_1) = a1
     ·rw [if_pos c5] at H
      have c5b0 : ((rd l0 x5_1) == a1) = true := beq_iff_eq.mpr c5
      have c5b1 : ((rd l0 x5_1) != a1) = false := bne_eq_false_iff_eq.mpr c5
      clear c5
      obtain rfl := Option.some.inj H
      have p113 : 0 ≤ (x5_1 : Int) := of_decide_eq_true (by first | (with_reducible assumption) | assumption)
      have q113 : x5_1 < (l0.length : Int) := of_decide_eq_true (by first | (with_reducible assumption) | assumption)
      obtain ⟨ad113, e113, hx113_0⟩ := Kd.at_int HR0.out x5_1 p113 q113
      cases e113
      replace p113 := eq_true p113
      replace q113 := eq_true q113
      go_wp2
      go_ret
      exact ⟨by first | rfl | (simp; done) | (simp [*]; done), by repeat (first | exact Drawn0.refl _ | apply Drawn0.step)⟩
     ·rw [if_neg c5] at H
      have c5b0 : ((rd l0 x5_1) == a1) = false := beq_eq_false_iff_ne.mpr c5
      have c5b1 : ((rd l0 x5_1) != a1) = true := bne_iff_ne.mpr c5
      have H' := Aside0.mk H
      clear H
      have p113 : 0 ≤ (x5_1 : Int) := of_decide_eq_true (by first | (with_reducible assumption) | assumption)
      have q113 : x5_1 < (l0.length : Int) := of_decide_eq_true (by first | (with_reducible assumption) | assumption)
      obtain ⟨ad113, e113, hx113_0⟩ := Kd.at_int HR0.out x5_1 p113 q113
      cases e113
      replace p113 := eq_true p113
      replace q113 := eq_true q113
      go_wp2
      go_roundg k1
      case measure => have := HK1.out; omega
      case rel => exact ⟨(wrap64 (x5_1 + 1)), (by first | rfl | (simp; done) | (simp [*]; done)), H', ⟨by have := HK1.out; omega⟩, by repeat (first | exact Drawn0.refl _ | apply Drawn0.step)⟩
    ·rw [if_neg c4] at H
     exact absurd H (by simp)
   ·rw [if_neg c3] at H
    have c3b0 : decide (x5_1 < (l0.length : Int)) = false := decide_eq_false c3
    clear c3
    obtain rfl := Option.some.inj H
    go_wp2
    go_ret
    exact ⟨by first | rfl | (simp; done) | (simp [*]; done), by repeat (first | exact Drawn0.refl _ | apply Drawn0.step)⟩

/-! ### laws_has: function 82 -/
def laws_has.f (k : Nat) (l0 : List Int) (a1 : Int) : Option (Bool) := (laws_index.f k l0 a1).bind fun t114 => (some (decide (t114 ≥ 0)))
set_option maxHeartbeats 8000000 in
set_option maxRecDepth 100000 in
theorem laws_has.calls (k : Nat) (A0 : Option Addr) (c0 : Nat) (l0 : List Int) (a1 : Int) (r : Bool) (w : World) (hr0 : Kd.C (Kd.int .i64) w A0 l0.length l0) (hc0 : l0.length ≤ c0) (h : laws_has.f k l0 a1 = some r) :
  Calls Tryz.prog 82 #[.slice A0 l0.length c0, .int .i64 a1] w fun e w' => e = .returned (.bool r) ∧ Drawn0 w w' := by
 have HR0 := Aside0.mk hr0
 have HC0 := Aside0.mk hc0
 clear hr0 hc0
 have H : ((laws_index.f k l0 a1).bind fun t114 => (some (decide (t114 ≥ 0)))) = some r := h
 clear h
 replace H := Option.bind_eq_some_iff.mp H
 obtain ⟨t114, A30, H⟩ := H
 replace H : (some (decide (t114 ≥ 0))) = some r := H
 have A3 := Aside0.mk A30
 clear A30
 obtain rfl := Option.some.inj H
 go_enter Tryz.func82, Tryz.ntmps82
 go_wp2_with (first | ((with_reducible refine gate_callee (f := 51) rfl ?_); refine goesL_ (some 7) rfl rfl Tryz.func51 (by kernel_rfl) rfl #[.slice A0 l0.length c0, .int .i64 a1] rfl (by (try simp only [List.map_toArray, List.map_cons, List.map_nil]); first | done | rfl | (simp only [List.length_drop, List.length_take]; rfl)) ?_; (with_reducible refine (laws_index.calls k _ _ l0 a1 t114 _ ?side1 ?side2 A3.out).mono ?_); (case side1 => repeat (first | exact HR0.out | (with_reducible refine Kd.C_alloc ?_ _) | (with_reducible refine Kd.C_drewN ?_ _) | (with_reducible refine Kd.C_drew ?_))); (case side2 => exact HC0.out); rintro e w' ⟨rfl, ⟨nd, rfl⟩⟩; refine ⟨_, rfl, ?_⟩))
 go_ret
 exact ⟨by first | rfl | (simp; done) | (simp [*]; done), by repeat (first | exact Drawn0.refl _ | apply Drawn0.step)⟩

/-! ### laws_well: function 52 -/
def laws_well.l0 : Nat → Int → Bool → List Int → List (S95) → Option (Bool)
 | 0, _, _, _, _ => none
 | k + 1, x3, x116000, x116001, x116002 => if x3 < (x116002.length : Int) then (if 0 ≤ x3 then (if ((rd_T95 x116002 x3).f0) = ((rd_T95 x116002 x3).f1) then (some false) else ((laws_has.f k x116001 ((rd_T95 x116002 x3).f0)).bind fun t122 => (if t122 = true then ((laws_has.f k x116001 ((rd_T95 x116002 x3).f1)).bind fun t123 => (if t123 = true then (if ((rd_T95 x116002 x3).f2) > 1099511627776 then (some false) else (if ((rd_T95 x116002 x3).f2) < (-1099511627776) then (some false) else (laws_well.l0 k (wrap64 (x3 + 1)) x116000 x116001 x116002))) else (some false))) else (some false)))) else (none)) else (some true)
def laws_well.f (k : Nat) (a0_0 : Bool) (l0_1 : List Int) (l0_2 : List (S95)) : Option (Bool) := (laws_sorted.f k l0_1).bind fun t116 => ((laws_rising.f k t116).bind fun t119 => (if t119 = true then (laws_well.l0 k 0 a0_0 l0_1 l0_2) else (some false)))
set_option maxHeartbeats 8000000 in
set_option maxRecDepth 100000 in
theorem laws_well.calls (k : Nat) (a0_0 : Bool) (A0_1 : Option Addr) (c0_1 : Nat) (l0_1 : List Int) (A0_2 : Option Addr) (c0_2 : Nat) (l0_2 : List (S95)) (r : Bool) (w : World) (hr0_1 : Kd.C (Kd.int .i64) w A0_1 l0_1.length l0_1) (hc0_1 : l0_1.length ≤ c0_1) (hr0_2 : Kd.C k95 w A0_2 l0_2.length l0_2) (hc0_2 : l0_2.length ≤ c0_2) (h : laws_well.f k a0_0 l0_1 l0_2 = some r) :
  Calls Tryz.prog 52 #[.agg #[.bool a0_0, .slice A0_1 l0_1.length c0_1, .slice A0_2 l0_2.length c0_2]] w fun e w' => e = .returned (.bool r) ∧ Below w.heap.size w w' := by
 have hu25 := Tryz.underlying25
 have hu95 := Tryz.underlying95
 have HR0_1 := Aside0.mk hr0_1
 have HC0_1 := Aside0.mk hc0_1
 clear hr0_1 hc0_1
 have HR0_2 := Aside0.mk hr0_2
 have HC0_2 := Aside0.mk hc0_2
 clear hr0_2 hc0_2
 have HB := Aside0.mk (Below.refl w.heap.size w)
 have H : ((laws_sorted.f k l0_1).bind fun t116 => ((laws_rising.f k t116).bind fun t119 => (if t119 = true then (laws_well.l0 k 0 a0_0 l0_1 l0_2) else (some false)))) = some r := h
 clear h
 replace H := Option.bind_eq_some_iff.mp H
 obtain ⟨t116, A20, H⟩ := H
 replace H : ((laws_rising.f k t116).bind fun t119 => (if t119 = true then (laws_well.l0 k 0 a0_0 l0_1 l0_2) else (some false))) = some r := H
 have A2 := Aside0.mk A20
 clear A20
 replace H := Option.bind_eq_some_iff.mp H
 obtain ⟨t119, A30, H⟩ := H
 replace H : (if t119 = true then (laws_well.l0 k 0 a0_0 l0_1 l0_2) else (some false)) = some r := H
 have A3 := Aside0.mk A30
 clear A30
 by_cases c4 : t119 = true
 ·subst c4
  have H1 : (laws_well.l0 k 0 a0_0 l0_1 l0_2) = some r := by rw [if_pos rfl] at H; exact H
  clear H
  have H := H1
  clear H1
  have H' := Aside0.mk H
  clear H
  go_enter Tryz.func52, Tryz.ntmps52
  go_wp2_with (first | ((with_reducible refine gate_dst (N := 1) rfl ?_); refine box_event ?hg (N := 1) ?hd (cs := #[.bool a0_0, .slice A0_1 l0_1.length c0_1, .slice A0_2 l0_2.length c0_2]) (t := 25) ?hr ?_; (case hd => rfl); (case hg => rfl); (case hr => first | (go_simp; done) | (go_simp; rfl)); intro gb115 hg w5 hbox hb; have n0_ := Aside0.mk (below_step (by repeat (first | (with_reducible first | exact HB.out | apply below_alloc | apply pw_below_drewN | apply below_drew1) | exact HB.out)) hb); have n1_ := Aside0.mk (hbox); have n2_ := Aside0.mk ((by rw [hg]; exact (below_size (by repeat (first | (with_reducible first | exact HB.out | apply below_alloc | apply pw_below_drewN | apply below_drew1) | exact HB.out))) : w.heap.size ≤ gb115)); have n3_ := Aside0.mk ((by rw [hg]; exact (below_size (by repeat (first | (with_reducible first | exact HB.out | apply below_alloc | apply pw_below_drewN | apply below_drew1) | exact HB.out))) : w.heap.size ≤ gb115)); clear HB; have HB := n0_; have BK115 := n1_; have GW115 := n2_; have GE115 := n3_; clear n0_ n1_ n2_ n3_; clear hb hbox hg; have hcz6_0 : w5.cell? ⟨gb115, 0, none⟩ = some (.bool a0_0) := (blk_cell BK115.out 0).trans rfl; have hcz6_1 : w5.cell? ⟨gb115, 1, none⟩ = some (.slice A0_1 l0_1.length c0_1) := (blk_cell BK115.out 1).trans rfl; have hcz6_2 : w5.cell? ⟨gb115, 2, none⟩ = some (.slice A0_2 l0_2.length c0_2) := (blk_cell BK115.out 2).trans rfl; have hfz6_0 := blk_frozen BK115.out 0; have hfz6_1 := blk_frozen BK115.out 1; have hfz6_2 := blk_frozen BK115.out 2) | ((with_reducible refine gate_callee (f := 40) rfl ?_); refine goesL_ (some 7) rfl rfl Tryz.func40 (by kernel_rfl) rfl #[.slice A0_1 l0_1.length c0_1] rfl (by (try simp only [List.map_toArray, List.map_cons, List.map_nil]); first | done | rfl | (simp only [List.length_drop, List.length_take]; rfl)) ?_; (with_reducible refine (laws_sorted.calls k _ _ l0_1 t116 _ ?side1 ?side2 A2.out).mono ?_); (case side1 => repeat (first | exact (Kd.C_below HR0_1.out HB.out) | (with_reducible refine Kd.C_alloc ?_ _) | (with_reducible refine Kd.C_drewN ?_ _) | (with_reducible refine Kd.C_drew ?_))); (case side2 => exact HC0_1.out); rintro e w7 ⟨v117, rfl, ho0, hb⟩; refine ⟨_, rfl, ?_⟩; have n0_ := Aside0.mk (Kd.R_lower ho0 (below_size (by repeat (first | (with_reducible first | exact HB.out | apply below_alloc | apply pw_below_drewN | apply below_drew1 | refine below_set ?_ GE115.out) | exact HB.out)))); have n1_ := Aside0.mk (blk_below (g := gb115) (o := .cells #[.bool a0_0, .slice A0_1 l0_1.length c0_1, .slice A0_2 l0_2.length c0_2] 25 (0, 0)) (by (with_reducible repeat (first | refine blk_drewN ?_ _ | refine blk_drew ?_ | refine blk_alloc ?_ _)); exact BK115.out) hb); have n2_ := Aside0.mk (below_step (by repeat (first | (with_reducible first | exact HB.out | apply below_alloc | apply pw_below_drewN | apply below_drew1 | refine below_set ?_ GE115.out) | exact HB.out)) hb); clear BK115; clear HB; have HO118 := n0_; have BK115 := n1_; have HB := n2_; clear n0_ n1_ n2_; (try clear hb); (try clear hb2); (try clear hk); (try clear hi); (try clear ho0); obtain ⟨Ao8, co8, eo8⟩ := Kd.R_slice HO118.out; subst eo8) | ((with_reducible refine gate_callee (f := 64) rfl ?_); refine goesL_ (some 8) rfl rfl Tryz.func64 (by kernel_rfl) rfl #[.slice Ao8 t116.length co8] rfl (by (try simp only [List.map_toArray, List.map_cons, List.map_nil]); first | done | rfl | (simp only [List.length_drop, List.length_take]; rfl)) ?_; (with_reducible refine (laws_rising.calls k _ _ t116 true _ ?side1 ?side2 A3.out).mono ?_); (case side1 => repeat (first | exact (Kd.R_reads' HO118.out).2.2 | (with_reducible refine Kd.C_alloc ?_ _) | (with_reducible refine Kd.C_drewN ?_ _) | (with_reducible refine Kd.C_drew ?_))); (case side2 => exact (Kd.R_reads' HO118.out).2.1); rintro e w' ⟨rfl, ⟨nd, rfl⟩⟩; refine ⟨_, rfl, ?_⟩))
  go_loopg [3] k (fun kq v3 w' => ∃ (x3_1 : Int), v3 = .int .i64 x3_1 ∧ Aside0 (laws_well.l0 kq x3_1 a0_0 l0_1 l0_2 = some r) ∧ Aside0 (kq ≤ k) ∧ Aside0 (w'.heap[gb115]? = some (.cells #[.bool a0_0, (.slice A0_1 l0_1.length c0_1), (.slice A0_2 l0_2.length c0_2)] 25 (0, 0))) ∧ Aside0 (Below w.heap.size w w'))
  case atStart => exact ⟨(0), (by first | rfl | (simp; done) | (simp [*]; done)), H', ⟨Nat.le_refl _⟩, ⟨by (with_reducible repeat (first | refine blk_drewN ?_ _ | refine blk_drew ?_ | refine blk_alloc ?_ _)); exact BK115.out⟩, ⟨by repeat (first | (with_reducible first | exact HB.out | apply below_alloc | apply pw_below_drewN | apply below_drew1 | refine below_set ?_ GE115.out) | exact HB.out)⟩⟩
  case round =>
   clear H'
   try clear p2
   try clear c4
   try clear c5
   try clear c6
   try clear hcz6_0
   try clear hcz6_1
   try clear hcz6_2
   try clear hfz6_0
   try clear hfz6_1
   try clear hfz6_2
   obtain ⟨x3_1, rfl, HA, HK1, BK115, HB⟩ := hrel
   cases gk with
   | zero => exact absurd HA.out (by simp [laws_well.l0])
   | succ k1 =>
    have H := HA.out
    clear HA
    simp only [laws_well.l0] at H
    by_cases c9 : x3_1 < (l0_2.length : Int)
    ·rw [if_pos c9] at H
     have c9b0 : decide (x3_1 < (l0_2.length : Int)) = true := decide_eq_true c9
     clear c9
     by_cases c10 : 0 ≤ x3_1
     ·rw [if_pos c10] at H
      have c10b0 : decide (0 ≤ x3_1) = true := decide_eq_true c10
      clear c10
      by_cases c11 : ((rd_T95 l0_2 x3_1).f0) = ((rd_T95 l0_2 x3_1).f1)
      ·rw [if_pos c11] at H
       have c11b0 : (((rd_T95 l0_2 x3_1).f0) == ((rd_T95 l0_2 x3_1).f1)) = true := beq_iff_eq.mpr c11
       have c11b1 : (((rd_T95 l0_2 x3_1).f0) != ((rd_T95 l0_2 x3_1).f1)) = false := bne_eq_false_iff_eq.mpr c11
       clear c11
       obtain rfl := Option.some.inj H
       have hcz12_0 : wr.cell? ⟨gb115, 0, none⟩ = some (.bool a0_0) := (blk_cell BK115.out 0).trans rfl
       have hcz12_1 : wr.cell? ⟨gb115, 1, none⟩ = some (.slice A0_1 l0_1.length c0_1) := (blk_cell BK115.out 1).trans rfl
       have hcz12_2 : wr.cell? ⟨gb115, 2, none⟩ = some (.slice A0_2 l0_2.length c0_2) := (blk_cell BK115.out 2).trans rfl
       have hfz12_0 := blk_frozen BK115.out 0
       have hfz12_1 := blk_frozen BK115.out 1
       have hfz12_2 := blk_frozen BK115.out 2
       have p120 : 0 ≤ (x3_1 : Int) := of_decide_eq_true (by first | (with_reducible assumption) | assumption)
       have q120 : x3_1 < (l0_2.length : Int) := of_decide_eq_true (by first | (with_reducible assumption) | assumption)
       obtain ⟨ad120, e120, hx120_0, hx120_1, hx120_2⟩ := at_T95 HR0_2.out x3_1 p120 q120
       cases e120
       replace hx120_0 := (HB.out.cell (World.block_lt_of_cell? w _ hx120_0)).trans hx120_0
       replace hx120_1 := (HB.out.cell (World.block_lt_of_cell? w _ hx120_1)).trans hx120_1
       replace hx120_2 := (HB.out.cell (World.block_lt_of_cell? w _ hx120_2)).trans hx120_2
       replace p120 := eq_true p120
       replace q120 := eq_true q120
       go_wp2_with (first | ((with_reducible refine gate_dst (N := 4) rfl ?_); refine box_event ?hg (N := 4) ?hd (cs := #[.int .i64 0, .int .i64 0, .int .i64 0]) (t := 95) ?hr ?_; (case hd => rfl); (case hg => rfl); (case hr => first | (go_simp; done) | (go_simp; rfl)); intro gb121 hg w13 hbox hb; have n0_ := Aside0.mk (blk_below (g := gb115) (o := .cells #[.bool a0_0, .slice A0_1 l0_1.length c0_1, .slice (some ad120) l0_2.length c0_2] 25 (0, 0)) (by (with_reducible repeat (first | refine blk_drewN ?_ _ | refine blk_drew ?_ | refine blk_alloc ?_ _)); exact BK115.out) hb); have n1_ := Aside0.mk (below_step (by repeat (first | (with_reducible first | exact HB.out | apply below_alloc | apply pw_below_drewN | apply below_drew1 | refine below_set ?_ GE115.out) | exact HB.out)) hb); have n2_ := Aside0.mk (hbox); have n3_ := Aside0.mk ((by rw [hg]; exact (below_size (by repeat (first | (with_reducible first | exact HB.out | apply below_alloc | apply pw_below_drewN | apply below_drew1 | refine below_set ?_ GE115.out) | exact HB.out))) : w.heap.size ≤ gb121)); have n4_ := Aside0.mk ((by rw [hg]; exact (below_size (by repeat (first | (with_reducible first | exact HB.out | apply below_alloc | apply pw_below_drewN | apply below_drew1 | refine below_set ?_ GE115.out) | exact HB.out))) : w.heap.size ≤ gb121)); have n5_ := Aside0.mk ((by rw [hg]; exact Nat.ne_of_lt (blk_lt (g := gb115) (o := .cells #[.bool a0_0, .slice A0_1 l0_1.length c0_1, .slice (some ad120) l0_2.length c0_2] 25 (0, 0)) (by (with_reducible repeat (first | refine blk_drewN ?_ _ | refine blk_drew ?_ | refine blk_alloc ?_ _)); exact BK115.out)) : gb115 ≠ gb121)); have n6_ := Aside0.mk ((by rw [hg]; exact Nat.ne_of_gt (blk_lt (g := gb115) (o := .cells #[.bool a0_0, .slice A0_1 l0_1.length c0_1, .slice (some ad120) l0_2.length c0_2] 25 (0, 0)) (by (with_reducible repeat (first | refine blk_drewN ?_ _ | refine blk_drew ?_ | refine blk_alloc ?_ _)); exact BK115.out)) : gb121 ≠ gb115)); clear BK115; clear HB; have BK115 := n0_; have HB := n1_; have BK121 := n2_; have GW121 := n3_; have GE121 := n4_; have NB115_121 := n5_; have NB121_115 := n6_; clear n0_ n1_ n2_ n3_ n4_ n5_ n6_; clear hb hbox hg; have hnb14 := NB121_115.out; have hnc14 := NB115_121.out; have hcz15_0 : w13.cell? ⟨gb121, 0, none⟩ = some (.int .i64 0) := (blk_cell BK121.out 0).trans rfl; have hcz15_1 : w13.cell? ⟨gb121, 1, none⟩ = some (.int .i64 0) := (blk_cell BK121.out 1).trans rfl; have hcz15_2 : w13.cell? ⟨gb121, 2, none⟩ = some (.int .i64 0) := (blk_cell BK121.out 2).trans rfl; have hfz15_0 := blk_frozen BK121.out 0; have hfz15_1 := blk_frozen BK121.out 1; have hfz15_2 := blk_frozen BK121.out 2))
       go_ret
       exact ⟨by first | rfl | (simp [errW_none, errW_some] <;> rfl) | (simp [*, errW_none, errW_some] <;> rfl), by repeat (first | (with_reducible first | exact HB.out | apply below_alloc | apply pw_below_drewN | apply below_drew1 | refine below_set ?_ GE115.out | refine below_set ?_ GE121.out) | exact HB.out)⟩
      ·rw [if_neg c11] at H
       have c11b0 : (((rd_T95 l0_2 x3_1).f0) == ((rd_T95 l0_2 x3_1).f1)) = false := beq_eq_false_iff_ne.mpr c11
       have c11b1 : (((rd_T95 l0_2 x3_1).f0) != ((rd_T95 l0_2 x3_1).f1)) = true := bne_iff_ne.mpr c11
       replace H := Option.bind_eq_some_iff.mp H
       obtain ⟨t122, A160, H⟩ := H
       replace H : (if t122 = true then ((laws_has.f k1 l0_1 ((rd_T95 l0_2 x3_1).f1)).bind fun t123 => (if t123 = true then (if ((rd_T95 l0_2 x3_1).f2) > 1099511627776 then (some false) else (if ((rd_T95 l0_2 x3_1).f2) < (-1099511627776) then (some false) else (laws_well.l0 k1 (wrap64 (x3_1 + 1)) a0_0 l0_1 l0_2))) else (some false))) else (some false)) = some r := H
       have A16 := Aside0.mk A160
       clear A160
       by_cases c17 : t122 = true
       ·subst c17
        have H1 : ((laws_has.f k1 l0_1 ((rd_T95 l0_2 x3_1).f1)).bind fun t123 => (if t123 = true then (if ((rd_T95 l0_2 x3_1).f2) > 1099511627776 then (some false) else (if ((rd_T95 l0_2 x3_1).f2) < (-1099511627776) then (some false) else (laws_well.l0 k1 (wrap64 (x3_1 + 1)) a0_0 l0_1 l0_2))) else (some false))) = some r := by rw [if_pos rfl] at H; exact H
        clear H
        have H := H1
        clear H1
        replace H := Option.bind_eq_some_iff.mp H
        obtain ⟨t123, A180, H⟩ := H
        replace H : (if t123 = true then (if ((rd_T95 l0_2 x3_1).f2) > 1099511627776 then (some false) else (if ((rd_T95 l0_2 x3_1).f2) < (-1099511627776) then (some false) else (laws_well.l0 k1 (wrap64 (x3_1 + 1)) a0_0 l0_1 l0_2))) else (some false)) = some r := H
        have A18 := Aside0.mk A180
        clear A180
        by_cases c19 : t123 = true
        ·subst c19
         have H1 : (if ((rd_T95 l0_2 x3_1).f2) > 1099511627776 then (some false) else (if ((rd_T95 l0_2 x3_1).f2) < (-1099511627776) then (some false) else (laws_well.l0 k1 (wrap64 (x3_1 + 1)) a0_0 l0_1 l0_2))) = some r := by rw [if_pos rfl] at H; exact H
         clear H
         have H := H1
         clear H1
         by_cases c20 : ((rd_T95 l0_2 x3_1).f2) > 1099511627776
         ·rw [if_pos c20] at H
          have c20b0 : decide (1099511627776 < ((rd_T95 l0_2 x3_1).f2)) = true := decide_eq_true c20
          clear c20
          obtain rfl := Option.some.inj H
          have hcz21_0 : wr.cell? ⟨gb115, 0, none⟩ = some (.bool a0_0) := (blk_cell BK115.out 0).trans rfl
          have hcz21_1 : wr.cell? ⟨gb115, 1, none⟩ = some (.slice A0_1 l0_1.length c0_1) := (blk_cell BK115.out 1).trans rfl
          have hcz21_2 : wr.cell? ⟨gb115, 2, none⟩ = some (.slice A0_2 l0_2.length c0_2) := (blk_cell BK115.out 2).trans rfl
          have hfz21_0 := blk_frozen BK115.out 0
          have hfz21_1 := blk_frozen BK115.out 1
          have hfz21_2 := blk_frozen BK115.out 2
          have p120 : 0 ≤ (x3_1 : Int) := of_decide_eq_true (by first | (with_reducible assumption) | assumption)
          have q120 : x3_1 < (l0_2.length : Int) := of_decide_eq_true (by first | (with_reducible assumption) | assumption)
          obtain ⟨ad120, e120, hx120_0, hx120_1, hx120_2⟩ := at_T95 HR0_2.out x3_1 p120 q120
          cases e120
          replace hx120_0 := (HB.out.cell (World.block_lt_of_cell? w _ hx120_0)).trans hx120_0
          replace hx120_1 := (HB.out.cell (World.block_lt_of_cell? w _ hx120_1)).trans hx120_1
          replace hx120_2 := (HB.out.cell (World.block_lt_of_cell? w _ hx120_2)).trans hx120_2
          replace p120 := eq_true p120
          replace q120 := eq_true q120
          go_wp2_with (first | ((with_reducible refine gate_dst (N := 4) rfl ?_); refine box_event ?hg (N := 4) ?hd (cs := #[.int .i64 0, .int .i64 0, .int .i64 0]) (t := 95) ?hr ?_; (case hd => rfl); (case hg => rfl); (case hr => first | (go_simp; done) | (go_simp; rfl)); intro gb121 hg w22 hbox hb; have n0_ := Aside0.mk (blk_below (g := gb115) (o := .cells #[.bool a0_0, .slice A0_1 l0_1.length c0_1, .slice (some ad120) l0_2.length c0_2] 25 (0, 0)) (by (with_reducible repeat (first | refine blk_drewN ?_ _ | refine blk_drew ?_ | refine blk_alloc ?_ _)); exact BK115.out) hb); have n1_ := Aside0.mk (below_step (by repeat (first | (with_reducible first | exact HB.out | apply below_alloc | apply pw_below_drewN | apply below_drew1 | refine below_set ?_ GE115.out) | exact HB.out)) hb); have n2_ := Aside0.mk (hbox); have n3_ := Aside0.mk ((by rw [hg]; exact (below_size (by repeat (first | (with_reducible first | exact HB.out | apply below_alloc | apply pw_below_drewN | apply below_drew1 | refine below_set ?_ GE115.out) | exact HB.out))) : w.heap.size ≤ gb121)); have n4_ := Aside0.mk ((by rw [hg]; exact (below_size (by repeat (first | (with_reducible first | exact HB.out | apply below_alloc | apply pw_below_drewN | apply below_drew1 | refine below_set ?_ GE115.out) | exact HB.out))) : w.heap.size ≤ gb121)); have n5_ := Aside0.mk ((by rw [hg]; exact Nat.ne_of_lt (blk_lt (g := gb115) (o := .cells #[.bool a0_0, .slice A0_1 l0_1.length c0_1, .slice (some ad120) l0_2.length c0_2] 25 (0, 0)) (by (with_reducible repeat (first | refine blk_drewN ?_ _ | refine blk_drew ?_ | refine blk_alloc ?_ _)); exact BK115.out)) : gb115 ≠ gb121)); have n6_ := Aside0.mk ((by rw [hg]; exact Nat.ne_of_gt (blk_lt (g := gb115) (o := .cells #[.bool a0_0, .slice A0_1 l0_1.length c0_1, .slice (some ad120) l0_2.length c0_2] 25 (0, 0)) (by (with_reducible repeat (first | refine blk_drewN ?_ _ | refine blk_drew ?_ | refine blk_alloc ?_ _)); exact BK115.out)) : gb121 ≠ gb115)); clear BK115; clear HB; have BK115 := n0_; have HB := n1_; have BK121 := n2_; have GW121 := n3_; have GE121 := n4_; have NB115_121 := n5_; have NB121_115 := n6_; clear n0_ n1_ n2_ n3_ n4_ n5_ n6_; clear hb hbox hg; have hnb23 := NB121_115.out; have hnc23 := NB115_121.out; have hcz24_0 : w22.cell? ⟨gb121, 0, none⟩ = some (.int .i64 0) := (blk_cell BK121.out 0).trans rfl; have hcz24_1 : w22.cell? ⟨gb121, 1, none⟩ = some (.int .i64 0) := (blk_cell BK121.out 1).trans rfl; have hcz24_2 : w22.cell? ⟨gb121, 2, none⟩ = some (.int .i64 0) := (blk_cell BK121.out 2).trans rfl; have hfz24_0 := blk_frozen BK121.out 0; have hfz24_1 := blk_frozen BK121.out 1; have hfz24_2 := blk_frozen BK121.out 2; have hcz25_0 : w22.cell? ⟨gb115, 0, none⟩ = some (.bool a0_0) := (blk_cell BK115.out 0).trans rfl; have hcz25_1 : w22.cell? ⟨gb115, 1, none⟩ = some (.slice A0_1 l0_1.length c0_1) := (blk_cell BK115.out 1).trans rfl; have hcz25_2 : w22.cell? ⟨gb115, 2, none⟩ = some (.slice (some ad120) l0_2.length c0_2) := (blk_cell BK115.out 2).trans rfl; have hfz25_0 := blk_frozen BK115.out 0; have hfz25_1 := blk_frozen BK115.out 1; have hfz25_2 := blk_frozen BK115.out 2) | (go_at_call 82; (with_reducible refine (laws_has.calls k1 _ _ l0_1 ((rd_T95 l0_2 x3_1).f0) true _ ?side1 ?side2 A16.out).mono ?_); (case side1 => exact Kd.C_below HR0_1.out (by repeat (first | (with_reducible first | exact HB.out | apply below_alloc | apply pw_below_drewN | apply below_drew1 | refine below_set ?_ GE115.out | refine below_set ?_ GE121.out) | exact HB.out))); (case side2 => exact HC0_1.out); rintro e w' ⟨rfl, ⟨nd, rfl⟩⟩) | (go_at_call 82; (with_reducible refine (laws_has.calls k1 _ _ l0_1 ((rd_T95 l0_2 x3_1).f1) true _ ?side1 ?side2 A18.out).mono ?_); (case side1 => exact Kd.C_below HR0_1.out (by repeat (first | (with_reducible first | exact HB.out | apply below_alloc | apply pw_below_drewN | apply below_drew1 | refine below_set ?_ GE115.out | refine below_set ?_ GE121.out) | exact HB.out))); (case side2 => exact HC0_1.out); rintro e w' ⟨rfl, ⟨nd, rfl⟩⟩))
          go_ret
          exact ⟨by first | rfl | (simp [errW_none, errW_some] <;> rfl) | (simp [*, errW_none, errW_some] <;> rfl), by repeat (first | (with_reducible first | exact HB.out | apply below_alloc | apply pw_below_drewN | apply below_drew1 | refine below_set ?_ GE115.out | refine below_set ?_ GE121.out) | exact HB.out)⟩
         ·rw [if_neg c20] at H
          have c20b0 : decide (1099511627776 < ((rd_T95 l0_2 x3_1).f2)) = false := decide_eq_false c20
          clear c20
          by_cases c26 : ((rd_T95 l0_2 x3_1).f2) < (-1099511627776)
          ·rw [if_pos c26] at H
           have c26b0 : decide (((rd_T95 l0_2 x3_1).f2) < (-1099511627776)) = true := decide_eq_true c26
           clear c26
           obtain rfl := Option.some.inj H
           have hcz27_0 : wr.cell? ⟨gb115, 0, none⟩ = some (.bool a0_0) := (blk_cell BK115.out 0).trans rfl
           have hcz27_1 : wr.cell? ⟨gb115, 1, none⟩ = some (.slice A0_1 l0_1.length c0_1) := (blk_cell BK115.out 1).trans rfl
           have hcz27_2 : wr.cell? ⟨gb115, 2, none⟩ = some (.slice A0_2 l0_2.length c0_2) := (blk_cell BK115.out 2).trans rfl
           have hfz27_0 := blk_frozen BK115.out 0
           have hfz27_1 := blk_frozen BK115.out 1
           have hfz27_2 := blk_frozen BK115.out 2
           have p120 : 0 ≤ (x3_1 : Int) := of_decide_eq_true (by first | (with_reducible assumption) | assumption)
           have q120 : x3_1 < (l0_2.length : Int) := of_decide_eq_true (by first | (with_reducible assumption) | assumption)
           obtain ⟨ad120, e120, hx120_0, hx120_1, hx120_2⟩ := at_T95 HR0_2.out x3_1 p120 q120
           cases e120
           replace hx120_0 := (HB.out.cell (World.block_lt_of_cell? w _ hx120_0)).trans hx120_0
           replace hx120_1 := (HB.out.cell (World.block_lt_of_cell? w _ hx120_1)).trans hx120_1
           replace hx120_2 := (HB.out.cell (World.block_lt_of_cell? w _ hx120_2)).trans hx120_2
           replace p120 := eq_true p120
           replace q120 := eq_true q120
           go_wp2_with (first | ((with_reducible refine gate_dst (N := 4) rfl ?_); refine box_event ?hg (N := 4) ?hd (cs := #[.int .i64 0, .int .i64 0, .int .i64 0]) (t := 95) ?hr ?_; (case hd => rfl); (case hg => rfl); (case hr => first | (go_simp; done) | (go_simp; rfl)); intro gb121 hg w28 hbox hb; have n0_ := Aside0.mk (blk_below (g := gb115) (o := .cells #[.bool a0_0, .slice A0_1 l0_1.length c0_1, .slice (some ad120) l0_2.length c0_2] 25 (0, 0)) (by (with_reducible repeat (first | refine blk_drewN ?_ _ | refine blk_drew ?_ | refine blk_alloc ?_ _)); exact BK115.out) hb); have n1_ := Aside0.mk (below_step (by repeat (first | (with_reducible first | exact HB.out | apply below_alloc | apply pw_below_drewN | apply below_drew1 | refine below_set ?_ GE115.out) | exact HB.out)) hb); have n2_ := Aside0.mk (hbox); have n3_ := Aside0.mk ((by rw [hg]; exact (below_size (by repeat (first | (with_reducible first | exact HB.out | apply below_alloc | apply pw_below_drewN | apply below_drew1 | refine below_set ?_ GE115.out) | exact HB.out))) : w.heap.size ≤ gb121)); have n4_ := Aside0.mk ((by rw [hg]; exact (below_size (by repeat (first | (with_reducible first | exact HB.out | apply below_alloc | apply pw_below_drewN | apply below_drew1 | refine below_set ?_ GE115.out) | exact HB.out))) : w.heap.size ≤ gb121)); have n5_ := Aside0.mk ((by rw [hg]; exact Nat.ne_of_lt (blk_lt (g := gb115) (o := .cells #[.bool a0_0, .slice A0_1 l0_1.length c0_1, .slice (some ad120) l0_2.length c0_2] 25 (0, 0)) (by (with_reducible repeat (first | refine blk_drewN ?_ _ | refine blk_drew ?_ | refine blk_alloc ?_ _)); exact BK115.out)) : gb115 ≠ gb121)); have n6_ := Aside0.mk ((by rw [hg]; exact Nat.ne_of_gt (blk_lt (g := gb115) (o := .cells #[.bool a0_0, .slice A0_1 l0_1.length c0_1, .slice (some ad120) l0_2.length c0_2] 25 (0, 0)) (by (with_reducible repeat (first | refine blk_drewN ?_ _ | refine blk_drew ?_ | refine blk_alloc ?_ _)); exact BK115.out)) : gb121 ≠ gb115)); clear BK115; clear HB; have BK115 := n0_; have HB := n1_; have BK121 := n2_; have GW121 := n3_; have GE121 := n4_; have NB115_121 := n5_; have NB121_115 := n6_; clear n0_ n1_ n2_ n3_ n4_ n5_ n6_; clear hb hbox hg; have hnb29 := NB121_115.out; have hnc29 := NB115_121.out; have hcz30_0 : w28.cell? ⟨gb121, 0, none⟩ = some (.int .i64 0) := (blk_cell BK121.out 0).trans rfl; have hcz30_1 : w28.cell? ⟨gb121, 1, none⟩ = some (.int .i64 0) := (blk_cell BK121.out 1).trans rfl; have hcz30_2 : w28.cell? ⟨gb121, 2, none⟩ = some (.int .i64 0) := (blk_cell BK121.out 2).trans rfl; have hfz30_0 := blk_frozen BK121.out 0; have hfz30_1 := blk_frozen BK121.out 1; have hfz30_2 := blk_frozen BK121.out 2; have hcz31_0 : w28.cell? ⟨gb115, 0, none⟩ = some (.bool a0_0) := (blk_cell BK115.out 0).trans rfl; have hcz31_1 : w28.cell? ⟨gb115, 1, none⟩ = some (.slice A0_1 l0_1.length c0_1) := (blk_cell BK115.out 1).trans rfl; have hcz31_2 : w28.cell? ⟨gb115, 2, none⟩ = some (.slice (some ad120) l0_2.length c0_2) := (blk_cell BK115.out 2).trans rfl; have hfz31_0 := blk_frozen BK115.out 0; have hfz31_1 := blk_frozen BK115.out 1; have hfz31_2 := blk_frozen BK115.out 2) | (go_at_call 82; (with_reducible refine (laws_has.calls k1 _ _ l0_1 ((rd_T95 l0_2 x3_1).f0) true _ ?side1 ?side2 A16.out).mono ?_); (case side1 => exact Kd.C_below HR0_1.out (by repeat (first | (with_reducible first | exact HB.out | apply below_alloc | apply pw_below_drewN | apply below_drew1 | refine below_set ?_ GE115.out | refine below_set ?_ GE121.out) | exact HB.out))); (case side2 => exact HC0_1.out); rintro e w' ⟨rfl, ⟨nd, rfl⟩⟩) | (go_at_call 82; (with_reducible refine (laws_has.calls k1 _ _ l0_1 ((rd_T95 l0_2 x3_1).f1) true _ ?side1 ?side2 A18.out).mono ?_); (case side1 => exact Kd.C_below HR0_1.out (by repeat (first | (with_reducible first | exact HB.out | apply below_alloc | apply pw_below_drewN | apply below_drew1 | refine below_set ?_ GE115.out | refine below_set ?_ GE121.out) | exact HB.out))); (case side2 => exact HC0_1.out); rintro e w' ⟨rfl, ⟨nd, rfl⟩⟩))
           go_ret
           exact ⟨by first | rfl | (simp [errW_none, errW_some] <;> rfl) | (simp [*, errW_none, errW_some] <;> rfl), by repeat (first | (with_reducible first | exact HB.out | apply below_alloc | apply pw_below_drewN | apply below_drew1 | refine below_set ?_ GE115.out | refine below_set ?_ GE121.out) | exact HB.out)⟩
          ·rw [if_neg c26] at H
           have c26b0 : decide (((rd_T95 l0_2 x3_1).f2) < (-1099511627776)) = false := decide_eq_false c26
           clear c26
           have H' := Aside0.mk H
           clear H
           have hcz32_0 : wr.cell? ⟨gb115, 0, none⟩ = some (.bool a0_0) := (blk_cell BK115.out 0).trans rfl
           have hcz32_1 : wr.cell? ⟨gb115, 1, none⟩ = some (.slice A0_1 l0_1.length c0_1) := (blk_cell BK115.out 1).trans rfl
           have hcz32_2 : wr.cell? ⟨gb115, 2, none⟩ = some (.slice A0_2 l0_2.length c0_2) := (blk_cell BK115.out 2).trans rfl
           have hfz32_0 := blk_frozen BK115.out 0
           have hfz32_1 := blk_frozen BK115.out 1
           have hfz32_2 := blk_frozen BK115.out 2
           have p120 : 0 ≤ (x3_1 : Int) := of_decide_eq_true (by first | (with_reducible assumption) | assumption)
           have q120 : x3_1 < (l0_2.length : Int) := of_decide_eq_true (by first | (with_reducible assumption) | assumption)
           obtain ⟨ad120, e120, hx120_0, hx120_1, hx120_2⟩ := at_T95 HR0_2.out x3_1 p120 q120
           cases e120
           replace hx120_0 := (HB.out.cell (World.block_lt_of_cell? w _ hx120_0)).trans hx120_0
           replace hx120_1 := (HB.out.cell (World.block_lt_of_cell? w _ hx120_1)).trans hx120_1
           replace hx120_2 := (HB.out.cell (World.block_lt_of_cell? w _ hx120_2)).trans hx120_2
           replace p120 := eq_true p120
           replace q120 := eq_true q120
           go_wp2_with (first | ((with_reducible refine gate_dst (N := 4) rfl ?_); refine box_event ?hg (N := 4) ?hd (cs := #[.int .i64 0, .int .i64 0, .int .i64 0]) (t := 95) ?hr ?_; (case hd => rfl); (case hg => rfl); (case hr => first | (go_simp; done) | (go_simp; rfl)); intro gb121 hg w33 hbox hb; have n0_ := Aside0.mk (blk_below (g := gb115) (o := .cells #[.bool a0_0, .slice A0_1 l0_1.length c0_1, .slice (some ad120) l0_2.length c0_2] 25 (0, 0)) (by (with_reducible repeat (first | refine blk_drewN ?_ _ | refine blk_drew ?_ | refine blk_alloc ?_ _)); exact BK115.out) hb); have n1_ := Aside0.mk (below_step (by repeat (first | (with_reducible first | exact HB.out | apply below_alloc | apply pw_below_drewN | apply below_drew1 | refine below_set ?_ GE115.out) | exact HB.out)) hb); have n2_ := Aside0.mk (hbox); have n3_ := Aside0.mk ((by rw [hg]; exact (below_size (by repeat (first | (with_reducible first | exact HB.out | apply below_alloc | apply pw_below_drewN | apply below_drew1 | refine below_set ?_ GE115.out) | exact HB.out))) : w.heap.size ≤ gb121)); have n4_ := Aside0.mk ((by rw [hg]; exact (below_size (by repeat (first | (with_reducible first | exact HB.out | apply below_alloc | apply pw_below_drewN | apply below_drew1 | refine below_set ?_ GE115.out) | exact HB.out))) : w.heap.size ≤ gb121)); have n5_ := Aside0.mk ((by rw [hg]; exact Nat.ne_of_lt (blk_lt (g := gb115) (o := .cells #[.bool a0_0, .slice A0_1 l0_1.length c0_1, .slice (some ad120) l0_2.length c0_2] 25 (0, 0)) (by (with_reducible repeat (first | refine blk_drewN ?_ _ | refine blk_drew ?_ | refine blk_alloc ?_ _)); exact BK115.out)) : gb115 ≠ gb121)); have n6_ := Aside0.mk ((by rw [hg]; exact Nat.ne_of_gt (blk_lt (g := gb115) (o := .cells #[.bool a0_0, .slice A0_1 l0_1.length c0_1, .slice (some ad120) l0_2.length c0_2] 25 (0, 0)) (by (with_reducible repeat (first | refine blk_drewN ?_ _ | refine blk_drew ?_ | refine blk_alloc ?_ _)); exact BK115.out)) : gb121 ≠ gb115)); clear BK115; clear HB; have BK115 := n0_; have HB := n1_; have BK121 := n2_; have GW121 := n3_; have GE121 := n4_; have NB115_121 := n5_; have NB121_115 := n6_; clear n0_ n1_ n2_ n3_ n4_ n5_ n6_; clear hb hbox hg; have hnb34 := NB121_115.out; have hnc34 := NB115_121.out; have hcz35_0 : w33.cell? ⟨gb121, 0, none⟩ = some (.int .i64 0) := (blk_cell BK121.out 0).trans rfl; have hcz35_1 : w33.cell? ⟨gb121, 1, none⟩ = some (.int .i64 0) := (blk_cell BK121.out 1).trans rfl; have hcz35_2 : w33.cell? ⟨gb121, 2, none⟩ = some (.int .i64 0) := (blk_cell BK121.out 2).trans rfl; have hfz35_0 := blk_frozen BK121.out 0; have hfz35_1 := blk_frozen BK121.out 1; have hfz35_2 := blk_frozen BK121.out 2; have hcz36_0 : w33.cell? ⟨gb115, 0, none⟩ = some (.bool a0_0) := (blk_cell BK115.out 0).trans rfl; have hcz36_1 : w33.cell? ⟨gb115, 1, none⟩ = some (.slice A0_1 l0_1.length c0_1) := (blk_cell BK115.out 1).trans rfl; have hcz36_2 : w33.cell? ⟨gb115, 2, none⟩ = some (.slice (some ad120) l0_2.length c0_2) := (blk_cell BK115.out 2).trans rfl; have hfz36_0 := blk_frozen BK115.out 0; have hfz36_1 := blk_frozen BK115.out 1; have hfz36_2 := blk_frozen BK115.out 2) | (go_at_call 82; (with_reducible refine (laws_has.calls k1 _ _ l0_1 ((rd_T95 l0_2 x3_1).f0) true _ ?side1 ?side2 A16.out).mono ?_); (case side1 => exact Kd.C_below HR0_1.out (by repeat (first | (with_reducible first | exact HB.out | apply below_alloc | apply pw_below_drewN | apply below_drew1 | refine below_set ?_ GE115.out | refine below_set ?_ GE121.out) | exact HB.out))); (case side2 => exact HC0_1.out); rintro e w' ⟨rfl, ⟨nd, rfl⟩⟩) | (go_at_call 82; (with_reducible refine (laws_has.calls k1 _ _ l0_1 ((rd_T95 l0_2 x3_1).f1) true _ ?side1 ?side2 A18.out).mono ?_); (case side1 => exact Kd.C_below HR0_1.out (by repeat (first | (with_reducible first | exact HB.out | apply below_alloc | apply pw_below_drewN | apply below_drew1 | refine below_set ?_ GE115.out | refine below_set ?_ GE121.out) | exact HB.out))); (case side2 => exact HC0_1.out); rintro e w' ⟨rfl, ⟨nd, rfl⟩⟩))
           go_roundg k1
           case measure => have := HK1.out; omega
           case rel => exact ⟨(wrap64 (x3_1 + 1)), (by first | rfl | (simp; done) | (simp [*]; done)), H', ⟨by have := HK1.out; omega⟩, ⟨by (with_reducible repeat (first | refine blk_drewN ?_ _ | refine blk_drew ?_ | refine blk_alloc ?_ _)); refine blk_far ?_ NB115_121.out _; (with_reducible repeat (first | refine blk_drewN ?_ _ | refine blk_drew ?_ | refine blk_alloc ?_ _)); refine blk_far ?_ NB115_121.out _; (with_reducible repeat (first | refine blk_drewN ?_ _ | refine blk_drew ?_ | refine blk_alloc ?_ _)); refine blk_far ?_ NB115_121.out _; (with_reducible repeat (first | refine blk_drewN ?_ _ | refine blk_drew ?_ | refine blk_alloc ?_ _)); exact BK115.out⟩, ⟨by repeat (first | (with_reducible first | exact HB.out | apply below_alloc | apply pw_below_drewN | apply below_drew1 | refine below_set ?_ GE115.out | refine below_set ?_ GE121.out) | exact HB.out)⟩⟩
        ·replace c19 := Bool.eq_false_iff.mpr c19
         subst c19
         have H1 : (some false) = some r := by rw [if_neg (show ¬ (false = true) by decide)] at H; exact H
         clear H
         have H := H1
         clear H1
         obtain rfl := Option.some.inj H
         have hcz37_0 : wr.cell? ⟨gb115, 0, none⟩ = some (.bool a0_0) := (blk_cell BK115.out 0).trans rfl
         have hcz37_1 : wr.cell? ⟨gb115, 1, none⟩ = some (.slice A0_1 l0_1.length c0_1) := (blk_cell BK115.out 1).trans rfl
         have hcz37_2 : wr.cell? ⟨gb115, 2, none⟩ = some (.slice A0_2 l0_2.length c0_2) := (blk_cell BK115.out 2).trans rfl
         have hfz37_0 := blk_frozen BK115.out 0
         have hfz37_1 := blk_frozen BK115.out 1
         have hfz37_2 := blk_frozen BK115.out 2
         have p120 : 0 ≤ (x3_1 : Int) := of_decide_eq_true (by first | (with_reducible assumption) | assumption)
         have q120 : x3_1 < (l0_2.length : Int) := of_decide_eq_true (by first | (with_reducible assumption) | assumption)
         obtain ⟨ad120, e120, hx120_0, hx120_1, hx120_2⟩ := at_T95 HR0_2.out x3_1 p120 q120
         cases e120
         replace hx120_0 := (HB.out.cell (World.block_lt_of_cell? w _ hx120_0)).trans hx120_0
         replace hx120_1 := (HB.out.cell (World.block_lt_of_cell? w _ hx120_1)).trans hx120_1
         replace hx120_2 := (HB.out.cell (World.block_lt_of_cell? w _ hx120_2)).trans hx120_2
         replace p120 := eq_true p120
         replace q120 := eq_true q120
         go_wp2_with (first | ((with_reducible refine gate_dst (N := 4) rfl ?_); refine box_event ?hg (N := 4) ?hd (cs := #[.int .i64 0, .int .i64 0, .int .i64 0]) (t := 95) ?hr ?_; (case hd => rfl); (case hg => rfl); (case hr => first | (go_simp; done) | (go_simp; rfl)); intro gb121 hg w38 hbox hb; have n0_ := Aside0.mk (blk_below (g := gb115) (o := .cells #[.bool a0_0, .slice A0_1 l0_1.length c0_1, .slice (some ad120) l0_2.length c0_2] 25 (0, 0)) (by (with_reducible repeat (first | refine blk_drewN ?_ _ | refine blk_drew ?_ | refine blk_alloc ?_ _)); exact BK115.out) hb); have n1_ := Aside0.mk (below_step (by repeat (first | (with_reducible first | exact HB.out | apply below_alloc | apply pw_below_drewN | apply below_drew1 | refine below_set ?_ GE115.out) | exact HB.out)) hb); have n2_ := Aside0.mk (hbox); have n3_ := Aside0.mk ((by rw [hg]; exact (below_size (by repeat (first | (with_reducible first | exact HB.out | apply below_alloc | apply pw_below_drewN | apply below_drew1 | refine below_set ?_ GE115.out) | exact HB.out))) : w.heap.size ≤ gb121)); have n4_ := Aside0.mk ((by rw [hg]; exact (below_size (by repeat (first | (with_reducible first | exact HB.out | apply below_alloc | apply pw_below_drewN | apply below_drew1 | refine below_set ?_ GE115.out) | exact HB.out))) : w.heap.size ≤ gb121)); have n5_ := Aside0.mk ((by rw [hg]; exact Nat.ne_of_lt (blk_lt (g := gb115) (o := .cells #[.bool a0_0, .slice A0_1 l0_1.length c0_1, .slice (some ad120) l0_2.length c0_2] 25 (0, 0)) (by (with_reducible repeat (first | refine blk_drewN ?_ _ | refine blk_drew ?_ | refine blk_alloc ?_ _)); exact BK115.out)) : gb115 ≠ gb121)); have n6_ := Aside0.mk ((by rw [hg]; exact Nat.ne_of_gt (blk_lt (g := gb115) (o := .cells #[.bool a0_0, .slice A0_1 l0_1.length c0_1, .slice (some ad120) l0_2.length c0_2] 25 (0, 0)) (by (with_reducible repeat (first | refine blk_drewN ?_ _ | refine blk_drew ?_ | refine blk_alloc ?_ _)); exact BK115.out)) : gb121 ≠ gb115)); clear BK115; clear HB; have BK115 := n0_; have HB := n1_; have BK121 := n2_; have GW121 := n3_; have GE121 := n4_; have NB115_121 := n5_; have NB121_115 := n6_; clear n0_ n1_ n2_ n3_ n4_ n5_ n6_; clear hb hbox hg; have hnb39 := NB121_115.out; have hnc39 := NB115_121.out; have hcz40_0 : w38.cell? ⟨gb121, 0, none⟩ = some (.int .i64 0) := (blk_cell BK121.out 0).trans rfl; have hcz40_1 : w38.cell? ⟨gb121, 1, none⟩ = some (.int .i64 0) := (blk_cell BK121.out 1).trans rfl; have hcz40_2 : w38.cell? ⟨gb121, 2, none⟩ = some (.int .i64 0) := (blk_cell BK121.out 2).trans rfl; have hfz40_0 := blk_frozen BK121.out 0; have hfz40_1 := blk_frozen BK121.out 1; have hfz40_2 := blk_frozen BK121.out 2; have hcz41_0 : w38.cell? ⟨gb115, 0, none⟩ = some (.bool a0_0) := (blk_cell BK115.out 0).trans rfl; have hcz41_1 : w38.cell? ⟨gb115, 1, none⟩ = some (.slice A0_1 l0_1.length c0_1) := (blk_cell BK115.out 1).trans rfl; have hcz41_2 : w38.cell? ⟨gb115, 2, none⟩ = some (.slice (some ad120) l0_2.length c0_2) := (blk_cell BK115.out 2).trans rfl; have hfz41_0 := blk_frozen BK115.out 0; have hfz41_1 := blk_frozen BK115.out 1; have hfz41_2 := blk_frozen BK115.out 2) | (go_at_call 82; (with_reducible refine (laws_has.calls k1 _ _ l0_1 ((rd_T95 l0_2 x3_1).f0) true _ ?side1 ?side2 A16.out).mono ?_); (case side1 => exact Kd.C_below HR0_1.out (by repeat (first | (with_reducible first | exact HB.out | apply below_alloc | apply pw_below_drewN | apply below_drew1 | refine below_set ?_ GE115.out | refine below_set ?_ GE121.out) | exact HB.out))); (case side2 => exact HC0_1.out); rintro e w' ⟨rfl, ⟨nd, rfl⟩⟩) | (go_at_call 82; (with_reducible refine (laws_has.calls k1 _ _ l0_1 ((rd_T95 l0_2 x3_1).f1) false _ ?side1 ?side2 A18.out).mono ?_); (case side1 => exact Kd.C_below HR0_1.out (by repeat (first | (with_reducible first | exact HB.out | apply below_alloc | apply pw_below_drewN | apply below_drew1 | refine below_set ?_ GE115.out | refine below_set ?_ GE121.out) | exact HB.out))); (case side2 => exact HC0_1.out); rintro e w' ⟨rfl, ⟨nd, rfl⟩⟩))
         go_ret
         exact ⟨by first | rfl | (simp [errW_none, errW_some] <;> rfl) | (simp [*, errW_none, errW_some] <;> rfl), by repeat (first | (with_reducible first | exact HB.out | apply below_alloc | apply pw_below_drewN | apply below_drew1 | refine below_set ?_ GE115.out | refine below_set ?_ GE121.out) | exact HB.out)⟩
       ·replace c17 := Bool.eq_false_iff.mpr c17
        subst c17
        have H1 : (some false) = some r := by rw [if_neg (show ¬ (false = true) by decide)] at H; exact H
        clear H
        have H := H1
        clear H1
        obtain rfl := Option.some.inj H
        have hcz42_0 : wr.cell? ⟨gb115, 0, none⟩ = some (.bool a0_0) := (blk_cell BK115.out 0).trans rfl
        have hcz42_1 : wr.cell? ⟨gb115, 1, none⟩ = some (.slice A0_1 l0_1.length c0_1) := (blk_cell BK115.out 1).trans rfl
        have hcz42_2 : wr.cell? ⟨gb115, 2, none⟩ = some (.slice A0_2 l0_2.length c0_2) := (blk_cell BK115.out 2).trans rfl
        have hfz42_0 := blk_frozen BK115.out 0
        have hfz42_1 := blk_frozen BK115.out 1
        have hfz42_2 := blk_frozen BK115.out 2
        have p120 : 0 ≤ (x3_1 : Int) := of_decide_eq_true (by first | (with_reducible assumption) | assumption)
        have q120 : x3_1 < (l0_2.length : Int) := of_decide_eq_true (by first | (with_reducible assumption) | assumption)
        obtain ⟨ad120, e120, hx120_0, hx120_1, hx120_2⟩ := at_T95 HR0_2.out x3_1 p120 q120
        cases e120
        replace hx120_0 := (HB.out.cell (World.block_lt_of_cell? w _ hx120_0)).trans hx120_0
        replace hx120_1 := (HB.out.cell (World.block_lt_of_cell? w _ hx120_1)).trans hx120_1
        replace hx120_2 := (HB.out.cell (World.block_lt_of_cell? w _ hx120_2)).trans hx120_2
        replace p120 := eq_true p120
        replace q120 := eq_true q120
        go_wp2_with (first | ((with_reducible refine gate_dst (N := 4) rfl ?_); refine box_event ?hg (N := 4) ?hd (cs := #[.int .i64 0, .int .i64 0, .int .i64 0]) (t := 95) ?hr ?_; (case hd => rfl); (case hg => rfl); (case hr => first | (go_simp; done) | (go_simp; rfl)); intro gb121 hg w43 hbox hb; have n0_ := Aside0.mk (blk_below (g := gb115) (o := .cells #[.bool a0_0, .slice A0_1 l0_1.length c0_1, .slice (some ad120) l0_2.length c0_2] 25 (0, 0)) (by (with_reducible repeat (first | refine blk_drewN ?_ _ | refine blk_drew ?_ | refine blk_alloc ?_ _)); exact BK115.out) hb); have n1_ := Aside0.mk (below_step (by repeat (first | (with_reducible first | exact HB.out | apply below_alloc | apply pw_below_drewN | apply below_drew1 | refine below_set ?_ GE115.out) | exact HB.out)) hb); have n2_ := Aside0.mk (hbox); have n3_ := Aside0.mk ((by rw [hg]; exact (below_size (by repeat (first | (with_reducible first | exact HB.out | apply below_alloc | apply pw_below_drewN | apply below_drew1 | refine below_set ?_ GE115.out) | exact HB.out))) : w.heap.size ≤ gb121)); have n4_ := Aside0.mk ((by rw [hg]; exact (below_size (by repeat (first | (with_reducible first | exact HB.out | apply below_alloc | apply pw_below_drewN | apply below_drew1 | refine below_set ?_ GE115.out) | exact HB.out))) : w.heap.size ≤ gb121)); have n5_ := Aside0.mk ((by rw [hg]; exact Nat.ne_of_lt (blk_lt (g := gb115) (o := .cells #[.bool a0_0, .slice A0_1 l0_1.length c0_1, .slice (some ad120) l0_2.length c0_2] 25 (0, 0)) (by (with_reducible repeat (first | refine blk_drewN ?_ _ | refine blk_drew ?_ | refine blk_alloc ?_ _)); exact BK115.out)) : gb115 ≠ gb121)); have n6_ := Aside0.mk ((by rw [hg]; exact Nat.ne_of_gt (blk_lt (g := gb115) (o := .cells #[.bool a0_0, .slice A0_1 l0_1.length c0_1, .slice (some ad120) l0_2.length c0_2] 25 (0, 0)) (by (with_reducible repeat (first | refine blk_drewN ?_ _ | refine blk_drew ?_ | refine blk_alloc ?_ _)); exact BK115.out)) : gb121 ≠ gb115)); clear BK115; clear HB; have BK115 := n0_; have HB := n1_; have BK121 := n2_; have GW121 := n3_; have GE121 := n4_; have NB115_121 := n5_; have NB121_115 := n6_; clear n0_ n1_ n2_ n3_ n4_ n5_ n6_; clear hb hbox hg; have hnb44 := NB121_115.out; have hnc44 := NB115_121.out; have hcz45_0 : w43.cell? ⟨gb121, 0, none⟩ = some (.int .i64 0) := (blk_cell BK121.out 0).trans rfl; have hcz45_1 : w43.cell? ⟨gb121, 1, none⟩ = some (.int .i64 0) := (blk_cell BK121.out 1).trans rfl; have hcz45_2 : w43.cell? ⟨gb121, 2, none⟩ = some (.int .i64 0) := (blk_cell BK121.out 2).trans rfl; have hfz45_0 := blk_frozen BK121.out 0; have hfz45_1 := blk_frozen BK121.out 1; have hfz45_2 := blk_frozen BK121.out 2; have hcz46_0 : w43.cell? ⟨gb115, 0, none⟩ = some (.bool a0_0) := (blk_cell BK115.out 0).trans rfl; have hcz46_1 : w43.cell? ⟨gb115, 1, none⟩ = some (.slice A0_1 l0_1.length c0_1) := (blk_cell BK115.out 1).trans rfl; have hcz46_2 : w43.cell? ⟨gb115, 2, none⟩ = some (.slice (some ad120) l0_2.length c0_2) := (blk_cell BK115.out 2).trans rfl; have hfz46_0 := blk_frozen BK115.out 0; have hfz46_1 := blk_frozen BK115.out 1; have hfz46_2 := blk_frozen BK115.out 2) | (go_at_call 82; (with_reducible refine (laws_has.calls k1 _ _ l0_1 ((rd_T95 l0_2 x3_1).f0) false _ ?side1 ?side2 A16.out).mono ?_); (case side1 => exact Kd.C_below HR0_1.out (by repeat (first | (with_reducible first | exact HB.out | apply below_alloc | apply pw_below_drewN | apply below_drew1 | refine below_set ?_ GE115.out | refine below_set ?_ GE121.out) | exact HB.out))); (case side2 => exact HC0_1.out); rintro e w' ⟨rfl, ⟨nd, rfl⟩⟩))
        go_ret
        exact ⟨by first | rfl | (simp [errW_none, errW_some] <;> rfl) | (simp [*, errW_none, errW_some] <;> rfl), by repeat (first | (with_reducible first | exact HB.out | apply below_alloc | apply pw_below_drewN | apply below_drew1 | refine below_set ?_ GE115.out | refine below_set ?_ GE121.out) | exact HB.out)⟩
     ·rw [if_neg c10] at H
      exact absurd H (by simp)
    ·rw [if_neg c9] at H
     have c9b0 : decide (x3_1 < (l0_2.length : Int)) = false := decide_eq_false c9
     clear c9
     obtain rfl := Option.some.inj H
     have hcz47_0 : wr.cell? ⟨gb115, 0, none⟩ = some (.bool a0_0) := (blk_cell BK115.out 0).trans rfl
     have hcz47_1 : wr.cell? ⟨gb115, 1, none⟩ = some (.slice A0_1 l0_1.length c0_1) := (blk_cell BK115.out 1).trans rfl
     have hcz47_2 : wr.cell? ⟨gb115, 2, none⟩ = some (.slice A0_2 l0_2.length c0_2) := (blk_cell BK115.out 2).trans rfl
     have hfz47_0 := blk_frozen BK115.out 0
     have hfz47_1 := blk_frozen BK115.out 1
     have hfz47_2 := blk_frozen BK115.out 2
     go_wp2
     go_ret
     exact ⟨by first | rfl | (simp [errW_none, errW_some] <;> rfl) | (simp [*, errW_none, errW_some] <;> rfl), by repeat (first | (with_reducible first | exact HB.out | apply below_alloc | apply pw_below_drewN | apply below_drew1 | refine below_set ?_ GE115.out) | exact HB.out)⟩
 ·replace c4 := Bool.eq_false_iff.mpr c4
  subst c4
  have H1 : (some false) = some r := by rw [if_neg (show ¬ (false = true) by decide)] at H; exact H
  clear H
  have H := H1
  clear H1
  obtain rfl := Option.some.inj H
  go_enter Tryz.func52, Tryz.ntmps52
  go_wp2_with (first | ((with_reducible refine gate_dst (N := 1) rfl ?_); refine box_event ?hg (N := 1) ?hd (cs := #[.bool a0_0, .slice A0_1 l0_1.length c0_1, .slice A0_2 l0_2.length c0_2]) (t := 25) ?hr ?_; (case hd => rfl); (case hg => rfl); (case hr => first | (go_simp; done) | (go_simp; rfl)); intro gb115 hg w48 hbox hb; have n0_ := Aside0.mk (below_step (by repeat (first | (with_reducible first | exact HB.out | apply below_alloc | apply pw_below_drewN | apply below_drew1) | exact HB.out)) hb); have n1_ := Aside0.mk (hbox); have n2_ := Aside0.mk ((by rw [hg]; exact (below_size (by repeat (first | (with_reducible first | exact HB.out | apply below_alloc | apply pw_below_drewN | apply below_drew1) | exact HB.out))) : w.heap.size ≤ gb115)); have n3_ := Aside0.mk ((by rw [hg]; exact (below_size (by repeat (first | (with_reducible first | exact HB.out | apply below_alloc | apply pw_below_drewN | apply below_drew1) | exact HB.out))) : w.heap.size ≤ gb115)); clear HB; have HB := n0_; have BK115 := n1_; have GW115 := n2_; have GE115 := n3_; clear n0_ n1_ n2_ n3_; clear hb hbox hg; have hcz49_0 : w48.cell? ⟨gb115, 0, none⟩ = some (.bool a0_0) := (blk_cell BK115.out 0).trans rfl; have hcz49_1 : w48.cell? ⟨gb115, 1, none⟩ = some (.slice A0_1 l0_1.length c0_1) := (blk_cell BK115.out 1).trans rfl; have hcz49_2 : w48.cell? ⟨gb115, 2, none⟩ = some (.slice A0_2 l0_2.length c0_2) := (blk_cell BK115.out 2).trans rfl; have hfz49_0 := blk_frozen BK115.out 0; have hfz49_1 := blk_frozen BK115.out 1; have hfz49_2 := blk_frozen BK115.out 2) | ((with_reducible refine gate_callee (f := 40) rfl ?_); refine goesL_ (some 7) rfl rfl Tryz.func40 (by kernel_rfl) rfl #[.slice A0_1 l0_1.length c0_1] rfl (by (try simp only [List.map_toArray, List.map_cons, List.map_nil]); first | done | rfl | (simp only [List.length_drop, List.length_take]; rfl)) ?_; (with_reducible refine (laws_sorted.calls k _ _ l0_1 t116 _ ?side1 ?side2 A2.out).mono ?_); (case side1 => repeat (first | exact (Kd.C_below HR0_1.out HB.out) | (with_reducible refine Kd.C_alloc ?_ _) | (with_reducible refine Kd.C_drewN ?_ _) | (with_reducible refine Kd.C_drew ?_))); (case side2 => exact HC0_1.out); rintro e w50 ⟨v117, rfl, ho0, hb⟩; refine ⟨_, rfl, ?_⟩; have n0_ := Aside0.mk (Kd.R_lower ho0 (below_size (by repeat (first | (with_reducible first | exact HB.out | apply below_alloc | apply pw_below_drewN | apply below_drew1 | refine below_set ?_ GE115.out) | exact HB.out)))); have n1_ := Aside0.mk (blk_below (g := gb115) (o := .cells #[.bool a0_0, .slice A0_1 l0_1.length c0_1, .slice A0_2 l0_2.length c0_2] 25 (0, 0)) (by (with_reducible repeat (first | refine blk_drewN ?_ _ | refine blk_drew ?_ | refine blk_alloc ?_ _)); exact BK115.out) hb); have n2_ := Aside0.mk (below_step (by repeat (first | (with_reducible first | exact HB.out | apply below_alloc | apply pw_below_drewN | apply below_drew1 | refine below_set ?_ GE115.out) | exact HB.out)) hb); clear BK115; clear HB; have HO118 := n0_; have BK115 := n1_; have HB := n2_; clear n0_ n1_ n2_; (try clear hb); (try clear hb2); (try clear hk); (try clear hi); (try clear ho0); obtain ⟨Ao51, co51, eo51⟩ := Kd.R_slice HO118.out; subst eo51) | ((with_reducible refine gate_callee (f := 64) rfl ?_); refine goesL_ (some 8) rfl rfl Tryz.func64 (by kernel_rfl) rfl #[.slice Ao51 t116.length co51] rfl (by (try simp only [List.map_toArray, List.map_cons, List.map_nil]); first | done | rfl | (simp only [List.length_drop, List.length_take]; rfl)) ?_; (with_reducible refine (laws_rising.calls k _ _ t116 false _ ?side1 ?side2 A3.out).mono ?_); (case side1 => repeat (first | exact (Kd.R_reads' HO118.out).2.2 | (with_reducible refine Kd.C_alloc ?_ _) | (with_reducible refine Kd.C_drewN ?_ _) | (with_reducible refine Kd.C_drew ?_))); (case side2 => exact (Kd.R_reads' HO118.out).2.1); rintro e w' ⟨rfl, ⟨nd, rfl⟩⟩; refine ⟨_, rfl, ?_⟩))
  go_ret
  exact ⟨by first | rfl | (simp [errW_none, errW_some] <;> rfl) | (simp [*, errW_none, errW_some] <;> rfl), by repeat (first | (with_reducible first | exact HB.out | apply below_alloc | apply pw_below_drewN | apply below_drew1 | refine below_set ?_ GE115.out) | exact HB.out)⟩

/-! ### laws_few: function 18 -/
def laws_few.f (k : Nat) (a0_0 : Bool) (l0_1 : List Int) (l0_2 : List (S95)) (a1 : Int) : Option (Bool) := if (l0_1.length : Int) ≤ a1 then (if (l0_2.length : Int) ≤ (wrap64 (8 * a1)) then ((laws_well.f k a0_0 l0_1 l0_2).bind fun t125 => (some t125)) else (some false)) else (some false)
set_option maxHeartbeats 8000000 in
set_option maxRecDepth 100000 in
theorem laws_few.calls (k : Nat) (a0_0 : Bool) (A0_1 : Option Addr) (c0_1 : Nat) (l0_1 : List Int) (A0_2 : Option Addr) (c0_2 : Nat) (l0_2 : List (S95)) (a1 : Int) (r : Bool) (w : World) (hr0_1 : Kd.C (Kd.int .i64) w A0_1 l0_1.length l0_1) (hc0_1 : l0_1.length ≤ c0_1) (hr0_2 : Kd.C k95 w A0_2 l0_2.length l0_2) (hc0_2 : l0_2.length ≤ c0_2) (h : laws_few.f k a0_0 l0_1 l0_2 a1 = some r) :
  Calls Tryz.prog 18 #[.agg #[.bool a0_0, .slice A0_1 l0_1.length c0_1, .slice A0_2 l0_2.length c0_2], .int .i64 a1] w fun e w' => e = .returned (.bool r) ∧ Below w.heap.size w w' := by
 have hu25 := Tryz.underlying25
 have HR0_1 := Aside0.mk hr0_1
 have HC0_1 := Aside0.mk hc0_1
 clear hr0_1 hc0_1
 have HR0_2 := Aside0.mk hr0_2
 have HC0_2 := Aside0.mk hc0_2
 clear hr0_2 hc0_2
 have HB := Aside0.mk (Below.refl w.heap.size w)
 have H : (if (l0_1.length : Int) ≤ a1 then (if (l0_2.length : Int) ≤ (wrap64 (8 * a1)) then ((laws_well.f k a0_0 l0_1 l0_2).bind fun t125 => (some t125)) else (some false)) else (some false)) = some r := h
 clear h
 by_cases c3 : (l0_1.length : Int) ≤ a1
 ·rw [if_pos c3] at H
  have c3b0 : decide ((l0_1.length : Int) ≤ a1) = true := decide_eq_true c3
  clear c3
  by_cases c4 : (l0_2.length : Int) ≤ (wrap64 (8 * a1))
  ·rw [if_pos c4] at H
   have c4b0 : decide ((l0_2.length : Int) ≤ (wrap64 (8 * a1))) = true := decide_eq_true c4
   clear c4
   replace H := Option.bind_eq_some_iff.mp H
   obtain ⟨t125, A50, H⟩ := H
   replace H : (some t125) = some r := H
   have A5 := Aside0.mk A50
   clear A50
   obtain rfl := Option.some.inj H
   go_enter Tryz.func18, Tryz.ntmps18
   go_wp2_with (first | ((with_reducible refine gate_dst (N := 2) rfl ?_); (try (refine gate_guard (by rfl) ?_; dsimp only)); refine box_event ?hg (N := 2) ?hd (cs := #[.bool a0_0, .slice A0_1 l0_1.length c0_1, .slice A0_2 l0_2.length c0_2]) (t := 25) ?hr ?_; (case hd => rfl); (case hg => rfl); (case hr => first | (go_simp; done) | (go_simp; rfl)); intro gb124 hg w6 hbox hb; have n0_ := Aside0.mk (below_step (by repeat (first | (with_reducible first | exact HB.out | apply below_alloc | apply pw_below_drewN | apply below_drew1) | exact HB.out)) hb); have n1_ := Aside0.mk (hbox); have n2_ := Aside0.mk ((by rw [hg]; exact (below_size (by repeat (first | (with_reducible first | exact HB.out | apply below_alloc | apply pw_below_drewN | apply below_drew1) | exact HB.out))) : w.heap.size ≤ gb124)); have n3_ := Aside0.mk ((by rw [hg]; exact (below_size (by repeat (first | (with_reducible first | exact HB.out | apply below_alloc | apply pw_below_drewN | apply below_drew1) | exact HB.out))) : w.heap.size ≤ gb124)); clear HB; have HB := n0_; have BK124 := n1_; have GW124 := n2_; have GE124 := n3_; clear n0_ n1_ n2_ n3_; clear hb hbox hg; have hcz7_0 : w6.cell? ⟨gb124, 0, none⟩ = some (.bool a0_0) := (blk_cell BK124.out 0).trans rfl; have hcz7_1 : w6.cell? ⟨gb124, 1, none⟩ = some (.slice A0_1 l0_1.length c0_1) := (blk_cell BK124.out 1).trans rfl; have hcz7_2 : w6.cell? ⟨gb124, 2, none⟩ = some (.slice A0_2 l0_2.length c0_2) := (blk_cell BK124.out 2).trans rfl; have hfz7_0 := blk_frozen BK124.out 0; have hfz7_1 := blk_frozen BK124.out 1; have hfz7_2 := blk_frozen BK124.out 2) | (go_at_call 52; (with_reducible refine (laws_well.calls k a0_0 _ _ l0_1 _ _ l0_2 t125 _ ?side1 ?side2 ?side3 ?side4 A5.out).mono ?_); (case side1 => repeat (first | exact (Kd.C_below HR0_1.out HB.out) | (with_reducible refine Kd.C_alloc ?_ _) | (with_reducible refine Kd.C_drewN ?_ _) | (with_reducible refine Kd.C_drew ?_))); (case side2 => exact HC0_1.out); (case side3 => repeat (first | exact (Kd.C_below HR0_2.out HB.out) | (with_reducible refine Kd.C_alloc ?_ _) | (with_reducible refine Kd.C_drewN ?_ _) | (with_reducible refine Kd.C_drew ?_))); (case side4 => exact HC0_2.out); rintro e w8 ⟨rfl, hb⟩; have n0_ := Aside0.mk (blk_below (g := gb124) (o := .cells #[.bool a0_0, .slice A0_1 l0_1.length c0_1, .slice A0_2 l0_2.length c0_2] 25 (0, 0)) (by (with_reducible repeat (first | refine blk_drewN ?_ _ | refine blk_drew ?_ | refine blk_alloc ?_ _)); exact BK124.out) hb); have n1_ := Aside0.mk (below_step (by repeat (first | (with_reducible first | exact HB.out | apply below_alloc | apply pw_below_drewN | apply below_drew1 | refine below_set ?_ GE124.out) | exact HB.out)) hb); clear BK124; clear HB; have BK124 := n0_; have HB := n1_; clear n0_ n1_; (try clear hb); (try clear hb2); (try clear hk); (try clear hi)))
   go_ret
   exact ⟨by first | rfl | (simp [errW_none, errW_some] <;> rfl) | (simp [*, errW_none, errW_some] <;> rfl), by repeat (first | (with_reducible first | exact HB.out | apply below_alloc | apply pw_below_drewN | apply below_drew1 | refine below_set ?_ GE124.out) | exact HB.out)⟩
  ·rw [if_neg c4] at H
   have c4b0 : decide ((l0_2.length : Int) ≤ (wrap64 (8 * a1))) = false := decide_eq_false c4
   clear c4
   obtain rfl := Option.some.inj H
   go_enter Tryz.func18, Tryz.ntmps18
   go_wp2_with (first | ((with_reducible refine gate_dst (N := 2) rfl ?_); (try (refine gate_guard (by rfl) ?_; dsimp only)); refine box_event ?hg (N := 2) ?hd (cs := #[.bool a0_0, .slice A0_1 l0_1.length c0_1, .slice A0_2 l0_2.length c0_2]) (t := 25) ?hr ?_; (case hd => rfl); (case hg => rfl); (case hr => first | (go_simp; done) | (go_simp; rfl)); intro gb124 hg w9 hbox hb; have n0_ := Aside0.mk (below_step (by repeat (first | (with_reducible first | exact HB.out | apply below_alloc | apply pw_below_drewN | apply below_drew1) | exact HB.out)) hb); have n1_ := Aside0.mk (hbox); have n2_ := Aside0.mk ((by rw [hg]; exact (below_size (by repeat (first | (with_reducible first | exact HB.out | apply below_alloc | apply pw_below_drewN | apply below_drew1) | exact HB.out))) : w.heap.size ≤ gb124)); have n3_ := Aside0.mk ((by rw [hg]; exact (below_size (by repeat (first | (with_reducible first | exact HB.out | apply below_alloc | apply pw_below_drewN | apply below_drew1) | exact HB.out))) : w.heap.size ≤ gb124)); clear HB; have HB := n0_; have BK124 := n1_; have GW124 := n2_; have GE124 := n3_; clear n0_ n1_ n2_ n3_; clear hb hbox hg; have hcz10_0 : w9.cell? ⟨gb124, 0, none⟩ = some (.bool a0_0) := (blk_cell BK124.out 0).trans rfl; have hcz10_1 : w9.cell? ⟨gb124, 1, none⟩ = some (.slice A0_1 l0_1.length c0_1) := (blk_cell BK124.out 1).trans rfl; have hcz10_2 : w9.cell? ⟨gb124, 2, none⟩ = some (.slice A0_2 l0_2.length c0_2) := (blk_cell BK124.out 2).trans rfl; have hfz10_0 := blk_frozen BK124.out 0; have hfz10_1 := blk_frozen BK124.out 1; have hfz10_2 := blk_frozen BK124.out 2))
   go_ret
   exact ⟨by first | rfl | (simp [errW_none, errW_some] <;> rfl) | (simp [*, errW_none, errW_some] <;> rfl), by repeat (first | (with_reducible first | exact HB.out | apply below_alloc | apply pw_below_drewN | apply below_drew1 | refine below_set ?_ GE124.out) | exact HB.out)⟩
 ·rw [if_neg c3] at H
  have c3b0 : decide ((l0_1.length : Int) ≤ a1) = false := decide_eq_false c3
  clear c3
  obtain rfl := Option.some.inj H
  go_enter Tryz.func18, Tryz.ntmps18
  go_wp2_with (first | ((with_reducible refine gate_dst (N := 2) rfl ?_); (try (refine gate_guard (by rfl) ?_; dsimp only)); refine box_event ?hg (N := 2) ?hd (cs := #[.bool a0_0, .slice A0_1 l0_1.length c0_1, .slice A0_2 l0_2.length c0_2]) (t := 25) ?hr ?_; (case hd => rfl); (case hg => rfl); (case hr => first | (go_simp; done) | (go_simp; rfl)); intro gb124 hg w11 hbox hb; have n0_ := Aside0.mk (below_step (by repeat (first | (with_reducible first | exact HB.out | apply below_alloc | apply pw_below_drewN | apply below_drew1) | exact HB.out)) hb); have n1_ := Aside0.mk (hbox); have n2_ := Aside0.mk ((by rw [hg]; exact (below_size (by repeat (first | (with_reducible first | exact HB.out | apply below_alloc | apply pw_below_drewN | apply below_drew1) | exact HB.out))) : w.heap.size ≤ gb124)); have n3_ := Aside0.mk ((by rw [hg]; exact (below_size (by repeat (first | (with_reducible first | exact HB.out | apply below_alloc | apply pw_below_drewN | apply below_drew1) | exact HB.out))) : w.heap.size ≤ gb124)); clear HB; have HB := n0_; have BK124 := n1_; have GW124 := n2_; have GE124 := n3_; clear n0_ n1_ n2_ n3_; clear hb hbox hg; have hcz12_0 : w11.cell? ⟨gb124, 0, none⟩ = some (.bool a0_0) := (blk_cell BK124.out 0).trans rfl; have hcz12_1 : w11.cell? ⟨gb124, 1, none⟩ = some (.slice A0_1 l0_1.length c0_1) := (blk_cell BK124.out 1).trans rfl; have hcz12_2 : w11.cell? ⟨gb124, 2, none⟩ = some (.slice A0_2 l0_2.length c0_2) := (blk_cell BK124.out 2).trans rfl; have hfz12_0 := blk_frozen BK124.out 0; have hfz12_1 := blk_frozen BK124.out 1; have hfz12_2 := blk_frozen BK124.out 2))
  go_ret
  exact ⟨by first | rfl | (simp [errW_none, errW_some] <;> rfl) | (simp [*, errW_none, errW_some] <;> rfl), by repeat (first | (with_reducible first | exact HB.out | apply below_alloc | apply pw_below_drewN | apply below_drew1 | refine below_set ?_ GE124.out) | exact HB.out)⟩

/-! ### laws_fewOf: function 7 -/
def laws_fewOf.f (k : Nat) (a0_0 : Bool) (l0_1 : List Int) (l0_2 : List (S95)) (a1 : Bool) (a2 : Int) : Option (Bool) := if (a0_0 == a1) = true then ((laws_few.f k a0_0 l0_1 l0_2 a2).bind fun t127 => (some t127)) else (some false)
set_option maxHeartbeats 8000000 in
set_option maxRecDepth 100000 in
theorem laws_fewOf.calls (k : Nat) (a0_0 : Bool) (A0_1 : Option Addr) (c0_1 : Nat) (l0_1 : List Int) (A0_2 : Option Addr) (c0_2 : Nat) (l0_2 : List (S95)) (a1 : Bool) (a2 : Int) (r : Bool) (w : World) (hr0_1 : Kd.C (Kd.int .i64) w A0_1 l0_1.length l0_1) (hc0_1 : l0_1.length ≤ c0_1) (hr0_2 : Kd.C k95 w A0_2 l0_2.length l0_2) (hc0_2 : l0_2.length ≤ c0_2) (h : laws_fewOf.f k a0_0 l0_1 l0_2 a1 a2 = some r) :
  Calls Tryz.prog 7 #[.agg #[.bool a0_0, .slice A0_1 l0_1.length c0_1, .slice A0_2 l0_2.length c0_2], .bool a1, .int .i64 a2] w fun e w' => e = .returned (.bool r) ∧ Below w.heap.size w w' := by
 have hu25 := Tryz.underlying25
 have HR0_1 := Aside0.mk hr0_1
 have HC0_1 := Aside0.mk hc0_1
 clear hr0_1 hc0_1
 have HR0_2 := Aside0.mk hr0_2
 have HC0_2 := Aside0.mk hc0_2
 clear hr0_2 hc0_2
 have HB := Aside0.mk (Below.refl w.heap.size w)
 have H : (if (a0_0 == a1) = true then ((laws_few.f k a0_0 l0_1 l0_2 a2).bind fun t127 => (some t127)) else (some false)) = some r := h
 clear h
 by_cases c4 : (a0_0 == a1) = true
 ·rw [if_pos c4] at H
  have c4b0 : (a0_0 == a1) = true := c4
  (try (have c4b1 : decide (a0_0 = a1) = true := by simpa using c4))
  (try (have c4b2 : (a0_0 == a1) = true := by simpa using c4))
  clear c4
  replace H := Option.bind_eq_some_iff.mp H
  obtain ⟨t127, A50, H⟩ := H
  replace H : (some t127) = some r := H
  have A5 := Aside0.mk A50
  clear A50
  obtain rfl := Option.some.inj H
  go_enter Tryz.func7, Tryz.ntmps7
  go_wp2_with (first | ((with_reducible refine gate_dst (N := 3) rfl ?_); refine box_event ?hg (N := 3) ?hd (cs := #[.bool a0_0, .slice A0_1 l0_1.length c0_1, .slice A0_2 l0_2.length c0_2]) (t := 25) ?hr ?_; (case hd => rfl); (case hg => rfl); (case hr => first | (go_simp; done) | (go_simp; rfl)); intro gb126 hg w6 hbox hb; have n0_ := Aside0.mk (below_step (by repeat (first | (with_reducible first | exact HB.out | apply below_alloc | apply pw_below_drewN | apply below_drew1) | exact HB.out)) hb); have n1_ := Aside0.mk (hbox); have n2_ := Aside0.mk ((by rw [hg]; exact (below_size (by repeat (first | (with_reducible first | exact HB.out | apply below_alloc | apply pw_below_drewN | apply below_drew1) | exact HB.out))) : w.heap.size ≤ gb126)); have n3_ := Aside0.mk ((by rw [hg]; exact (below_size (by repeat (first | (with_reducible first | exact HB.out | apply below_alloc | apply pw_below_drewN | apply below_drew1) | exact HB.out))) : w.heap.size ≤ gb126)); clear HB; have HB := n0_; have BK126 := n1_; have GW126 := n2_; have GE126 := n3_; clear n0_ n1_ n2_ n3_; clear hb hbox hg; have hcz7_0 : w6.cell? ⟨gb126, 0, none⟩ = some (.bool a0_0) := (blk_cell BK126.out 0).trans rfl; have hcz7_1 : w6.cell? ⟨gb126, 1, none⟩ = some (.slice A0_1 l0_1.length c0_1) := (blk_cell BK126.out 1).trans rfl; have hcz7_2 : w6.cell? ⟨gb126, 2, none⟩ = some (.slice A0_2 l0_2.length c0_2) := (blk_cell BK126.out 2).trans rfl; have hfz7_0 := blk_frozen BK126.out 0; have hfz7_1 := blk_frozen BK126.out 1; have hfz7_2 := blk_frozen BK126.out 2) | (go_at_call 18; (with_reducible refine (laws_few.calls k a0_0 _ _ l0_1 _ _ l0_2 a2 t127 _ ?side1 ?side2 ?side3 ?side4 A5.out).mono ?_); (case side1 => repeat (first | exact (Kd.C_below HR0_1.out HB.out) | (with_reducible refine Kd.C_alloc ?_ _) | (with_reducible refine Kd.C_drewN ?_ _) | (with_reducible refine Kd.C_drew ?_))); (case side2 => exact HC0_1.out); (case side3 => repeat (first | exact (Kd.C_below HR0_2.out HB.out) | (with_reducible refine Kd.C_alloc ?_ _) | (with_reducible refine Kd.C_drewN ?_ _) | (with_reducible refine Kd.C_drew ?_))); (case side4 => exact HC0_2.out); rintro e w8 ⟨rfl, hb⟩; have n0_ := Aside0.mk (blk_below (g := gb126) (o := .cells #[.bool a0_0, .slice A0_1 l0_1.length c0_1, .slice A0_2 l0_2.length c0_2] 25 (0, 0)) (by (with_reducible repeat (first | refine blk_drewN ?_ _ | refine blk_drew ?_ | refine blk_alloc ?_ _)); exact BK126.out) hb); have n1_ := Aside0.mk (below_step (by repeat (first | (with_reducible first | exact HB.out | apply below_alloc | apply pw_below_drewN | apply below_drew1 | refine below_set ?_ GE126.out) | exact HB.out)) hb); clear BK126; clear HB; have BK126 := n0_; have HB := n1_; clear n0_ n1_; (try clear hb); (try clear hb2); (try clear hk); (try clear hi)))
  go_ret
  exact ⟨by first | rfl | (simp [errW_none, errW_some] <;> rfl) | (simp [*, errW_none, errW_some] <;> rfl), by repeat (first | (with_reducible first | exact HB.out | apply below_alloc | apply pw_below_drewN | apply below_drew1 | refine below_set ?_ GE126.out) | exact HB.out)⟩
 ·rw [if_neg c4] at H
  have c4b0 : (a0_0 == a1) = false := by simpa using c4
  (try (have c4b1 : decide (a0_0 = a1) = false := by simpa using c4))
  (try (have c4b2 : (a0_0 == a1) = false := by simpa using c4))
  (try (have c4b3 : ¬ (a0_0 = a1) := by simpa using c4))
  clear c4
  obtain rfl := Option.some.inj H
  go_enter Tryz.func7, Tryz.ntmps7
  go_wp2_with (first | ((with_reducible refine gate_dst (N := 3) rfl ?_); refine box_event ?hg (N := 3) ?hd (cs := #[.bool a0_0, .slice A0_1 l0_1.length c0_1, .slice A0_2 l0_2.length c0_2]) (t := 25) ?hr ?_; (case hd => rfl); (case hg => rfl); (case hr => first | (go_simp; done) | (go_simp; rfl)); intro gb126 hg w9 hbox hb; have n0_ := Aside0.mk (below_step (by repeat (first | (with_reducible first | exact HB.out | apply below_alloc | apply pw_below_drewN | apply below_drew1) | exact HB.out)) hb); have n1_ := Aside0.mk (hbox); have n2_ := Aside0.mk ((by rw [hg]; exact (below_size (by repeat (first | (with_reducible first | exact HB.out | apply below_alloc | apply pw_below_drewN | apply below_drew1) | exact HB.out))) : w.heap.size ≤ gb126)); have n3_ := Aside0.mk ((by rw [hg]; exact (below_size (by repeat (first | (with_reducible first | exact HB.out | apply below_alloc | apply pw_below_drewN | apply below_drew1) | exact HB.out))) : w.heap.size ≤ gb126)); clear HB; have HB := n0_; have BK126 := n1_; have GW126 := n2_; have GE126 := n3_; clear n0_ n1_ n2_ n3_; clear hb hbox hg; have hcz10_0 : w9.cell? ⟨gb126, 0, none⟩ = some (.bool a0_0) := (blk_cell BK126.out 0).trans rfl; have hcz10_1 : w9.cell? ⟨gb126, 1, none⟩ = some (.slice A0_1 l0_1.length c0_1) := (blk_cell BK126.out 1).trans rfl; have hcz10_2 : w9.cell? ⟨gb126, 2, none⟩ = some (.slice A0_2 l0_2.length c0_2) := (blk_cell BK126.out 2).trans rfl; have hfz10_0 := blk_frozen BK126.out 0; have hfz10_1 := blk_frozen BK126.out 1; have hfz10_2 := blk_frozen BK126.out 2))
  go_ret
  exact ⟨by first | rfl | (simp [errW_none, errW_some] <;> rfl) | (simp [*, errW_none, errW_some] <;> rfl), by repeat (first | (with_reducible first | exact HB.out | apply below_alloc | apply pw_below_drewN | apply below_drew1 | refine below_set ?_ GE126.out) | exact HB.out)⟩

-- NOT PRINTED: function 139 (cmp_isNaN_int64)

-- NOT PRINTED: function 103 (cmp_Less_int64)

-- NOT PRINTED: function 104 (slices_isNaN_int64)

-- NOT PRINTED: function 76 (slices_BinarySearch_int64_int64)

-- NOT PRINTED: function 42 (impl_plain_index)

-- NOT PRINTED: function 113 (bits_Len32)

-- NOT PRINTED: function 114 (bits_Len64)

-- NOT PRINTED: function 78 (bits_Len)

-- NOT PRINTED: function 160 (slices_insertionSortOrdered_int64)

-- NOT PRINTED: function 176 (slices_siftDownOrdered_int64)

-- NOT PRINTED: function 161 (slices_heapSortOrdered_int64)

-- NOT PRINTED: function 141 (slices_nextPowerOfTwo)

-- NOT PRINTED: function 142 (slices_xorshift_Next)

-- NOT PRINTED: function 162 (slices_breakPatternsOrdered_int64)

-- NOT PRINTED: function 182 (slices_order2Ordered_int64)

-- NOT PRINTED: function 178 (slices_medianOrdered_int64)

-- NOT PRINTED: function 177 (slices_medianAdjacentOrdered_int64)

-- NOT PRINTED: function 163 (slices_choosePivotOrdered_int64)

-- NOT PRINTED: function 164 (slices_reverseRangeOrdered_int64)

-- NOT PRINTED: function 165 (slices_partialInsertionSortOrdered_int64)

-- NOT PRINTED: function 166 (slices_partitionEqualOrdered_int64)

-- NOT PRINTED: function 167 (slices_partitionOrdered_int64)

-- NOT PRINTED: function 131 (slices_pdqsortOrdered_int64)

-- NOT PRINTED: function 91 (slices_Sort_int64_int64)

-- NOT PRINTED: function 92 (slices_Compact_int64_int64)

-- NOT PRINTED: function 93 (slices_Clone_int64_int64)

-- NOT PRINTED: function 168 (impl_arc_int)

-- NOT PRINTED: function 179 (impl_arc_179)

-- NOT PRINTED: function 184 (impl_arc_184)

-- NOT PRINTED: function 183 (impl_arc_183)

-- NOT PRINTED: function 180 (impl_arc_180)

-- NOT PRINTED: function 170 (impl_arc_170)

-- NOT PRINTED: function 132 (impl_set)

-- NOT PRINTED: function 94 (impl_plain_lay)

-- NOT PRINTED: function 66 (impl_read)

-- NOT PRINTED: function 29 (impl_oneWay)

-- NOT PRINTED: function 105 (graph_Node_105)

-- NOT PRINTED: function 140 (graph_Node_140)

-- NOT PRINTED: function 106 (graph_Node_106)

-- NOT PRINTED: function 107 (graph_Node_107)

-- NOT PRINTED: function 171 (graph_Node_171)

-- NOT PRINTED: function 144 (graph_Node_144)

-- NOT PRINTED: function 143 (graph_Node_143)

-- NOT PRINTED: function 108 (graph_Node_108)

-- NOT PRINTED: function 109 (graph_Node_109)

-- NOT PRINTED: function 110 (graph_Node_110)

-- NOT PRINTED: function 111 (graph_Node_111)

-- NOT PRINTED: function 112 (graph_Node_112)

-- NOT PRINTED: function 77 (graph_Node_77)

-- NOT PRINTED: function 44 (graph_Node_44)

-- NOT PRINTED: function 95 (graph_Node_95)

-- NOT PRINTED: function 67 (topo_lexical)

-- NOT PRINTED: function 96 (graph_NodesOf)

-- NOT PRINTED: function 98 (graph_Node_98)

-- NOT PRINTED: function 135 (set_Ints_int64_Add)

-- NOT PRINTED: function 136 (set_Ints_int64_Has)

-- NOT PRINTED: function 137 (set_Ints_int64_Remove)

-- NOT PRINTED: function 100 (topo_tarjan_strongconnect)

-- NOT PRINTED: function 68 (topo_tarjanSCCstabilized)

-- NOT PRINTED: function 101 (graph_Node_101)

-- NOT PRINTED: function 69 (topo_sortedFrom)

-- NOT PRINTED: function 30 (topo_SortStabilized)

-- NOT PRINTED: function 47 (impl_number)

-- NOT PRINTED: function 62 (impl_numbers)

-- NOT PRINTED: function 31 (impl_slots)

-- GIVEN: function 8 (impl_SortStabilized)

-- GIVEN: function 70 (spec_sortInts)

/-! ### spec_Nodes: function 32 -/
def spec_Nodes.f (a0_0 : Bool) (l0_1 : List Int) (l0_2 : List (S95)) : Option (List Int) := (spec_sortInts.f l0_1).bind fun t143 => (some t143)
set_option maxHeartbeats 8000000 in
set_option maxRecDepth 100000 in
theorem spec_Nodes.calls (a0_0 : Bool) (A0_1 : Option Addr) (c0_1 : Nat) (l0_1 : List Int) (A0_2 : Option Addr) (c0_2 : Nat) (l0_2 : List (S95)) (r : List Int) (w : World) (hr0_1 : Kd.C (Kd.int .i64) w A0_1 l0_1.length l0_1) (hc0_1 : l0_1.length ≤ c0_1) (hr0_2 : Kd.C k95 w A0_2 l0_2.length l0_2) (hc0_2 : l0_2.length ≤ c0_2) (h : spec_Nodes.f a0_0 l0_1 l0_2 = some r) :
  Calls Tryz.prog 32 #[.agg #[.bool a0_0, .slice A0_1 l0_1.length c0_1, .slice A0_2 l0_2.length c0_2]] w fun e w' => ∃ v0_ : Value, e = .returned (v0_) ∧ Kd.R (Kd.int .i64) 3 w' w.heap.size (fun _ => True) v0_ r ∧ Below w.heap.size w w' := by
 have hu25 := Tryz.underlying25
 have HR0_1 := Aside0.mk hr0_1
 have HC0_1 := Aside0.mk hc0_1
 clear hr0_1 hc0_1
 have HR0_2 := Aside0.mk hr0_2
 have HC0_2 := Aside0.mk hc0_2
 clear hr0_2 hc0_2
 have HB := Aside0.mk (Below.refl w.heap.size w)
 have H : ((spec_sortInts.f l0_1).bind fun t143 => (some t143)) = some r := h
 clear h
 replace H := Option.bind_eq_some_iff.mp H
 obtain ⟨t143, A20, H⟩ := H
 replace H : (some t143) = some r := H
 have A2 := Aside0.mk A20
 clear A20
 obtain rfl := Option.some.inj H
 go_enter Tryz.func32, Tryz.ntmps32
 go_wp2_with (first | ((with_reducible refine gate_dst (N := 1) rfl ?_); refine box_event ?hg (N := 1) ?hd (cs := #[.bool a0_0, .slice A0_1 l0_1.length c0_1, .slice A0_2 l0_2.length c0_2]) (t := 25) ?hr ?_; (case hd => rfl); (case hg => rfl); (case hr => first | (go_simp; done) | (go_simp; rfl)); intro gb142 hg w3 hbox hb; have n0_ := Aside0.mk (below_step (by repeat (first | (with_reducible first | exact HB.out | apply below_alloc | apply pw_below_drewN | apply below_drew1) | exact HB.out)) hb); have n1_ := Aside0.mk (hbox); have n2_ := Aside0.mk ((by rw [hg]; exact (below_size (by repeat (first | (with_reducible first | exact HB.out | apply below_alloc | apply pw_below_drewN | apply below_drew1) | exact HB.out))) : w.heap.size ≤ gb142)); have n3_ := Aside0.mk ((by rw [hg]; exact (below_size (by repeat (first | (with_reducible first | exact HB.out | apply below_alloc | apply pw_below_drewN | apply below_drew1) | exact HB.out))) : w.heap.size ≤ gb142)); clear HB; have HB := n0_; have BK142 := n1_; have GW142 := n2_; have GE142 := n3_; clear n0_ n1_ n2_ n3_; clear hb hbox hg; have hcz4_0 : w3.cell? ⟨gb142, 0, none⟩ = some (.bool a0_0) := (blk_cell BK142.out 0).trans rfl; have hcz4_1 : w3.cell? ⟨gb142, 1, none⟩ = some (.slice A0_1 l0_1.length c0_1) := (blk_cell BK142.out 1).trans rfl; have hcz4_2 : w3.cell? ⟨gb142, 2, none⟩ = some (.slice A0_2 l0_2.length c0_2) := (blk_cell BK142.out 2).trans rfl; have hfz4_0 := blk_frozen BK142.out 0; have hfz4_1 := blk_frozen BK142.out 1; have hfz4_2 := blk_frozen BK142.out 2) | ((with_reducible refine gate_callee (f := 70) rfl ?_); refine goesL_ (some 5) rfl rfl Tryz.func70 (by kernel_rfl) rfl #[.slice A0_1 l0_1.length c0_1] rfl (by (try simp only [List.map_toArray, List.map_cons, List.map_nil]); first | done | rfl | (simp only [List.length_drop, List.length_take]; rfl)) ?_; (with_reducible refine (spec_sortInts.calls _ _ l0_1 t143 _ ?side1 ?side2 A2.out).mono ?_); (case side1 => repeat (first | exact (Kd.C_below HR0_1.out HB.out) | (with_reducible refine Kd.C_alloc ?_ _) | (with_reducible refine Kd.C_drewN ?_ _) | (with_reducible refine Kd.C_drew ?_))); (case side2 => exact HC0_1.out); rintro e w5 ⟨v144, rfl, ho0, hb⟩; refine ⟨_, rfl, ?_⟩; have n0_ := Aside0.mk (Kd.R_lower ho0 (below_size (by repeat (first | (with_reducible first | exact HB.out | apply below_alloc | apply pw_below_drewN | apply below_drew1 | refine below_set ?_ GE142.out) | exact HB.out)))); have n1_ := Aside0.mk (blk_below (g := gb142) (o := .cells #[.bool a0_0, .slice A0_1 l0_1.length c0_1, .slice A0_2 l0_2.length c0_2] 25 (0, 0)) (by (with_reducible repeat (first | refine blk_drewN ?_ _ | refine blk_drew ?_ | refine blk_alloc ?_ _)); exact BK142.out) hb); have n2_ := Aside0.mk (below_step (by repeat (first | (with_reducible first | exact HB.out | apply below_alloc | apply pw_below_drewN | apply below_drew1 | refine below_set ?_ GE142.out) | exact HB.out)) hb); clear BK142; clear HB; have HO145 := n0_; have BK142 := n1_; have HB := n2_; clear n0_ n1_ n2_; (try clear hb); (try clear hb2); (try clear hk); (try clear hi); (try clear ho0)))
 go_ret
 exact ⟨_, by first | rfl | (simp [errW_none, errW_some] <;> rfl) | (simp [*, errW_none, errW_some] <;> rfl), by (with_reducible repeat (first | apply Kd.R_alloc | apply Kd.R_drewN | apply Kd.R_drew)); exact HO145.out, by repeat (first | (with_reducible first | exact HB.out | apply below_alloc | apply pw_below_drewN | apply below_drew1 | refine below_set ?_ GE142.out) | exact HB.out)⟩

end Go.Proofs.YtddklkgcodjijaaGreat.PL
