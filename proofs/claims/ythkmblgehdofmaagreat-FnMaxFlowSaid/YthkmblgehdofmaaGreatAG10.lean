/- Printed by a program (the kit's printer, run over contracts that were proved by hand). -/
import Derived.Test.YthkmblgehdofmaaGreatAG9
set_option linter.unusedVariables false
set_option linter.unusedSimpArgs false
namespace Go.Proofs.YthkmblgehdofmaaGreat.PL
open Go.RowKit Go.Proofs.YthkmblgehdofmaaGreatW.PrintWords Go.Proofs.YthkmblgehdofmaaGreatW.PrintLast Go.Proofs.YthkmblgehdofmaaGreatW.PrintMore
attribute [local go_sem] max2_int min2_int max_two min_two max_three min_three max_four min_four   -- for this text's walks alone
/-! ### laws_cutOf: function 26 -/
def laws_cutOf.l0 : Nat → List (S54) → Int → Int → Int → Option (Int)
 | 0, _, _, _, _ => none
 | k + 1, x0, x1, x5, x6 => if x6 < (x0.length : Int) then (if 0 ≤ x6 then (if 0 ≤ ((rd_T54 x0 x6).f0) then (if (Go.bits .and .i64 (shr .i64 x1 ((rd_T54 x0 x6).f0)) 1) = 1 then (if 0 ≤ ((rd_T54 x0 x6).f1) then (if (Go.bits .and .i64 (shr .i64 x1 ((rd_T54 x0 x6).f1)) 1) = 0 then (laws_cutOf.l0 k x0 x1 (wrap64 (x5 + ((rd_T54 x0 x6).f2))) (wrap64 (x6 + 1))) else (laws_cutOf.l0 k x0 x1 x5 (wrap64 (x6 + 1)))) else (none)) else (laws_cutOf.l0 k x0 x1 x5 (wrap64 (x6 + 1)))) else (none)) else (none)) else (some x5)
def laws_cutOf.f (k : Nat) (l0 : List (S54)) (a1 : Int) : Option (Int) := laws_cutOf.l0 k l0 a1 0 0
set_option maxHeartbeats 8000000 in
set_option maxRecDepth 100000 in
theorem laws_cutOf.calls (k : Nat) (A0 : Option Addr) (c0 : Nat) (l0 : List (S54)) (a1 : Int) (r : Int) (w : World) (hr0 : Kd.C k54 w A0 l0.length l0) (hc0 : l0.length ≤ c0) (h : laws_cutOf.f k l0 a1 = some r) :
  Calls Tryz.prog 26 #[.slice A0 l0.length c0, .int .i64 a1] w fun e w' => e = .returned (.int .i64 r) ∧ Drawn0 w w' := by
 have HR0 := Aside0.mk hr0
 have HC0 := Aside0.mk hc0
 clear hr0 hc0
 have H : (laws_cutOf.l0 k l0 a1 0 0) = some r := h
 clear h
 have H' := Aside0.mk H
 clear H
 go_enter Tryz.func26, Tryz.ntmps26
 go_wp2
 go_loopg [5, 6] k (fun kq v5 v6 w' => ∃ (x5_1 : Int) (x6_1 : Int), v5 = .int .i64 x5_1 ∧ v6 = .int .i64 x6_1 ∧ Aside0 (laws_cutOf.l0 kq l0 a1 x5_1 x6_1 = some r) ∧ Aside0 (kq ≤ k) ∧ Drawn0 w w')
 case atStart => exact ⟨(0), (0), (by first | rfl | (simp; done) | (simp [*]; done)), (by first | rfl | (simp; done) | (simp [*]; done)), H', ⟨Nat.le_refl _⟩, by repeat (first | exact Drawn0.refl _ | apply Drawn0.step)⟩
 case round =>
  clear H'
  try clear c2
  try clear p2
  obtain ⟨x5_1, x6_1, rfl, rfl, HA, HK1, ⟨m1, rfl⟩⟩ := hrel
  cases gk with
  | zero => exact absurd HA.out (by simp [laws_cutOf.l0])
  | succ k1 =>
   have H := HA.out
   clear HA
   simp only [laws_cutOf.l0] at H
   by_cases c3 : x6_1 < (l0.length : Int)
   ·rw [if_pos c3] at H
    have c3b0 : decide (x6_1 < (l0.length : Int)) = true := decide_eq_true c3
    clear c3
    by_cases c4 : 0 ≤ x6_1
    ·rw [if_pos c4] at H
     have c4b0 : decide (0 ≤ x6_1) = true := decide_eq_true c4
     clear c4
     by_cases c5 : 0 ≤ ((rd_T54 l0 x6_1).f0)
     ·rw [if_pos c5] at H
      have c5b0 := eq_true c5
      have c5b1 : decide (0 ≤ ((rd_T54 l0 x6_1).f0)) = true := decide_eq_true c5
      clear c5
      obtain ⟨ji6, hji6⟩ : ∃ j_ : Int, (shr .i64 a1 ((rd_T54 l0 x6_1).f0)) = j_ := ⟨_, rfl⟩
      replace H : (if (Go.bits .and .i64 (ji6) 1) = 1 then (if 0 ≤ ((rd_T54 l0 x6_1).f1) then (if (Go.bits .and .i64 (shr .i64 a1 ((rd_T54 l0 x6_1).f1)) 1) = 0 then (laws_cutOf.l0 k1 l0 a1 (wrap64 (x5_1 + ((rd_T54 l0 x6_1).f2))) (wrap64 (x6_1 + 1))) else (laws_cutOf.l0 k1 l0 a1 x5_1 (wrap64 (x6_1 + 1)))) else (none)) else (laws_cutOf.l0 k1 l0 a1 x5_1 (wrap64 (x6_1 + 1)))) = some r := by first | (rw [hji6] at H; exact H) | (simp only [hji6] at H ⊢; exact H)
      have hji6_ : (a1 / 2 ^ min ((rd_T54 l0 x6_1).f0).toNat 64) = ji6 := hji6
      have hji6z : ((rd_T54 l0 x6_1).f0) ≤ 64 → (a1 / 2 ^ ((rd_T54 l0 x6_1).f0).toNat) = ji6 := shr_small hji6
      by_cases c7 : (Go.bits .and .i64 (ji6) 1) = 1
      ·rw [if_pos c7] at H
       have c7b0 : ((Go.bits .and .i64 (ji6) 1) == 1) = true := beq_iff_eq.mpr c7
       have c7b1 : ((Go.bits .and .i64 (ji6) 1) != 1) = false := bne_eq_false_iff_eq.mpr c7
       clear c7
       by_cases c8 : 0 ≤ ((rd_T54 l0 x6_1).f1)
       ·rw [if_pos c8] at H
        have c8b0 := eq_true c8
        have c8b1 : decide (0 ≤ ((rd_T54 l0 x6_1).f1)) = true := decide_eq_true c8
        clear c8
        obtain ⟨ji9, hji9⟩ : ∃ j_ : Int, (shr .i64 a1 ((rd_T54 l0 x6_1).f1)) = j_ := ⟨_, rfl⟩
        replace H : (if (Go.bits .and .i64 (ji9) 1) = 0 then (laws_cutOf.l0 k1 l0 a1 (wrap64 (x5_1 + ((rd_T54 l0 x6_1).f2))) (wrap64 (x6_1 + 1))) else (laws_cutOf.l0 k1 l0 a1 x5_1 (wrap64 (x6_1 + 1)))) = some r := by first | (rw [hji9] at H; exact H) | (simp only [hji9] at H ⊢; exact H)
        have hji9_ : (a1 / 2 ^ min ((rd_T54 l0 x6_1).f1).toNat 64) = ji9 := hji9
        have hji9z : ((rd_T54 l0 x6_1).f1) ≤ 64 → (a1 / 2 ^ ((rd_T54 l0 x6_1).f1).toNat) = ji9 := shr_small hji9
        by_cases c10 : (Go.bits .and .i64 (ji9) 1) = 0
        ·rw [if_pos c10] at H
         have c10b0 : ((Go.bits .and .i64 (ji9) 1) == 0) = true := beq_iff_eq.mpr c10
         have c10b1 : ((Go.bits .and .i64 (ji9) 1) != 0) = false := bne_eq_false_iff_eq.mpr c10
         clear c10
         have H' := Aside0.mk H
         clear H
         have p355 : 0 ≤ (x6_1 : Int) := of_decide_eq_true (by first | (with_reducible assumption) | assumption)
         have q355 : x6_1 < (l0.length : Int) := of_decide_eq_true (by first | (with_reducible assumption) | assumption)
         obtain ⟨ad355, e355, hx355_0, hx355_1, hx355_2⟩ := at_T54 HR0.out x6_1 p355 q355
         cases e355
         replace p355 := eq_true p355
         replace q355 := eq_true q355
         have p356 : 0 ≤ (x6_1 : Int) := of_decide_eq_true (by first | (with_reducible assumption) | assumption)
         have q356 : x6_1 < (l0.length : Int) := of_decide_eq_true (by first | (with_reducible assumption) | assumption)
         obtain ⟨ad356, e356, hx356_0, hx356_1, hx356_2⟩ := at_T54 HR0.out x6_1 p356 q356
         obtain rfl : ad355 = ad356 := (by injection e356)
         replace p356 := eq_true p356
         replace q356 := eq_true q356
         have p357 : 0 ≤ (x6_1 : Int) := of_decide_eq_true (by first | (with_reducible assumption) | assumption)
         have q357 : x6_1 < (l0.length : Int) := of_decide_eq_true (by first | (with_reducible assumption) | assumption)
         obtain ⟨ad357, e357, hx357_0, hx357_1, hx357_2⟩ := at_T54 HR0.out x6_1 p357 q357
         obtain rfl : ad355 = ad357 := (by injection e357)
         replace p357 := eq_true p357
         replace q357 := eq_true q357
         go_wp2
         go_roundg k1
         case measure => have := HK1.out; omega
         case rel => exact ⟨(wrap64 (x5_1 + ((rd_T54 l0 x6_1).f2))), (wrap64 (x6_1 + 1)), (by first | rfl | (simp; done) | (simp [*]; done)), (by first | rfl | (simp; done) | (simp [*]; done)), H', ⟨by have := HK1.out; omega⟩, by repeat (first | exact Drawn0.refl _ | apply Drawn0.step)⟩
        ·rw [if_neg c10] at H
         have c10b0 : ((Go.bits .and .i64 (ji9) 1) == 0) = false := beq_eq_false_iff_ne.mpr c10
         have c10b1 : ((Go.bits .and .i64 (ji9) 1) != 0) = true := bne_iff_ne.mpr c10
         have H' := Aside0.mk H
         clear H
         have p355 : 0 ≤ (x6_1 : Int) := of_decide_eq_true (by first | (with_reducible assumption) | assumption)
         have q355 : x6_1 < (l0.length : Int) := of_decide_eq_true (by first | (with_reducible assumption) | assumption)
         obtain ⟨ad355, e355, hx355_0, hx355_1, hx355_2⟩ := at_T54 HR0.out x6_1 p355 q355
         cases e355
         replace p355 := eq_true p355
         replace q355 := eq_true q355
         have p356 : 0 ≤ (x6_1 : Int) := of_decide_eq_true (by first | (with_reducible assumption) | assumption)
         have q356 : x6_1 < (l0.length : Int) := of_decide_eq_true (by first | (with_reducible assumption) | assumption)
         obtain ⟨ad356, e356, hx356_0, hx356_1, hx356_2⟩ := at_T54 HR0.out x6_1 p356 q356
         obtain rfl : ad355 = ad356 := (by injection e356)
         replace p356 := eq_true p356
         replace q356 := eq_true q356
         go_wp2
         go_roundg k1
         case measure => have := HK1.out; omega
         case rel => exact ⟨(x5_1), (wrap64 (x6_1 + 1)), (by first | rfl | (simp; done) | (simp [*]; done)), (by first | rfl | (simp; done) | (simp [*]; done)), H', ⟨by have := HK1.out; omega⟩, by repeat (first | exact Drawn0.refl _ | apply Drawn0.step)⟩
       ·rw [if_neg c8] at H
        exact absurd H (by simp)
      ·rw [if_neg c7] at H
       have c7b0 : ((Go.bits .and .i64 (ji6) 1) == 1) = false := beq_eq_false_iff_ne.mpr c7
       have c7b1 : ((Go.bits .and .i64 (ji6) 1) != 1) = true := bne_iff_ne.mpr c7
       have H' := Aside0.mk H
       clear H
       have p355 : 0 ≤ (x6_1 : Int) := of_decide_eq_true (by first | (with_reducible assumption) | assumption)
       have q355 : x6_1 < (l0.length : Int) := of_decide_eq_true (by first | (with_reducible assumption) | assumption)
       obtain ⟨ad355, e355, hx355_0, hx355_1, hx355_2⟩ := at_T54 HR0.out x6_1 p355 q355
       cases e355
       replace p355 := eq_true p355
       replace q355 := eq_true q355
       go_wp2
       go_roundg k1
       case measure => have := HK1.out; omega
       case rel => exact ⟨(x5_1), (wrap64 (x6_1 + 1)), (by first | rfl | (simp; done) | (simp [*]; done)), (by first | rfl | (simp; done) | (simp [*]; done)), H', ⟨by have := HK1.out; omega⟩, by repeat (first | exact Drawn0.refl _ | apply Drawn0.step)⟩
     ·rw [if_neg c5] at H
      exact absurd H (by simp)
    ·rw [if_neg c4] at H
     exact absurd H (by simp)
   ·rw [if_neg c3] at H
    have c3b0 : decide (x6_1 < (l0.length : Int)) = false := decide_eq_false c3
    clear c3
    obtain rfl := Option.some.inj H
    go_wp2
    go_ret
    exact ⟨by first | rfl | (simp; done) | (simp [*]; done), by repeat (first | exact Drawn0.refl _ | apply Drawn0.step)⟩

/-! ### laws_FnMaxFlow: function 6 -/
mutual
def laws_FnMaxFlow.j0 : Nat → Int → Int → Bool → Bool → List Int → List (S29) → Option (Bool)
 | 0, _, _, _, _, _, _ => none
 | k + 1, x1, x2, x46, x359000, x359001, x359002 => if x46 = true then ((laws_flows.f).bind fun t365 => (some t365)) else ((laws_hops.f k x359000 x359001 x359002).bind fun t366 => (laws_FnMaxFlow.l0 k x1 x2 t366 (-1) 0 x359000 x359001 x359002))
def laws_FnMaxFlow.l0 : Nat → Int → Int → List (S54) → Int → Int → Bool → List Int → List (S29) → Option (Bool)
 | 0, _, _, _, _, _, _, _, _ => none
 | k + 1, x1, x2, x7, x8, x9, x359000, x359001, x359002 => if x9 < (shl .i64 1 (x359001.length : Int)) then (if 0 ≤ x1 then (if (Go.bits .and .i64 (shr .i64 x9 x1) 1) = 1 then (if 0 ≤ x2 then (if (Go.bits .and .i64 (shr .i64 x9 x2) 1) = 0 then (if x8 < 0 then ((laws_cutOf.f k x7 x9).bind fun t372 => (laws_FnMaxFlow.l0 k x1 x2 x7 t372 (wrap64 (x9 + 1)) x359000 x359001 x359002)) else ((laws_cutOf.f k x7 x9).bind fun t373 => (if t373 < x8 then ((laws_cutOf.f k x7 x9).bind fun t374 => (laws_FnMaxFlow.l0 k x1 x2 x7 t374 (wrap64 (x9 + 1)) x359000 x359001 x359002)) else (laws_FnMaxFlow.l0 k x1 x2 x7 x8 (wrap64 (x9 + 1)) x359000 x359001 x359002)))) else (laws_FnMaxFlow.l0 k x1 x2 x7 x8 (wrap64 (x9 + 1)) x359000 x359001 x359002)) else (none)) else (laws_FnMaxFlow.l0 k x1 x2 x7 x8 (wrap64 (x9 + 1)) x359000 x359001 x359002)) else (none)) else ((impl_MaxFlow.f x359000 x359001 x359002 x1 x2).bind fun bt369 => (if bt369.2 = true then (some false) else (if bt369.1 = x8 then ((laws_flows.f).bind fun t371 => (some t371)) else (some false))))
end
def laws_FnMaxFlow.f (k : Nat) (a0_0 : Bool) (l0_1 : List Int) (l0_2 : List (S29)) (a1 : Int) (a2 : Int) : Option (Bool) := (laws_zzFits1.f a0_0 l0_1 l0_2).bind fun t359 => (if t359 = true then ((laws_sized.f k a0_0 l0_1 l0_2 9).bind fun t360 => (if t360 = true then ((laws_formed.f k a0_0 l0_1 l0_2).bind fun t361 => (if t361 = true then ((laws_flowNumbers.f k a0_0 l0_1 l0_2).bind fun t362 => (if t362 = true then (if a1 = a2 then (laws_FnMaxFlow.j0 k a1 a2 true a0_0 l0_1 l0_2) else ((slices_Contains_int_int.f k l0_1 a1).bind fun t363 => (if t363 = true then ((slices_Contains_int_int.f k l0_1 a2).bind fun t364 => (laws_FnMaxFlow.j0 k a1 a2 (!t364) a0_0 l0_1 l0_2)) else (laws_FnMaxFlow.j0 k a1 a2 true a0_0 l0_1 l0_2)))) else (laws_FnMaxFlow.j0 k a1 a2 true a0_0 l0_1 l0_2))) else (laws_FnMaxFlow.j0 k a1 a2 true a0_0 l0_1 l0_2))) else (laws_FnMaxFlow.j0 k a1 a2 true a0_0 l0_1 l0_2))) else (some true))
set_option maxHeartbeats 8000000 in
set_option maxRecDepth 100000 in
theorem laws_FnMaxFlow.calls (k : Nat) (a0_0 : Bool) (A0_1 : Option Addr) (c0_1 : Nat) (l0_1 : List Int) (A0_2 : Option Addr) (c0_2 : Nat) (l0_2 : List (S29)) (a1 : Int) (a2 : Int) (r : Bool) (w : World) (hr0_1 : Kd.C (Kd.int .i64) w A0_1 l0_1.length l0_1) (hc0_1 : l0_1.length ≤ c0_1) (hr0_2 : Kd.C k29 w A0_2 l0_2.length l0_2) (hc0_2 : l0_2.length ≤ c0_2) (h : laws_FnMaxFlow.f k a0_0 l0_1 l0_2 a1 a2 = some r) :
  Calls Tryz.prog 6 #[.agg #[.bool a0_0, .slice A0_1 l0_1.length c0_1, .slice A0_2 l0_2.length c0_2], .int .i64 a1, .int .i64 a2] w fun e w' => e = .returned (.bool r) ∧ Below w.heap.size w w' := by
 have hu26 := Tryz.underlying26
 have HR0_1 := Aside0.mk hr0_1
 have HC0_1 := Aside0.mk hc0_1
 clear hr0_1 hc0_1
 have HR0_2 := Aside0.mk hr0_2
 have HC0_2 := Aside0.mk hc0_2
 clear hr0_2 hc0_2
 have HB := Aside0.mk (Below.refl w.heap.size w)
 have H : ((laws_zzFits1.f a0_0 l0_1 l0_2).bind fun t359 => (if t359 = true then ((laws_sized.f k a0_0 l0_1 l0_2 9).bind fun t360 => (if t360 = true then ((laws_formed.f k a0_0 l0_1 l0_2).bind fun t361 => (if t361 = true then ((laws_flowNumbers.f k a0_0 l0_1 l0_2).bind fun t362 => (if t362 = true then (if a1 = a2 then (laws_FnMaxFlow.j0 k a1 a2 true a0_0 l0_1 l0_2) else ((slices_Contains_int_int.f k l0_1 a1).bind fun t363 => (if t363 = true then ((slices_Contains_int_int.f k l0_1 a2).bind fun t364 => (laws_FnMaxFlow.j0 k a1 a2 (!t364) a0_0 l0_1 l0_2)) else (laws_FnMaxFlow.j0 k a1 a2 true a0_0 l0_1 l0_2)))) else (laws_FnMaxFlow.j0 k a1 a2 true a0_0 l0_1 l0_2))) else (laws_FnMaxFlow.j0 k a1 a2 true a0_0 l0_1 l0_2))) else (laws_FnMaxFlow.j0 k a1 a2 true a0_0 l0_1 l0_2))) else (some true))) = some r := h
 clear h
 replace H := Option.bind_eq_some_iff.mp H
 obtain ⟨t359, A40, H⟩ := H
 replace H : (if t359 = true then ((laws_sized.f k a0_0 l0_1 l0_2 9).bind fun t360 => (if t360 = true then ((laws_formed.f k a0_0 l0_1 l0_2).bind fun t361 => (if t361 = true then ((laws_flowNumbers.f k a0_0 l0_1 l0_2).bind fun t362 => (if t362 = true then (if a1 = a2 then (laws_FnMaxFlow.j0 k a1 a2 true a0_0 l0_1 l0_2) else ((slices_Contains_int_int.f k l0_1 a1).bind fun t363 => (if t363 = true then ((slices_Contains_int_int.f k l0_1 a2).bind fun t364 => (laws_FnMaxFlow.j0 k a1 a2 (!t364) a0_0 l0_1 l0_2)) else (laws_FnMaxFlow.j0 k a1 a2 true a0_0 l0_1 l0_2)))) else (laws_FnMaxFlow.j0 k a1 a2 true a0_0 l0_1 l0_2))) else (laws_FnMaxFlow.j0 k a1 a2 true a0_0 l0_1 l0_2))) else (laws_FnMaxFlow.j0 k a1 a2 true a0_0 l0_1 l0_2))) else (some true)) = some r := H
 have A4 := Aside0.mk A40
 clear A40
 by_cases c5 : t359 = true
 ·subst c5
  have H1 : ((laws_sized.f k a0_0 l0_1 l0_2 9).bind fun t360 => (if t360 = true then ((laws_formed.f k a0_0 l0_1 l0_2).bind fun t361 => (if t361 = true then ((laws_flowNumbers.f k a0_0 l0_1 l0_2).bind fun t362 => (if t362 = true then (if a1 = a2 then (laws_FnMaxFlow.j0 k a1 a2 true a0_0 l0_1 l0_2) else ((slices_Contains_int_int.f k l0_1 a1).bind fun t363 => (if t363 = true then ((slices_Contains_int_int.f k l0_1 a2).bind fun t364 => (laws_FnMaxFlow.j0 k a1 a2 (!t364) a0_0 l0_1 l0_2)) else (laws_FnMaxFlow.j0 k a1 a2 true a0_0 l0_1 l0_2)))) else (laws_FnMaxFlow.j0 k a1 a2 true a0_0 l0_1 l0_2))) else (laws_FnMaxFlow.j0 k a1 a2 true a0_0 l0_1 l0_2))) else (laws_FnMaxFlow.j0 k a1 a2 true a0_0 l0_1 l0_2))) = some r := by rw [if_pos rfl] at H; exact H
  clear H
  have H := H1
  clear H1
  have HC6 := Aside0.mk H
  clear H
  go_enter Tryz.func6, Tryz.ntmps6
  go_upto_region 3 with (first | ((with_reducible refine gate_dst (N := 3) rfl ?_); refine box_event ?hg (N := 3) ?hd (cs := #[.bool a0_0, .slice A0_1 l0_1.length c0_1, .slice A0_2 l0_2.length c0_2]) (t := 26) ?hr ?_; (case hd => rfl); (case hg => rfl); (case hr => first | (go_simp; done) | (go_simp; rfl)); intro gb358 hg w7 hbox hb; have n0_ := Aside0.mk (below_step (by repeat (first | (with_reducible first | exact HB.out | apply below_alloc | apply pw_below_drewN | apply below_drew1) | exact HB.out)) hb); have n1_ := Aside0.mk (hbox); have n2_ := Aside0.mk ((by rw [hg]; exact (below_size (by repeat (first | (with_reducible first | exact HB.out | apply below_alloc | apply pw_below_drewN | apply below_drew1) | exact HB.out))) : w.heap.size ≤ gb358)); have n3_ := Aside0.mk ((by rw [hg]; exact (below_size (by repeat (first | (with_reducible first | exact HB.out | apply below_alloc | apply pw_below_drewN | apply below_drew1) | exact HB.out))) : w.heap.size ≤ gb358)); clear HB; have HB := n0_; have BK358 := n1_; have GW358 := n2_; have GE358 := n3_; clear n0_ n1_ n2_ n3_; clear hb hbox hg; have hcz8_0 : w7.cell? ⟨gb358, 0, none⟩ = some (.bool a0_0) := (blk_cell BK358.out 0).trans rfl; have hcz8_1 : w7.cell? ⟨gb358, 1, none⟩ = some (.slice A0_1 l0_1.length c0_1) := (blk_cell BK358.out 1).trans rfl; have hcz8_2 : w7.cell? ⟨gb358, 2, none⟩ = some (.slice A0_2 l0_2.length c0_2) := (blk_cell BK358.out 2).trans rfl; have hfz8_0 := blk_frozen BK358.out 0; have hfz8_1 := blk_frozen BK358.out 1; have hfz8_2 := blk_frozen BK358.out 2) | ((with_reducible refine gate_callee (f := 13) rfl ?_); refine goesL_ (some 13) rfl rfl Tryz.func13 (by kernel_rfl) rfl #[.agg #[.bool a0_0, .slice A0_1 l0_1.length c0_1, .slice A0_2 l0_2.length c0_2]] rfl (by (try simp only [List.map_toArray, List.map_cons, List.map_nil]); first | done | rfl | (simp only [List.length_drop, List.length_take]; rfl)) ?_; (with_reducible refine (laws_zzFits1.calls a0_0 _ _ l0_1 _ _ l0_2 true _ ?side1 ?side2 ?side3 ?side4 A4.out).mono ?_); (case side1 => repeat (first | exact (Kd.C_below HR0_1.out HB.out) | (with_reducible refine Kd.C_alloc ?_ _) | (with_reducible refine Kd.C_drewN ?_ _) | (with_reducible refine Kd.C_drew ?_))); (case side2 => exact HC0_1.out); (case side3 => repeat (first | exact (Kd.C_below HR0_2.out HB.out) | (with_reducible refine Kd.C_alloc ?_ _) | (with_reducible refine Kd.C_drewN ?_ _) | (with_reducible refine Kd.C_drew ?_))); (case side4 => exact HC0_2.out); rintro e w9 ⟨rfl, hb⟩; refine ⟨_, rfl, ?_⟩; have n0_ := Aside0.mk (blk_below (g := gb358) (o := .cells #[.bool a0_0, .slice A0_1 l0_1.length c0_1, .slice A0_2 l0_2.length c0_2] 26 (0, 0)) (by (with_reducible repeat (first | refine blk_drewN ?_ _ | refine blk_drew ?_ | refine blk_alloc ?_ _)); exact BK358.out) hb); have n1_ := Aside0.mk (below_step (by repeat (first | (with_reducible first | exact HB.out | apply below_alloc | apply pw_below_drewN | apply below_drew1 | refine below_set ?_ GE358.out) | exact HB.out)) hb); clear BK358; clear HB; have BK358 := n0_; have HB := n1_; clear n0_ n1_; (try clear hb); (try clear hb2); (try clear hk); (try clear hi)))
  (try simp only [Act.put, List.setIfInBounds_toArray, List.set_cons_zero, List.set_cons_succ])
  go_cut [46] (fun v46 wc => ∃ (kq : Nat) (x46_5 : Bool), v46 = .bool x46_5 ∧ Aside0 (laws_FnMaxFlow.j0 kq a1 a2 x46_5 a0_0 l0_1 l0_2 = some r) ∧ Aside0 (kq ≤ k) ∧ Aside0 (wc.heap[gb358]? = some (.cells #[.bool a0_0, (.slice A0_1 l0_1.length c0_1), (.slice A0_2 l0_2.length c0_2)] 26 (0, 0))) ∧ Aside0 (Below w.heap.size w wc))
  case first =>
   have H := HC6.out
   clear HC6
   replace H := Option.bind_eq_some_iff.mp H
   obtain ⟨t360, A100, H⟩ := H
   replace H : (if t360 = true then ((laws_formed.f k a0_0 l0_1 l0_2).bind fun t361 => (if t361 = true then ((laws_flowNumbers.f k a0_0 l0_1 l0_2).bind fun t362 => (if t362 = true then (if a1 = a2 then (laws_FnMaxFlow.j0 k a1 a2 true a0_0 l0_1 l0_2) else ((slices_Contains_int_int.f k l0_1 a1).bind fun t363 => (if t363 = true then ((slices_Contains_int_int.f k l0_1 a2).bind fun t364 => (laws_FnMaxFlow.j0 k a1 a2 (!t364) a0_0 l0_1 l0_2)) else (laws_FnMaxFlow.j0 k a1 a2 true a0_0 l0_1 l0_2)))) else (laws_FnMaxFlow.j0 k a1 a2 true a0_0 l0_1 l0_2))) else (laws_FnMaxFlow.j0 k a1 a2 true a0_0 l0_1 l0_2))) else (laws_FnMaxFlow.j0 k a1 a2 true a0_0 l0_1 l0_2)) = some r := H
   have A10 := Aside0.mk A100
   clear A100
   by_cases c11 : t360 = true
   ·subst c11
    have H1 : ((laws_formed.f k a0_0 l0_1 l0_2).bind fun t361 => (if t361 = true then ((laws_flowNumbers.f k a0_0 l0_1 l0_2).bind fun t362 => (if t362 = true then (if a1 = a2 then (laws_FnMaxFlow.j0 k a1 a2 true a0_0 l0_1 l0_2) else ((slices_Contains_int_int.f k l0_1 a1).bind fun t363 => (if t363 = true then ((slices_Contains_int_int.f k l0_1 a2).bind fun t364 => (laws_FnMaxFlow.j0 k a1 a2 (!t364) a0_0 l0_1 l0_2)) else (laws_FnMaxFlow.j0 k a1 a2 true a0_0 l0_1 l0_2)))) else (laws_FnMaxFlow.j0 k a1 a2 true a0_0 l0_1 l0_2))) else (laws_FnMaxFlow.j0 k a1 a2 true a0_0 l0_1 l0_2))) = some r := by rw [if_pos rfl] at H; exact H
    clear H
    have H := H1
    clear H1
    replace H := Option.bind_eq_some_iff.mp H
    obtain ⟨t361, A120, H⟩ := H
    replace H : (if t361 = true then ((laws_flowNumbers.f k a0_0 l0_1 l0_2).bind fun t362 => (if t362 = true then (if a1 = a2 then (laws_FnMaxFlow.j0 k a1 a2 true a0_0 l0_1 l0_2) else ((slices_Contains_int_int.f k l0_1 a1).bind fun t363 => (if t363 = true then ((slices_Contains_int_int.f k l0_1 a2).bind fun t364 => (laws_FnMaxFlow.j0 k a1 a2 (!t364) a0_0 l0_1 l0_2)) else (laws_FnMaxFlow.j0 k a1 a2 true a0_0 l0_1 l0_2)))) else (laws_FnMaxFlow.j0 k a1 a2 true a0_0 l0_1 l0_2))) else (laws_FnMaxFlow.j0 k a1 a2 true a0_0 l0_1 l0_2)) = some r := H
    have A12 := Aside0.mk A120
    clear A120
    by_cases c13 : t361 = true
    ·subst c13
     have H1 : ((laws_flowNumbers.f k a0_0 l0_1 l0_2).bind fun t362 => (if t362 = true then (if a1 = a2 then (laws_FnMaxFlow.j0 k a1 a2 true a0_0 l0_1 l0_2) else ((slices_Contains_int_int.f k l0_1 a1).bind fun t363 => (if t363 = true then ((slices_Contains_int_int.f k l0_1 a2).bind fun t364 => (laws_FnMaxFlow.j0 k a1 a2 (!t364) a0_0 l0_1 l0_2)) else (laws_FnMaxFlow.j0 k a1 a2 true a0_0 l0_1 l0_2)))) else (laws_FnMaxFlow.j0 k a1 a2 true a0_0 l0_1 l0_2))) = some r := by rw [if_pos rfl] at H; exact H
     clear H
     have H := H1
     clear H1
     replace H := Option.bind_eq_some_iff.mp H
     obtain ⟨t362, A140, H⟩ := H
     replace H : (if t362 = true then (if a1 = a2 then (laws_FnMaxFlow.j0 k a1 a2 true a0_0 l0_1 l0_2) else ((slices_Contains_int_int.f k l0_1 a1).bind fun t363 => (if t363 = true then ((slices_Contains_int_int.f k l0_1 a2).bind fun t364 => (laws_FnMaxFlow.j0 k a1 a2 (!t364) a0_0 l0_1 l0_2)) else (laws_FnMaxFlow.j0 k a1 a2 true a0_0 l0_1 l0_2)))) else (laws_FnMaxFlow.j0 k a1 a2 true a0_0 l0_1 l0_2)) = some r := H
     have A14 := Aside0.mk A140
     clear A140
     by_cases c15 : t362 = true
     ·subst c15
      have H1 : (if a1 = a2 then (laws_FnMaxFlow.j0 k a1 a2 true a0_0 l0_1 l0_2) else ((slices_Contains_int_int.f k l0_1 a1).bind fun t363 => (if t363 = true then ((slices_Contains_int_int.f k l0_1 a2).bind fun t364 => (laws_FnMaxFlow.j0 k a1 a2 (!t364) a0_0 l0_1 l0_2)) else (laws_FnMaxFlow.j0 k a1 a2 true a0_0 l0_1 l0_2)))) = some r := by rw [if_pos rfl] at H; exact H
      clear H
      have H := H1
      clear H1
      by_cases c16 : a1 = a2
      ·rw [if_pos c16] at H
       have c16b0 : (a1 == a2) = true := beq_iff_eq.mpr c16
       have c16b1 : (a1 != a2) = false := bne_eq_false_iff_eq.mpr c16
       clear c16
       (first | rw [c16b0] | (simp only [i64_w, i32_w]; rw [c16b0]) | skip)
       have H' := Aside0.mk H
       clear H
       have hcz17_0 : w9.cell? ⟨gb358, 0, none⟩ = some (.bool a0_0) := (blk_cell BK358.out 0).trans rfl
       have hcz17_1 : w9.cell? ⟨gb358, 1, none⟩ = some (.slice A0_1 l0_1.length c0_1) := (blk_cell BK358.out 1).trans rfl
       have hcz17_2 : w9.cell? ⟨gb358, 2, none⟩ = some (.slice A0_2 l0_2.length c0_2) := (blk_cell BK358.out 2).trans rfl
       have hfz17_0 := blk_frozen BK358.out 0
       have hfz17_1 := blk_frozen BK358.out 1
       have hfz17_2 := blk_frozen BK358.out 2
       go_wp2_with (first | ((with_reducible refine gate_callee (f := 14) rfl ?_); refine goesL_ (some 16) rfl rfl Tryz.func14 (by kernel_rfl) rfl #[.agg #[.bool a0_0, .slice A0_1 l0_1.length c0_1, .slice A0_2 l0_2.length c0_2], .int .i64 9] rfl (by (try simp only [List.map_toArray, List.map_cons, List.map_nil]); first | done | rfl | (simp only [List.length_drop, List.length_take]; rfl)) ?_; (with_reducible refine (laws_sized.calls k a0_0 _ _ l0_1 _ _ l0_2 9 true _ ?side1 ?side2 ?side3 ?side4 A10.out).mono ?_); (case side1 => repeat (first | exact (Kd.C_below HR0_1.out HB.out) | (with_reducible refine Kd.C_alloc ?_ _) | (with_reducible refine Kd.C_drewN ?_ _) | (with_reducible refine Kd.C_drew ?_))); (case side2 => exact HC0_1.out); (case side3 => repeat (first | exact (Kd.C_below HR0_2.out HB.out) | (with_reducible refine Kd.C_alloc ?_ _) | (with_reducible refine Kd.C_drewN ?_ _) | (with_reducible refine Kd.C_drew ?_))); (case side4 => exact HC0_2.out); rintro e w18 ⟨rfl, hb⟩; refine ⟨_, rfl, ?_⟩; have n0_ := Aside0.mk (blk_below (g := gb358) (o := .cells #[.bool a0_0, .slice A0_1 l0_1.length c0_1, .slice A0_2 l0_2.length c0_2] 26 (0, 0)) (by (with_reducible repeat (first | refine blk_drewN ?_ _ | refine blk_drew ?_ | refine blk_alloc ?_ _)); exact BK358.out) hb); have n1_ := Aside0.mk (below_step (by repeat (first | (with_reducible first | exact HB.out | apply below_alloc | apply pw_below_drewN | apply below_drew1 | refine below_set ?_ GE358.out) | exact HB.out)) hb); clear BK358; clear HB; have BK358 := n0_; have HB := n1_; clear n0_ n1_; (try clear hb); (try clear hb2); (try clear hk); (try clear hi); have hcz19_0 : w18.cell? ⟨gb358, 0, none⟩ = some (.bool a0_0) := (blk_cell BK358.out 0).trans rfl; have hcz19_1 : w18.cell? ⟨gb358, 1, none⟩ = some (.slice A0_1 l0_1.length c0_1) := (blk_cell BK358.out 1).trans rfl; have hcz19_2 : w18.cell? ⟨gb358, 2, none⟩ = some (.slice A0_2 l0_2.length c0_2) := (blk_cell BK358.out 2).trans rfl; have hfz19_0 := blk_frozen BK358.out 0; have hfz19_1 := blk_frozen BK358.out 1; have hfz19_2 := blk_frozen BK358.out 2) | (go_at_call 15; (with_reducible refine (laws_formed.calls k a0_0 _ _ l0_1 _ _ l0_2 true _ ?side1 ?side2 ?side3 ?side4 A12.out).mono ?_); (case side1 => repeat (first | exact (Kd.C_below HR0_1.out HB.out) | (with_reducible refine Kd.C_alloc ?_ _) | (with_reducible refine Kd.C_drewN ?_ _) | (with_reducible refine Kd.C_drew ?_))); (case side2 => exact HC0_1.out); (case side3 => repeat (first | exact (Kd.C_below HR0_2.out HB.out) | (with_reducible refine Kd.C_alloc ?_ _) | (with_reducible refine Kd.C_drewN ?_ _) | (with_reducible refine Kd.C_drew ?_))); (case side4 => exact HC0_2.out); rintro e w20 ⟨rfl, hb⟩; have n0_ := Aside0.mk (blk_below (g := gb358) (o := .cells #[.bool a0_0, .slice A0_1 l0_1.length c0_1, .slice A0_2 l0_2.length c0_2] 26 (0, 0)) (by (with_reducible repeat (first | refine blk_drewN ?_ _ | refine blk_drew ?_ | refine blk_alloc ?_ _)); exact BK358.out) hb); have n1_ := Aside0.mk (below_step (by repeat (first | (with_reducible first | exact HB.out | apply below_alloc | apply pw_below_drewN | apply below_drew1 | refine below_set ?_ GE358.out) | exact HB.out)) hb); clear BK358; clear HB; have BK358 := n0_; have HB := n1_; clear n0_ n1_; (try clear hb); (try clear hb2); (try clear hk); (try clear hi); have hcz21_0 : w20.cell? ⟨gb358, 0, none⟩ = some (.bool a0_0) := (blk_cell BK358.out 0).trans rfl; have hcz21_1 : w20.cell? ⟨gb358, 1, none⟩ = some (.slice A0_1 l0_1.length c0_1) := (blk_cell BK358.out 1).trans rfl; have hcz21_2 : w20.cell? ⟨gb358, 2, none⟩ = some (.slice A0_2 l0_2.length c0_2) := (blk_cell BK358.out 2).trans rfl; have hfz21_0 := blk_frozen BK358.out 0; have hfz21_1 := blk_frozen BK358.out 1; have hfz21_2 := blk_frozen BK358.out 2) | (go_at_call 16; (with_reducible refine (laws_flowNumbers.calls k a0_0 _ _ l0_1 _ _ l0_2 true _ ?side1 ?side2 ?side3 ?side4 A14.out).mono ?_); (case side1 => repeat (first | exact (Kd.C_below HR0_1.out HB.out) | (with_reducible refine Kd.C_alloc ?_ _) | (with_reducible refine Kd.C_drewN ?_ _) | (with_reducible refine Kd.C_drew ?_))); (case side2 => exact HC0_1.out); (case side3 => repeat (first | exact (Kd.C_below HR0_2.out HB.out) | (with_reducible refine Kd.C_alloc ?_ _) | (with_reducible refine Kd.C_drewN ?_ _) | (with_reducible refine Kd.C_drew ?_))); (case side4 => exact HC0_2.out); rintro e w22 ⟨rfl, hb⟩; have n0_ := Aside0.mk (blk_below (g := gb358) (o := .cells #[.bool a0_0, .slice A0_1 l0_1.length c0_1, .slice A0_2 l0_2.length c0_2] 26 (0, 0)) (by (with_reducible repeat (first | refine blk_drewN ?_ _ | refine blk_drew ?_ | refine blk_alloc ?_ _)); exact BK358.out) hb); have n1_ := Aside0.mk (below_step (by repeat (first | (with_reducible first | exact HB.out | apply below_alloc | apply pw_below_drewN | apply below_drew1 | refine below_set ?_ GE358.out) | exact HB.out)) hb); clear BK358; clear HB; have BK358 := n0_; have HB := n1_; clear n0_ n1_; (try clear hb); (try clear hb2); (try clear hk); (try clear hi)))
       go_meet
       case rel => exact ⟨_, (true), (by first | rfl | (simp; done) | (simp [*]; done)), H', ⟨by first | omega | exact Nat.le_refl _⟩, ⟨by (with_reducible repeat (first | refine blk_drewN ?_ _ | refine blk_drew ?_ | refine blk_alloc ?_ _)); exact BK358.out⟩, ⟨by repeat (first | (with_reducible first | exact HB.out | apply below_alloc | apply pw_below_drewN | apply below_drew1 | refine below_set ?_ GE358.out) | exact HB.out)⟩⟩
      ·rw [if_neg c16] at H
       have c16b0 : (a1 == a2) = false := beq_eq_false_iff_ne.mpr c16
       have c16b1 : (a1 != a2) = true := bne_iff_ne.mpr c16
       (first | rw [c16b0] | (simp only [i64_w, i32_w]; rw [c16b0]) | skip)
       replace H := Option.bind_eq_some_iff.mp H
       obtain ⟨t363, A230, H⟩ := H
       replace H : (if t363 = true then ((slices_Contains_int_int.f k l0_1 a2).bind fun t364 => (laws_FnMaxFlow.j0 k a1 a2 (!t364) a0_0 l0_1 l0_2)) else (laws_FnMaxFlow.j0 k a1 a2 true a0_0 l0_1 l0_2)) = some r := H
       have A23 := Aside0.mk A230
       clear A230
       by_cases c24 : t363 = true
       ·subst c24
        have H1 : ((slices_Contains_int_int.f k l0_1 a2).bind fun t364 => (laws_FnMaxFlow.j0 k a1 a2 (!t364) a0_0 l0_1 l0_2)) = some r := by rw [if_pos rfl] at H; exact H
        clear H
        have H := H1
        clear H1
        replace H := Option.bind_eq_some_iff.mp H
        obtain ⟨t364, A250, H⟩ := H
        replace H : (laws_FnMaxFlow.j0 k a1 a2 (!t364) a0_0 l0_1 l0_2) = some r := H
        have A25 := Aside0.mk A250
        clear A250
        have H' := Aside0.mk H
        clear H
        have hcz26_0 : w9.cell? ⟨gb358, 0, none⟩ = some (.bool a0_0) := (blk_cell BK358.out 0).trans rfl
        have hcz26_1 : w9.cell? ⟨gb358, 1, none⟩ = some (.slice A0_1 l0_1.length c0_1) := (blk_cell BK358.out 1).trans rfl
        have hcz26_2 : w9.cell? ⟨gb358, 2, none⟩ = some (.slice A0_2 l0_2.length c0_2) := (blk_cell BK358.out 2).trans rfl
        have hfz26_0 := blk_frozen BK358.out 0
        have hfz26_1 := blk_frozen BK358.out 1
        have hfz26_2 := blk_frozen BK358.out 2
        go_wp2_with (first | ((with_reducible refine gate_callee (f := 14) rfl ?_); refine goesL_ (some 16) rfl rfl Tryz.func14 (by kernel_rfl) rfl #[.agg #[.bool a0_0, .slice A0_1 l0_1.length c0_1, .slice A0_2 l0_2.length c0_2], .int .i64 9] rfl (by (try simp only [List.map_toArray, List.map_cons, List.map_nil]); first | done | rfl | (simp only [List.length_drop, List.length_take]; rfl)) ?_; (with_reducible refine (laws_sized.calls k a0_0 _ _ l0_1 _ _ l0_2 9 true _ ?side1 ?side2 ?side3 ?side4 A10.out).mono ?_); (case side1 => repeat (first | exact (Kd.C_below HR0_1.out HB.out) | (with_reducible refine Kd.C_alloc ?_ _) | (with_reducible refine Kd.C_drewN ?_ _) | (with_reducible refine Kd.C_drew ?_))); (case side2 => exact HC0_1.out); (case side3 => repeat (first | exact (Kd.C_below HR0_2.out HB.out) | (with_reducible refine Kd.C_alloc ?_ _) | (with_reducible refine Kd.C_drewN ?_ _) | (with_reducible refine Kd.C_drew ?_))); (case side4 => exact HC0_2.out); rintro e w27 ⟨rfl, hb⟩; refine ⟨_, rfl, ?_⟩; have n0_ := Aside0.mk (blk_below (g := gb358) (o := .cells #[.bool a0_0, .slice A0_1 l0_1.length c0_1, .slice A0_2 l0_2.length c0_2] 26 (0, 0)) (by (with_reducible repeat (first | refine blk_drewN ?_ _ | refine blk_drew ?_ | refine blk_alloc ?_ _)); exact BK358.out) hb); have n1_ := Aside0.mk (below_step (by repeat (first | (with_reducible first | exact HB.out | apply below_alloc | apply pw_below_drewN | apply below_drew1 | refine below_set ?_ GE358.out) | exact HB.out)) hb); clear BK358; clear HB; have BK358 := n0_; have HB := n1_; clear n0_ n1_; (try clear hb); (try clear hb2); (try clear hk); (try clear hi); have hcz28_0 : w27.cell? ⟨gb358, 0, none⟩ = some (.bool a0_0) := (blk_cell BK358.out 0).trans rfl; have hcz28_1 : w27.cell? ⟨gb358, 1, none⟩ = some (.slice A0_1 l0_1.length c0_1) := (blk_cell BK358.out 1).trans rfl; have hcz28_2 : w27.cell? ⟨gb358, 2, none⟩ = some (.slice A0_2 l0_2.length c0_2) := (blk_cell BK358.out 2).trans rfl; have hfz28_0 := blk_frozen BK358.out 0; have hfz28_1 := blk_frozen BK358.out 1; have hfz28_2 := blk_frozen BK358.out 2) | (go_at_call 15; (with_reducible refine (laws_formed.calls k a0_0 _ _ l0_1 _ _ l0_2 true _ ?side1 ?side2 ?side3 ?side4 A12.out).mono ?_); (case side1 => repeat (first | exact (Kd.C_below HR0_1.out HB.out) | (with_reducible refine Kd.C_alloc ?_ _) | (with_reducible refine Kd.C_drewN ?_ _) | (with_reducible refine Kd.C_drew ?_))); (case side2 => exact HC0_1.out); (case side3 => repeat (first | exact (Kd.C_below HR0_2.out HB.out) | (with_reducible refine Kd.C_alloc ?_ _) | (with_reducible refine Kd.C_drewN ?_ _) | (with_reducible refine Kd.C_drew ?_))); (case side4 => exact HC0_2.out); rintro e w29 ⟨rfl, hb⟩; have n0_ := Aside0.mk (blk_below (g := gb358) (o := .cells #[.bool a0_0, .slice A0_1 l0_1.length c0_1, .slice A0_2 l0_2.length c0_2] 26 (0, 0)) (by (with_reducible repeat (first | refine blk_drewN ?_ _ | refine blk_drew ?_ | refine blk_alloc ?_ _)); exact BK358.out) hb); have n1_ := Aside0.mk (below_step (by repeat (first | (with_reducible first | exact HB.out | apply below_alloc | apply pw_below_drewN | apply below_drew1 | refine below_set ?_ GE358.out) | exact HB.out)) hb); clear BK358; clear HB; have BK358 := n0_; have HB := n1_; clear n0_ n1_; (try clear hb); (try clear hb2); (try clear hk); (try clear hi); have hcz30_0 : w29.cell? ⟨gb358, 0, none⟩ = some (.bool a0_0) := (blk_cell BK358.out 0).trans rfl; have hcz30_1 : w29.cell? ⟨gb358, 1, none⟩ = some (.slice A0_1 l0_1.length c0_1) := (blk_cell BK358.out 1).trans rfl; have hcz30_2 : w29.cell? ⟨gb358, 2, none⟩ = some (.slice A0_2 l0_2.length c0_2) := (blk_cell BK358.out 2).trans rfl; have hfz30_0 := blk_frozen BK358.out 0; have hfz30_1 := blk_frozen BK358.out 1; have hfz30_2 := blk_frozen BK358.out 2) | (go_at_call 16; (with_reducible refine (laws_flowNumbers.calls k a0_0 _ _ l0_1 _ _ l0_2 true _ ?side1 ?side2 ?side3 ?side4 A14.out).mono ?_); (case side1 => repeat (first | exact (Kd.C_below HR0_1.out HB.out) | (with_reducible refine Kd.C_alloc ?_ _) | (with_reducible refine Kd.C_drewN ?_ _) | (with_reducible refine Kd.C_drew ?_))); (case side2 => exact HC0_1.out); (case side3 => repeat (first | exact (Kd.C_below HR0_2.out HB.out) | (with_reducible refine Kd.C_alloc ?_ _) | (with_reducible refine Kd.C_drewN ?_ _) | (with_reducible refine Kd.C_drew ?_))); (case side4 => exact HC0_2.out); rintro e w31 ⟨rfl, hb⟩; have n0_ := Aside0.mk (blk_below (g := gb358) (o := .cells #[.bool a0_0, .slice A0_1 l0_1.length c0_1, .slice A0_2 l0_2.length c0_2] 26 (0, 0)) (by (with_reducible repeat (first | refine blk_drewN ?_ _ | refine blk_drew ?_ | refine blk_alloc ?_ _)); exact BK358.out) hb); have n1_ := Aside0.mk (below_step (by repeat (first | (with_reducible first | exact HB.out | apply below_alloc | apply pw_below_drewN | apply below_drew1 | refine below_set ?_ GE358.out) | exact HB.out)) hb); clear BK358; clear HB; have BK358 := n0_; have HB := n1_; clear n0_ n1_; (try clear hb); (try clear hb2); (try clear hk); (try clear hi); have hcz32_0 : w31.cell? ⟨gb358, 0, none⟩ = some (.bool a0_0) := (blk_cell BK358.out 0).trans rfl; have hcz32_1 : w31.cell? ⟨gb358, 1, none⟩ = some (.slice A0_1 l0_1.length c0_1) := (blk_cell BK358.out 1).trans rfl; have hcz32_2 : w31.cell? ⟨gb358, 2, none⟩ = some (.slice A0_2 l0_2.length c0_2) := (blk_cell BK358.out 2).trans rfl; have hfz32_0 := blk_frozen BK358.out 0; have hfz32_1 := blk_frozen BK358.out 1; have hfz32_2 := blk_frozen BK358.out 2) | (go_at_call 17; (with_reducible refine (slices_Contains_int_int.calls k _ _ l0_1 a1 true _ ?side1 ?side2 A23.out).mono ?_); (case side1 => repeat (first | exact (Kd.C_below HR0_1.out HB.out) | (with_reducible refine Kd.C_alloc ?_ _) | (with_reducible refine Kd.C_drewN ?_ _) | (with_reducible refine Kd.C_drew ?_))); (case side2 => exact HC0_1.out); rintro e w' ⟨rfl, ⟨nd, rfl⟩⟩) | (go_at_call 17; (with_reducible refine (slices_Contains_int_int.calls k _ _ l0_1 a2 t364 _ ?side1 ?side2 A25.out).mono ?_); (case side1 => repeat (first | exact (Kd.C_below HR0_1.out (by repeat (first | (with_reducible first | exact HB.out | apply below_alloc | apply pw_below_drewN | apply below_drew1 | refine below_set ?_ GE358.out) | exact HB.out))) | (with_reducible refine Kd.C_alloc ?_ _) | (with_reducible refine Kd.C_drewN ?_ _) | (with_reducible refine Kd.C_drew ?_))); (case side2 => exact HC0_1.out); rintro e w' ⟨rfl, ⟨nd, rfl⟩⟩))
        go_meet
        case rel => exact ⟨_, (!t364), (by first | rfl | (simp; done) | (simp [*]; done)), H', ⟨by first | omega | exact Nat.le_refl _⟩, ⟨by (with_reducible repeat (first | refine blk_drewN ?_ _ | refine blk_drew ?_ | refine blk_alloc ?_ _)); exact BK358.out⟩, ⟨by repeat (first | (with_reducible first | exact HB.out | apply below_alloc | apply pw_below_drewN | apply below_drew1 | refine below_set ?_ GE358.out) | exact HB.out)⟩⟩
       ·replace c24 := Bool.eq_false_iff.mpr c24
        subst c24
        have H1 : (laws_FnMaxFlow.j0 k a1 a2 true a0_0 l0_1 l0_2) = some r := by rw [if_neg (show ¬ (false = true) by decide)] at H; exact H
        clear H
        have H := H1
        clear H1
        have H' := Aside0.mk H
        clear H
        have hcz33_0 : w9.cell? ⟨gb358, 0, none⟩ = some (.bool a0_0) := (blk_cell BK358.out 0).trans rfl
        have hcz33_1 : w9.cell? ⟨gb358, 1, none⟩ = some (.slice A0_1 l0_1.length c0_1) := (blk_cell BK358.out 1).trans rfl
        have hcz33_2 : w9.cell? ⟨gb358, 2, none⟩ = some (.slice A0_2 l0_2.length c0_2) := (blk_cell BK358.out 2).trans rfl
        have hfz33_0 := blk_frozen BK358.out 0
        have hfz33_1 := blk_frozen BK358.out 1
        have hfz33_2 := blk_frozen BK358.out 2
        go_wp2_with (first | ((with_reducible refine gate_callee (f := 14) rfl ?_); refine goesL_ (some 16) rfl rfl Tryz.func14 (by kernel_rfl) rfl #[.agg #[.bool a0_0, .slice A0_1 l0_1.length c0_1, .slice A0_2 l0_2.length c0_2], .int .i64 9] rfl (by (try simp only [List.map_toArray, List.map_cons, List.map_nil]); first | done | rfl | (simp only [List.length_drop, List.length_take]; rfl)) ?_; (with_reducible refine (laws_sized.calls k a0_0 _ _ l0_1 _ _ l0_2 9 true _ ?side1 ?side2 ?side3 ?side4 A10.out).mono ?_); (case side1 => repeat (first | exact (Kd.C_below HR0_1.out HB.out) | (with_reducible refine Kd.C_alloc ?_ _) | (with_reducible refine Kd.C_drewN ?_ _) | (with_reducible refine Kd.C_drew ?_))); (case side2 => exact HC0_1.out); (case side3 => repeat (first | exact (Kd.C_below HR0_2.out HB.out) | (with_reducible refine Kd.C_alloc ?_ _) | (with_reducible refine Kd.C_drewN ?_ _) | (with_reducible refine Kd.C_drew ?_))); (case side4 => exact HC0_2.out); rintro e w34 ⟨rfl, hb⟩; refine ⟨_, rfl, ?_⟩; have n0_ := Aside0.mk (blk_below (g := gb358) (o := .cells #[.bool a0_0, .slice A0_1 l0_1.length c0_1, .slice A0_2 l0_2.length c0_2] 26 (0, 0)) (by (with_reducible repeat (first | refine blk_drewN ?_ _ | refine blk_drew ?_ | refine blk_alloc ?_ _)); exact BK358.out) hb); have n1_ := Aside0.mk (below_step (by repeat (first | (with_reducible first | exact HB.out | apply below_alloc | apply pw_below_drewN | apply below_drew1 | refine below_set ?_ GE358.out) | exact HB.out)) hb); clear BK358; clear HB; have BK358 := n0_; have HB := n1_; clear n0_ n1_; (try clear hb); (try clear hb2); (try clear hk); (try clear hi); have hcz35_0 : w34.cell? ⟨gb358, 0, none⟩ = some (.bool a0_0) := (blk_cell BK358.out 0).trans rfl; have hcz35_1 : w34.cell? ⟨gb358, 1, none⟩ = some (.slice A0_1 l0_1.length c0_1) := (blk_cell BK358.out 1).trans rfl; have hcz35_2 : w34.cell? ⟨gb358, 2, none⟩ = some (.slice A0_2 l0_2.length c0_2) := (blk_cell BK358.out 2).trans rfl; have hfz35_0 := blk_frozen BK358.out 0; have hfz35_1 := blk_frozen BK358.out 1; have hfz35_2 := blk_frozen BK358.out 2) | (go_at_call 15; (with_reducible refine (laws_formed.calls k a0_0 _ _ l0_1 _ _ l0_2 true _ ?side1 ?side2 ?side3 ?side4 A12.out).mono ?_); (case side1 => repeat (first | exact (Kd.C_below HR0_1.out HB.out) | (with_reducible refine Kd.C_alloc ?_ _) | (with_reducible refine Kd.C_drewN ?_ _) | (with_reducible refine Kd.C_drew ?_))); (case side2 => exact HC0_1.out); (case side3 => repeat (first | exact (Kd.C_below HR0_2.out HB.out) | (with_reducible refine Kd.C_alloc ?_ _) | (with_reducible refine Kd.C_drewN ?_ _) | (with_reducible refine Kd.C_drew ?_))); (case side4 => exact HC0_2.out); rintro e w36 ⟨rfl, hb⟩; have n0_ := Aside0.mk (blk_below (g := gb358) (o := .cells #[.bool a0_0, .slice A0_1 l0_1.length c0_1, .slice A0_2 l0_2.length c0_2] 26 (0, 0)) (by (with_reducible repeat (first | refine blk_drewN ?_ _ | refine blk_drew ?_ | refine blk_alloc ?_ _)); exact BK358.out) hb); have n1_ := Aside0.mk (below_step (by repeat (first | (with_reducible first | exact HB.out | apply below_alloc | apply pw_below_drewN | apply below_drew1 | refine below_set ?_ GE358.out) | exact HB.out)) hb); clear BK358; clear HB; have BK358 := n0_; have HB := n1_; clear n0_ n1_; (try clear hb); (try clear hb2); (try clear hk); (try clear hi); have hcz37_0 : w36.cell? ⟨gb358, 0, none⟩ = some (.bool a0_0) := (blk_cell BK358.out 0).trans rfl; have hcz37_1 : w36.cell? ⟨gb358, 1, none⟩ = some (.slice A0_1 l0_1.length c0_1) := (blk_cell BK358.out 1).trans rfl; have hcz37_2 : w36.cell? ⟨gb358, 2, none⟩ = some (.slice A0_2 l0_2.length c0_2) := (blk_cell BK358.out 2).trans rfl; have hfz37_0 := blk_frozen BK358.out 0; have hfz37_1 := blk_frozen BK358.out 1; have hfz37_2 := blk_frozen BK358.out 2) | (go_at_call 16; (with_reducible refine (laws_flowNumbers.calls k a0_0 _ _ l0_1 _ _ l0_2 true _ ?side1 ?side2 ?side3 ?side4 A14.out).mono ?_); (case side1 => repeat (first | exact (Kd.C_below HR0_1.out HB.out) | (with_reducible refine Kd.C_alloc ?_ _) | (with_reducible refine Kd.C_drewN ?_ _) | (with_reducible refine Kd.C_drew ?_))); (case side2 => exact HC0_1.out); (case side3 => repeat (first | exact (Kd.C_below HR0_2.out HB.out) | (with_reducible refine Kd.C_alloc ?_ _) | (with_reducible refine Kd.C_drewN ?_ _) | (with_reducible refine Kd.C_drew ?_))); (case side4 => exact HC0_2.out); rintro e w38 ⟨rfl, hb⟩; have n0_ := Aside0.mk (blk_below (g := gb358) (o := .cells #[.bool a0_0, .slice A0_1 l0_1.length c0_1, .slice A0_2 l0_2.length c0_2] 26 (0, 0)) (by (with_reducible repeat (first | refine blk_drewN ?_ _ | refine blk_drew ?_ | refine blk_alloc ?_ _)); exact BK358.out) hb); have n1_ := Aside0.mk (below_step (by repeat (first | (with_reducible first | exact HB.out | apply below_alloc | apply pw_below_drewN | apply below_drew1 | refine below_set ?_ GE358.out) | exact HB.out)) hb); clear BK358; clear HB; have BK358 := n0_; have HB := n1_; clear n0_ n1_; (try clear hb); (try clear hb2); (try clear hk); (try clear hi); have hcz39_0 : w38.cell? ⟨gb358, 0, none⟩ = some (.bool a0_0) := (blk_cell BK358.out 0).trans rfl; have hcz39_1 : w38.cell? ⟨gb358, 1, none⟩ = some (.slice A0_1 l0_1.length c0_1) := (blk_cell BK358.out 1).trans rfl; have hcz39_2 : w38.cell? ⟨gb358, 2, none⟩ = some (.slice A0_2 l0_2.length c0_2) := (blk_cell BK358.out 2).trans rfl; have hfz39_0 := blk_frozen BK358.out 0; have hfz39_1 := blk_frozen BK358.out 1; have hfz39_2 := blk_frozen BK358.out 2) | (go_at_call 17; (with_reducible refine (slices_Contains_int_int.calls k _ _ l0_1 a1 false _ ?side1 ?side2 A23.out).mono ?_); (case side1 => repeat (first | exact (Kd.C_below HR0_1.out HB.out) | (with_reducible refine Kd.C_alloc ?_ _) | (with_reducible refine Kd.C_drewN ?_ _) | (with_reducible refine Kd.C_drew ?_))); (case side2 => exact HC0_1.out); rintro e w' ⟨rfl, ⟨nd, rfl⟩⟩))
        go_meet
        case rel => exact ⟨_, (true), (by first | rfl | (simp; done) | (simp [*]; done)), H', ⟨by first | omega | exact Nat.le_refl _⟩, ⟨by (with_reducible repeat (first | refine blk_drewN ?_ _ | refine blk_drew ?_ | refine blk_alloc ?_ _)); exact BK358.out⟩, ⟨by repeat (first | (with_reducible first | exact HB.out | apply below_alloc | apply pw_below_drewN | apply below_drew1 | refine below_set ?_ GE358.out) | exact HB.out)⟩⟩
     ·replace c15 := Bool.eq_false_iff.mpr c15
      subst c15
      have H1 : (laws_FnMaxFlow.j0 k a1 a2 true a0_0 l0_1 l0_2) = some r := by rw [if_neg (show ¬ (false = true) by decide)] at H; exact H
      clear H
      have H := H1
      clear H1
      have H' := Aside0.mk H
      clear H
      have hcz40_0 : w9.cell? ⟨gb358, 0, none⟩ = some (.bool a0_0) := (blk_cell BK358.out 0).trans rfl
      have hcz40_1 : w9.cell? ⟨gb358, 1, none⟩ = some (.slice A0_1 l0_1.length c0_1) := (blk_cell BK358.out 1).trans rfl
      have hcz40_2 : w9.cell? ⟨gb358, 2, none⟩ = some (.slice A0_2 l0_2.length c0_2) := (blk_cell BK358.out 2).trans rfl
      have hfz40_0 := blk_frozen BK358.out 0
      have hfz40_1 := blk_frozen BK358.out 1
      have hfz40_2 := blk_frozen BK358.out 2
      go_wp2_with (first | ((with_reducible refine gate_callee (f := 14) rfl ?_); refine goesL_ (some 16) rfl rfl Tryz.func14 (by kernel_rfl) rfl #[.agg #[.bool a0_0, .slice A0_1 l0_1.length c0_1, .slice A0_2 l0_2.length c0_2], .int .i64 9] rfl (by (try simp only [List.map_toArray, List.map_cons, List.map_nil]); first | done | rfl | (simp only [List.length_drop, List.length_take]; rfl)) ?_; (with_reducible refine (laws_sized.calls k a0_0 _ _ l0_1 _ _ l0_2 9 true _ ?side1 ?side2 ?side3 ?side4 A10.out).mono ?_); (case side1 => repeat (first | exact (Kd.C_below HR0_1.out HB.out) | (with_reducible refine Kd.C_alloc ?_ _) | (with_reducible refine Kd.C_drewN ?_ _) | (with_reducible refine Kd.C_drew ?_))); (case side2 => exact HC0_1.out); (case side3 => repeat (first | exact (Kd.C_below HR0_2.out HB.out) | (with_reducible refine Kd.C_alloc ?_ _) | (with_reducible refine Kd.C_drewN ?_ _) | (with_reducible refine Kd.C_drew ?_))); (case side4 => exact HC0_2.out); rintro e w41 ⟨rfl, hb⟩; refine ⟨_, rfl, ?_⟩; have n0_ := Aside0.mk (blk_below (g := gb358) (o := .cells #[.bool a0_0, .slice A0_1 l0_1.length c0_1, .slice A0_2 l0_2.length c0_2] 26 (0, 0)) (by (with_reducible repeat (first | refine blk_drewN ?_ _ | refine blk_drew ?_ | refine blk_alloc ?_ _)); exact BK358.out) hb); have n1_ := Aside0.mk (below_step (by repeat (first | (with_reducible first | exact HB.out | apply below_alloc | apply pw_below_drewN | apply below_drew1 | refine below_set ?_ GE358.out) | exact HB.out)) hb); clear BK358; clear HB; have BK358 := n0_; have HB := n1_; clear n0_ n1_; (try clear hb); (try clear hb2); (try clear hk); (try clear hi); have hcz42_0 : w41.cell? ⟨gb358, 0, none⟩ = some (.bool a0_0) := (blk_cell BK358.out 0).trans rfl; have hcz42_1 : w41.cell? ⟨gb358, 1, none⟩ = some (.slice A0_1 l0_1.length c0_1) := (blk_cell BK358.out 1).trans rfl; have hcz42_2 : w41.cell? ⟨gb358, 2, none⟩ = some (.slice A0_2 l0_2.length c0_2) := (blk_cell BK358.out 2).trans rfl; have hfz42_0 := blk_frozen BK358.out 0; have hfz42_1 := blk_frozen BK358.out 1; have hfz42_2 := blk_frozen BK358.out 2) | (go_at_call 15; (with_reducible refine (laws_formed.calls k a0_0 _ _ l0_1 _ _ l0_2 true _ ?side1 ?side2 ?side3 ?side4 A12.out).mono ?_); (case side1 => repeat (first | exact (Kd.C_below HR0_1.out HB.out) | (with_reducible refine Kd.C_alloc ?_ _) | (with_reducible refine Kd.C_drewN ?_ _) | (with_reducible refine Kd.C_drew ?_))); (case side2 => exact HC0_1.out); (case side3 => repeat (first | exact (Kd.C_below HR0_2.out HB.out) | (with_reducible refine Kd.C_alloc ?_ _) | (with_reducible refine Kd.C_drewN ?_ _) | (with_reducible refine Kd.C_drew ?_))); (case side4 => exact HC0_2.out); rintro e w43 ⟨rfl, hb⟩; have n0_ := Aside0.mk (blk_below (g := gb358) (o := .cells #[.bool a0_0, .slice A0_1 l0_1.length c0_1, .slice A0_2 l0_2.length c0_2] 26 (0, 0)) (by (with_reducible repeat (first | refine blk_drewN ?_ _ | refine blk_drew ?_ | refine blk_alloc ?_ _)); exact BK358.out) hb); have n1_ := Aside0.mk (below_step (by repeat (first | (with_reducible first | exact HB.out | apply below_alloc | apply pw_below_drewN | apply below_drew1 | refine below_set ?_ GE358.out) | exact HB.out)) hb); clear BK358; clear HB; have BK358 := n0_; have HB := n1_; clear n0_ n1_; (try clear hb); (try clear hb2); (try clear hk); (try clear hi); have hcz44_0 : w43.cell? ⟨gb358, 0, none⟩ = some (.bool a0_0) := (blk_cell BK358.out 0).trans rfl; have hcz44_1 : w43.cell? ⟨gb358, 1, none⟩ = some (.slice A0_1 l0_1.length c0_1) := (blk_cell BK358.out 1).trans rfl; have hcz44_2 : w43.cell? ⟨gb358, 2, none⟩ = some (.slice A0_2 l0_2.length c0_2) := (blk_cell BK358.out 2).trans rfl; have hfz44_0 := blk_frozen BK358.out 0; have hfz44_1 := blk_frozen BK358.out 1; have hfz44_2 := blk_frozen BK358.out 2) | (go_at_call 16; (with_reducible refine (laws_flowNumbers.calls k a0_0 _ _ l0_1 _ _ l0_2 false _ ?side1 ?side2 ?side3 ?side4 A14.out).mono ?_); (case side1 => repeat (first | exact (Kd.C_below HR0_1.out HB.out) | (with_reducible refine Kd.C_alloc ?_ _) | (with_reducible refine Kd.C_drewN ?_ _) | (with_reducible refine Kd.C_drew ?_))); (case side2 => exact HC0_1.out); (case side3 => repeat (first | exact (Kd.C_below HR0_2.out HB.out) | (with_reducible refine Kd.C_alloc ?_ _) | (with_reducible refine Kd.C_drewN ?_ _) | (with_reducible refine Kd.C_drew ?_))); (case side4 => exact HC0_2.out); rintro e w45 ⟨rfl, hb⟩; have n0_ := Aside0.mk (blk_below (g := gb358) (o := .cells #[.bool a0_0, .slice A0_1 l0_1.length c0_1, .slice A0_2 l0_2.length c0_2] 26 (0, 0)) (by (with_reducible repeat (first | refine blk_drewN ?_ _ | refine blk_drew ?_ | refine blk_alloc ?_ _)); exact BK358.out) hb); have n1_ := Aside0.mk (below_step (by repeat (first | (with_reducible first | exact HB.out | apply below_alloc | apply pw_below_drewN | apply below_drew1 | refine below_set ?_ GE358.out) | exact HB.out)) hb); clear BK358; clear HB; have BK358 := n0_; have HB := n1_; clear n0_ n1_; (try clear hb); (try clear hb2); (try clear hk); (try clear hi)))
      go_meet
      case rel => exact ⟨_, (true), (by first | rfl | (simp; done) | (simp [*]; done)), H', ⟨by first | omega | exact Nat.le_refl _⟩, ⟨by (with_reducible repeat (first | refine blk_drewN ?_ _ | refine blk_drew ?_ | refine blk_alloc ?_ _)); exact BK358.out⟩, ⟨by repeat (first | (with_reducible first | exact HB.out | apply below_alloc | apply pw_below_drewN | apply below_drew1 | refine below_set ?_ GE358.out) | exact HB.out)⟩⟩
    ·replace c13 := Bool.eq_false_iff.mpr c13
     subst c13
     have H1 : (laws_FnMaxFlow.j0 k a1 a2 true a0_0 l0_1 l0_2) = some r := by rw [if_neg (show ¬ (false = true) by decide)] at H; exact H
     clear H
     have H := H1
     clear H1
     have H' := Aside0.mk H
     clear H
     have hcz46_0 : w9.cell? ⟨gb358, 0, none⟩ = some (.bool a0_0) := (blk_cell BK358.out 0).trans rfl
     have hcz46_1 : w9.cell? ⟨gb358, 1, none⟩ = some (.slice A0_1 l0_1.length c0_1) := (blk_cell BK358.out 1).trans rfl
     have hcz46_2 : w9.cell? ⟨gb358, 2, none⟩ = some (.slice A0_2 l0_2.length c0_2) := (blk_cell BK358.out 2).trans rfl
     have hfz46_0 := blk_frozen BK358.out 0
     have hfz46_1 := blk_frozen BK358.out 1
     have hfz46_2 := blk_frozen BK358.out 2
     go_wp2_with (first | ((with_reducible refine gate_callee (f := 14) rfl ?_); refine goesL_ (some 16) rfl rfl Tryz.func14 (by kernel_rfl) rfl #[.agg #[.bool a0_0, .slice A0_1 l0_1.length c0_1, .slice A0_2 l0_2.length c0_2], .int .i64 9] rfl (by (try simp only [List.map_toArray, List.map_cons, List.map_nil]); first | done | rfl | (simp only [List.length_drop, List.length_take]; rfl)) ?_; (with_reducible refine (laws_sized.calls k a0_0 _ _ l0_1 _ _ l0_2 9 true _ ?side1 ?side2 ?side3 ?side4 A10.out).mono ?_); (case side1 => repeat (first | exact (Kd.C_below HR0_1.out HB.out) | (with_reducible refine Kd.C_alloc ?_ _) | (with_reducible refine Kd.C_drewN ?_ _) | (with_reducible refine Kd.C_drew ?_))); (case side2 => exact HC0_1.out); (case side3 => repeat (first | exact (Kd.C_below HR0_2.out HB.out) | (with_reducible refine Kd.C_alloc ?_ _) | (with_reducible refine Kd.C_drewN ?_ _) | (with_reducible refine Kd.C_drew ?_))); (case side4 => exact HC0_2.out); rintro e w47 ⟨rfl, hb⟩; refine ⟨_, rfl, ?_⟩; have n0_ := Aside0.mk (blk_below (g := gb358) (o := .cells #[.bool a0_0, .slice A0_1 l0_1.length c0_1, .slice A0_2 l0_2.length c0_2] 26 (0, 0)) (by (with_reducible repeat (first | refine blk_drewN ?_ _ | refine blk_drew ?_ | refine blk_alloc ?_ _)); exact BK358.out) hb); have n1_ := Aside0.mk (below_step (by repeat (first | (with_reducible first | exact HB.out | apply below_alloc | apply pw_below_drewN | apply below_drew1 | refine below_set ?_ GE358.out) | exact HB.out)) hb); clear BK358; clear HB; have BK358 := n0_; have HB := n1_; clear n0_ n1_; (try clear hb); (try clear hb2); (try clear hk); (try clear hi); have hcz48_0 : w47.cell? ⟨gb358, 0, none⟩ = some (.bool a0_0) := (blk_cell BK358.out 0).trans rfl; have hcz48_1 : w47.cell? ⟨gb358, 1, none⟩ = some (.slice A0_1 l0_1.length c0_1) := (blk_cell BK358.out 1).trans rfl; have hcz48_2 : w47.cell? ⟨gb358, 2, none⟩ = some (.slice A0_2 l0_2.length c0_2) := (blk_cell BK358.out 2).trans rfl; have hfz48_0 := blk_frozen BK358.out 0; have hfz48_1 := blk_frozen BK358.out 1; have hfz48_2 := blk_frozen BK358.out 2) | (go_at_call 15; (with_reducible refine (laws_formed.calls k a0_0 _ _ l0_1 _ _ l0_2 false _ ?side1 ?side2 ?side3 ?side4 A12.out).mono ?_); (case side1 => repeat (first | exact (Kd.C_below HR0_1.out HB.out) | (with_reducible refine Kd.C_alloc ?_ _) | (with_reducible refine Kd.C_drewN ?_ _) | (with_reducible refine Kd.C_drew ?_))); (case side2 => exact HC0_1.out); (case side3 => repeat (first | exact (Kd.C_below HR0_2.out HB.out) | (with_reducible refine Kd.C_alloc ?_ _) | (with_reducible refine Kd.C_drewN ?_ _) | (with_reducible refine Kd.C_drew ?_))); (case side4 => exact HC0_2.out); rintro e w49 ⟨rfl, hb⟩; have n0_ := Aside0.mk (blk_below (g := gb358) (o := .cells #[.bool a0_0, .slice A0_1 l0_1.length c0_1, .slice A0_2 l0_2.length c0_2] 26 (0, 0)) (by (with_reducible repeat (first | refine blk_drewN ?_ _ | refine blk_drew ?_ | refine blk_alloc ?_ _)); exact BK358.out) hb); have n1_ := Aside0.mk (below_step (by repeat (first | (with_reducible first | exact HB.out | apply below_alloc | apply pw_below_drewN | apply below_drew1 | refine below_set ?_ GE358.out) | exact HB.out)) hb); clear BK358; clear HB; have BK358 := n0_; have HB := n1_; clear n0_ n1_; (try clear hb); (try clear hb2); (try clear hk); (try clear hi)))
     go_meet
     case rel => exact ⟨_, (true), (by first | rfl | (simp; done) | (simp [*]; done)), H', ⟨by first | omega | exact Nat.le_refl _⟩, ⟨by (with_reducible repeat (first | refine blk_drewN ?_ _ | refine blk_drew ?_ | refine blk_alloc ?_ _)); exact BK358.out⟩, ⟨by repeat (first | (with_reducible first | exact HB.out | apply below_alloc | apply pw_below_drewN | apply below_drew1 | refine below_set ?_ GE358.out) | exact HB.out)⟩⟩
   ·replace c11 := Bool.eq_false_iff.mpr c11
    subst c11
    have H1 : (laws_FnMaxFlow.j0 k a1 a2 true a0_0 l0_1 l0_2) = some r := by rw [if_neg (show ¬ (false = true) by decide)] at H; exact H
    clear H
    have H := H1
    clear H1
    have H' := Aside0.mk H
    clear H
    have hcz50_0 : w9.cell? ⟨gb358, 0, none⟩ = some (.bool a0_0) := (blk_cell BK358.out 0).trans rfl
    have hcz50_1 : w9.cell? ⟨gb358, 1, none⟩ = some (.slice A0_1 l0_1.length c0_1) := (blk_cell BK358.out 1).trans rfl
    have hcz50_2 : w9.cell? ⟨gb358, 2, none⟩ = some (.slice A0_2 l0_2.length c0_2) := (blk_cell BK358.out 2).trans rfl
    have hfz50_0 := blk_frozen BK358.out 0
    have hfz50_1 := blk_frozen BK358.out 1
    have hfz50_2 := blk_frozen BK358.out 2
    go_wp2_with (first | ((with_reducible refine gate_callee (f := 14) rfl ?_); refine goesL_ (some 16) rfl rfl Tryz.func14 (by kernel_rfl) rfl #[.agg #[.bool a0_0, .slice A0_1 l0_1.length c0_1, .slice A0_2 l0_2.length c0_2], .int .i64 9] rfl (by (try simp only [List.map_toArray, List.map_cons, List.map_nil]); first | done | rfl | (simp only [List.length_drop, List.length_take]; rfl)) ?_; (with_reducible refine (laws_sized.calls k a0_0 _ _ l0_1 _ _ l0_2 9 false _ ?side1 ?side2 ?side3 ?side4 A10.out).mono ?_); (case side1 => repeat (first | exact (Kd.C_below HR0_1.out HB.out) | (with_reducible refine Kd.C_alloc ?_ _) | (with_reducible refine Kd.C_drewN ?_ _) | (with_reducible refine Kd.C_drew ?_))); (case side2 => exact HC0_1.out); (case side3 => repeat (first | exact (Kd.C_below HR0_2.out HB.out) | (with_reducible refine Kd.C_alloc ?_ _) | (with_reducible refine Kd.C_drewN ?_ _) | (with_reducible refine Kd.C_drew ?_))); (case side4 => exact HC0_2.out); rintro e w51 ⟨rfl, hb⟩; refine ⟨_, rfl, ?_⟩; have n0_ := Aside0.mk (blk_below (g := gb358) (o := .cells #[.bool a0_0, .slice A0_1 l0_1.length c0_1, .slice A0_2 l0_2.length c0_2] 26 (0, 0)) (by (with_reducible repeat (first | refine blk_drewN ?_ _ | refine blk_drew ?_ | refine blk_alloc ?_ _)); exact BK358.out) hb); have n1_ := Aside0.mk (below_step (by repeat (first | (with_reducible first | exact HB.out | apply below_alloc | apply pw_below_drewN | apply below_drew1 | refine below_set ?_ GE358.out) | exact HB.out)) hb); clear BK358; clear HB; have BK358 := n0_; have HB := n1_; clear n0_ n1_; (try clear hb); (try clear hb2); (try clear hk); (try clear hi)))
    go_meet
    case rel => exact ⟨_, (true), (by first | rfl | (simp; done) | (simp [*]; done)), H', ⟨by first | omega | exact Nat.le_refl _⟩, ⟨by (with_reducible repeat (first | refine blk_drewN ?_ _ | refine blk_drew ?_ | refine blk_alloc ?_ _)); exact BK358.out⟩, ⟨by repeat (first | (with_reducible first | exact HB.out | apply below_alloc | apply pw_below_drewN | apply below_drew1 | refine below_set ?_ GE358.out) | exact HB.out)⟩⟩
  case rest =>
   clear HC6
   try clear c1
   try clear c2
   try clear p2
   try clear c5
   try clear c6
   try clear c11
   try clear c13
   try clear c14
   try clear c15
   try clear c16
   try clear c16b0
   try clear c16b1
   try clear c24
   try clear hcz17_0
   try clear hcz17_1
   try clear hcz17_2
   try clear hcz19_0
   try clear hcz19_1
   try clear hcz19_2
   try clear hcz21_0
   try clear hcz21_1
   try clear hcz21_2
   try clear hcz26_0
   try clear hcz26_1
   try clear hcz26_2
   try clear hcz28_0
   try clear hcz28_1
   try clear hcz28_2
   try clear hcz30_0
   try clear hcz30_1
   try clear hcz30_2
   try clear hcz32_0
   try clear hcz32_1
   try clear hcz32_2
   try clear hcz33_0
   try clear hcz33_1
   try clear hcz33_2
   try clear hcz35_0
   try clear hcz35_1
   try clear hcz35_2
   try clear hcz37_0
   try clear hcz37_1
   try clear hcz37_2
   try clear hcz39_0
   try clear hcz39_1
   try clear hcz39_2
   try clear hcz40_0
   try clear hcz40_1
   try clear hcz40_2
   try clear hcz42_0
   try clear hcz42_1
   try clear hcz42_2
   try clear hcz44_0
   try clear hcz44_1
   try clear hcz44_2
   try clear hcz46_0
   try clear hcz46_1
   try clear hcz46_2
   try clear hcz48_0
   try clear hcz48_1
   try clear hcz48_2
   try clear hcz50_0
   try clear hcz50_1
   try clear hcz50_2
   try clear hcz8_0
   try clear hcz8_1
   try clear hcz8_2
   try clear hfz17_0
   try clear hfz17_1
   try clear hfz17_2
   try clear hfz19_0
   try clear hfz19_1
   try clear hfz19_2
   try clear hfz21_0
   try clear hfz21_1
   try clear hfz21_2
   try clear hfz26_0
   try clear hfz26_1
   try clear hfz26_2
   try clear hfz28_0
   try clear hfz28_1
   try clear hfz28_2
   try clear hfz30_0
   try clear hfz30_1
   try clear hfz30_2
   try clear hfz32_0
   try clear hfz32_1
   try clear hfz32_2
   try clear hfz33_0
   try clear hfz33_1
   try clear hfz33_2
   try clear hfz35_0
   try clear hfz35_1
   try clear hfz35_2
   try clear hfz37_0
   try clear hfz37_1
   try clear hfz37_2
   try clear hfz39_0
   try clear hfz39_1
   try clear hfz39_2
   try clear hfz40_0
   try clear hfz40_1
   try clear hfz40_2
   try clear hfz42_0
   try clear hfz42_1
   try clear hfz42_2
   try clear hfz44_0
   try clear hfz44_1
   try clear hfz44_2
   try clear hfz46_0
   try clear hfz46_1
   try clear hfz46_2
   try clear hfz48_0
   try clear hfz48_1
   try clear hfz48_2
   try clear hfz50_0
   try clear hfz50_1
   try clear hfz50_2
   try clear hfz8_0
   try clear hfz8_1
   try clear hfz8_2
   obtain ⟨kq, x46_5, rfl, HA, HJ5, BK358, HB⟩ := hcut
   cases kq with
   | zero => exact absurd HA.out (by simp [laws_FnMaxFlow.j0])
   | succ kj5 =>
    have H := HA.out
    clear HA
    simp only [laws_FnMaxFlow.j0] at H
    by_cases c52 : x46_5 = true
    ·subst c52
     have H1 : ((laws_flows.f).bind fun t365 => (some t365)) = some r := by rw [if_pos rfl] at H; exact H
     clear H
     have H := H1
     clear H1
     replace H := Option.bind_eq_some_iff.mp H
     obtain ⟨t365, A530, H⟩ := H
     replace H : (some t365) = some r := H
     have A53 := Aside0.mk A530
     clear A530
     obtain rfl := Option.some.inj H
     go_wp2_with (first | ((with_reducible refine gate_callee (f := 12) rfl ?_); refine goesL_ (some 47) rfl rfl Tryz.func12 (by kernel_rfl) rfl #[] rfl (by (try simp only [List.map_toArray, List.map_cons, List.map_nil]); first | done | rfl | (simp only [List.length_drop, List.length_take]; rfl)) ?_; (with_reducible refine (laws_flows.calls  t365 _ A53.out).mono ?_); rintro e w54 ⟨rfl, hb⟩; refine ⟨_, rfl, ?_⟩; have n0_ := Aside0.mk (blk_below (g := gb358) (o := .cells #[.bool a0_0, .slice A0_1 l0_1.length c0_1, .slice A0_2 l0_2.length c0_2] 26 (0, 0)) (by (with_reducible repeat (first | refine blk_drewN ?_ _ | refine blk_drew ?_ | refine blk_alloc ?_ _)); exact BK358.out) hb); have n1_ := Aside0.mk (below_step (by repeat (first | (with_reducible first | exact HB.out | apply below_alloc | apply pw_below_drewN | apply below_drew1 | refine below_set ?_ GE358.out) | exact HB.out)) hb); clear BK358; clear HB; have BK358 := n0_; have HB := n1_; clear n0_ n1_; (try clear hb); (try clear hb2); (try clear hk); (try clear hi)))
     go_ret
     exact ⟨by first | rfl | (simp [errW_none, errW_some] <;> rfl) | (simp [*, errW_none, errW_some] <;> rfl), by repeat (first | (with_reducible first | exact HB.out | apply below_alloc | apply pw_below_drewN | apply below_drew1 | refine below_set ?_ GE358.out) | exact HB.out)⟩
    ·replace c52 := Bool.eq_false_iff.mpr c52
     subst c52
     have H1 : ((laws_hops.f kj5 a0_0 l0_1 l0_2).bind fun t366 => (laws_FnMaxFlow.l0 kj5 a1 a2 t366 (-1) 0 a0_0 l0_1 l0_2)) = some r := by rw [if_neg (show ¬ (false = true) by decide)] at H; exact H
     clear H
     have H := H1
     clear H1
     replace H := Option.bind_eq_some_iff.mp H
     obtain ⟨t366, A550, H⟩ := H
     replace H : (laws_FnMaxFlow.l0 kj5 a1 a2 t366 (-1) 0 a0_0 l0_1 l0_2) = some r := H
     have A55 := Aside0.mk A550
     clear A550
     have H' := Aside0.mk H
     clear H
     have hcz56_0 : wc.cell? ⟨gb358, 0, none⟩ = some (.bool a0_0) := (blk_cell BK358.out 0).trans rfl
     have hcz56_1 : wc.cell? ⟨gb358, 1, none⟩ = some (.slice A0_1 l0_1.length c0_1) := (blk_cell BK358.out 1).trans rfl
     have hcz56_2 : wc.cell? ⟨gb358, 2, none⟩ = some (.slice A0_2 l0_2.length c0_2) := (blk_cell BK358.out 2).trans rfl
     have hfz56_0 := blk_frozen BK358.out 0
     have hfz56_1 := blk_frozen BK358.out 1
     have hfz56_2 := blk_frozen BK358.out 2
     go_wp2_with (first | ((with_reducible refine gate_callee (f := 18) rfl ?_); refine goesL_ (some 49) rfl rfl Tryz.func18 (by kernel_rfl) rfl #[.agg #[.bool a0_0, .slice A0_1 l0_1.length c0_1, .slice A0_2 l0_2.length c0_2]] rfl (by (try simp only [List.map_toArray, List.map_cons, List.map_nil]); first | done | rfl | (simp only [List.length_drop, List.length_take]; rfl)) ?_; (with_reducible refine (laws_hops.calls kj5 a0_0 _ _ l0_1 _ _ l0_2 t366 _ ?side1 ?side2 ?side3 ?side4 A55.out).mono ?_); (case side1 => repeat (first | exact (Kd.C_below HR0_1.out HB.out) | (with_reducible refine Kd.C_alloc ?_ _) | (with_reducible refine Kd.C_drewN ?_ _) | (with_reducible refine Kd.C_drew ?_))); (case side2 => exact HC0_1.out); (case side3 => repeat (first | exact (Kd.C_below HR0_2.out HB.out) | (with_reducible refine Kd.C_alloc ?_ _) | (with_reducible refine Kd.C_drewN ?_ _) | (with_reducible refine Kd.C_drew ?_))); (case side4 => exact HC0_2.out); rintro e w57 ⟨v367, rfl, ho0, hb⟩; refine ⟨_, rfl, ?_⟩; have n0_ := Aside0.mk (Kd.R_lower ho0 (below_size (by repeat (first | (with_reducible first | exact HB.out | apply below_alloc | apply pw_below_drewN | apply below_drew1 | refine below_set ?_ GE358.out) | exact HB.out)))); have n1_ := Aside0.mk (blk_below (g := gb358) (o := .cells #[.bool a0_0, .slice A0_1 l0_1.length c0_1, .slice A0_2 l0_2.length c0_2] 26 (0, 0)) (by (with_reducible repeat (first | refine blk_drewN ?_ _ | refine blk_drew ?_ | refine blk_alloc ?_ _)); exact BK358.out) hb); have n2_ := Aside0.mk (below_step (by repeat (first | (with_reducible first | exact HB.out | apply below_alloc | apply pw_below_drewN | apply below_drew1 | refine below_set ?_ GE358.out) | exact HB.out)) hb); clear BK358; clear HB; have HO368 := n0_; have BK358 := n1_; have HB := n2_; clear n0_ n1_ n2_; (try clear hb); (try clear hb2); (try clear hk); (try clear hi); (try clear ho0)))
     go_loopg [8, 9] kj5 (fun kq v8 v9 w' => ∃ (x8_2 : Int) (x9_2 : Int), v8 = .int .i64 x8_2 ∧ v9 = .int .i64 x9_2 ∧ Aside0 (laws_FnMaxFlow.l0 kq a1 a2 t366 x8_2 x9_2 a0_0 l0_1 l0_2 = some r) ∧ Aside0 (kq ≤ kj5) ∧ Aside0 (Kd.R k54 54 w' w.heap.size (fun _ => True) v367 t366) ∧ Aside0 (w'.heap[gb358]? = some (.cells #[.bool a0_0, (.slice A0_1 l0_1.length c0_1), (.slice A0_2 l0_2.length c0_2)] 26 (0, 0))) ∧ Aside0 (Below w.heap.size w w'))
     case atStart => exact ⟨((-1)), (0), (by first | rfl | (simp; done) | (simp [*]; done)), (by first | rfl | (simp; done) | (simp [*]; done)), H', ⟨Nat.le_refl _⟩, ⟨by (with_reducible repeat (first | apply Kd.R_alloc | apply Kd.R_drewN | apply Kd.R_drew)); exact HO368.out⟩, ⟨by (with_reducible repeat (first | refine blk_drewN ?_ _ | refine blk_drew ?_ | refine blk_alloc ?_ _)); exact BK358.out⟩, ⟨by repeat (first | (with_reducible first | exact HB.out | apply below_alloc | apply pw_below_drewN | apply below_drew1 | refine below_set ?_ GE358.out) | exact HB.out)⟩⟩
     case round =>
      clear H'
      try clear c1
      try clear c2
      try clear p2
      try clear c5
      try clear c6
      try clear c11
      try clear c12
      try clear c13
      try clear c14
      try clear c15
      try clear c16
      try clear c16b0
      try clear c16b1
      try clear c18
      try clear c24
      try clear c52
      try clear hcz17_0
      try clear hcz17_1
      try clear hcz17_2
      try clear hcz19_0
      try clear hcz19_1
      try clear hcz19_2
      try clear hcz21_0
      try clear hcz21_1
      try clear hcz21_2
      try clear hcz26_0
      try clear hcz26_1
      try clear hcz26_2
      try clear hcz28_0
      try clear hcz28_1
      try clear hcz28_2
      try clear hcz30_0
      try clear hcz30_1
      try clear hcz30_2
      try clear hcz32_0
      try clear hcz32_1
      try clear hcz32_2
      try clear hcz33_0
      try clear hcz33_1
      try clear hcz33_2
      try clear hcz35_0
      try clear hcz35_1
      try clear hcz35_2
      try clear hcz37_0
      try clear hcz37_1
      try clear hcz37_2
      try clear hcz39_0
      try clear hcz39_1
      try clear hcz39_2
      try clear hcz40_0
      try clear hcz40_1
      try clear hcz40_2
      try clear hcz42_0
      try clear hcz42_1
      try clear hcz42_2
      try clear hcz44_0
      try clear hcz44_1
      try clear hcz44_2
      try clear hcz46_0
      try clear hcz46_1
      try clear hcz46_2
      try clear hcz48_0
      try clear hcz48_1
      try clear hcz48_2
      try clear hcz50_0
      try clear hcz50_1
      try clear hcz50_2
      try clear hcz56_0
      try clear hcz56_1
      try clear hcz56_2
      try clear hcz8_0
      try clear hcz8_1
      try clear hcz8_2
      try clear hfz17_0
      try clear hfz17_1
      try clear hfz17_2
      try clear hfz19_0
      try clear hfz19_1
      try clear hfz19_2
      try clear hfz21_0
      try clear hfz21_1
      try clear hfz21_2
      try clear hfz26_0
      try clear hfz26_1
      try clear hfz26_2
      try clear hfz28_0
      try clear hfz28_1
      try clear hfz28_2
      try clear hfz30_0
      try clear hfz30_1
      try clear hfz30_2
      try clear hfz32_0
      try clear hfz32_1
      try clear hfz32_2
      try clear hfz33_0
      try clear hfz33_1
      try clear hfz33_2
      try clear hfz35_0
      try clear hfz35_1
      try clear hfz35_2
      try clear hfz37_0
      try clear hfz37_1
      try clear hfz37_2
      try clear hfz39_0
      try clear hfz39_1
      try clear hfz39_2
      try clear hfz40_0
      try clear hfz40_1
      try clear hfz40_2
      try clear hfz42_0
      try clear hfz42_1
      try clear hfz42_2
      try clear hfz44_0
      try clear hfz44_1
      try clear hfz44_2
      try clear hfz46_0
      try clear hfz46_1
      try clear hfz46_2
      try clear hfz48_0
      try clear hfz48_1
      try clear hfz48_2
      try clear hfz50_0
      try clear hfz50_1
      try clear hfz50_2
      try clear hfz56_0
      try clear hfz56_1
      try clear hfz56_2
      try clear hfz8_0
      try clear hfz8_1
      try clear hfz8_2
      try clear p2
      obtain ⟨x8_2, x9_2, rfl, rfl, HA, HK2, HO_7, BK358, HB⟩ := hrel
      cases gk with
      | zero => exact absurd HA.out (by simp [laws_FnMaxFlow.l0])
      | succ k2 =>
       have H := HA.out
       clear HA
       simp only [laws_FnMaxFlow.l0] at H
       obtain ⟨ji58, hji58⟩ : ∃ j_ : Int, (shl .i64 1 (l0_1.length : Int)) = j_ := ⟨_, rfl⟩
       replace H : (if x9_2 < (ji58) then (if 0 ≤ a1 then (if (Go.bits .and .i64 (shr .i64 x9_2 a1) 1) = 1 then (if 0 ≤ a2 then (if (Go.bits .and .i64 (shr .i64 x9_2 a2) 1) = 0 then (if x8_2 < 0 then ((laws_cutOf.f k2 t366 x9_2).bind fun t372 => (laws_FnMaxFlow.l0 k2 a1 a2 t366 t372 (wrap64 (x9_2 + 1)) a0_0 l0_1 l0_2)) else ((laws_cutOf.f k2 t366 x9_2).bind fun t373 => (if t373 < x8_2 then ((laws_cutOf.f k2 t366 x9_2).bind fun t374 => (laws_FnMaxFlow.l0 k2 a1 a2 t366 t374 (wrap64 (x9_2 + 1)) a0_0 l0_1 l0_2)) else (laws_FnMaxFlow.l0 k2 a1 a2 t366 x8_2 (wrap64 (x9_2 + 1)) a0_0 l0_1 l0_2)))) else (laws_FnMaxFlow.l0 k2 a1 a2 t366 x8_2 (wrap64 (x9_2 + 1)) a0_0 l0_1 l0_2)) else (none)) else (laws_FnMaxFlow.l0 k2 a1 a2 t366 x8_2 (wrap64 (x9_2 + 1)) a0_0 l0_1 l0_2)) else (none)) else ((impl_MaxFlow.f a0_0 l0_1 l0_2 a1 a2).bind fun bt369 => (if bt369.2 = true then (some false) else (if bt369.1 = x8_2 then ((laws_flows.f).bind fun t371 => (some t371)) else (some false))))) = some r := by first | (rw [hji58] at H; exact H) | (simp only [hji58] at H ⊢; exact H)
       have hji58_ : (IntKind.i64.wrap (1 * 2 ^ min (l0_1.length : Int).toNat 64)) = ji58 := hji58
       have hji58z : (l0_1.length : Int) ≤ 64 → (IntKind.i64.wrap (1 * 2 ^ (l0_1.length : Int).toNat)) = ji58 := shl_small hji58
       have hji58p : (IntKind.i64.wrap (1 * 2 ^ min l0_1.length 64)) = ji58 := hji58_
       have hji58q : (l0_1.length : Int) ≤ 64 → (IntKind.i64.wrap (1 * 2 ^ l0_1.length)) = ji58 := hji58z
       have hji58r : (IntKind.i64.wrap (2 ^ min l0_1.length 64)) = ji58 := by have h_ := hji58p; rw [Int.one_mul] at h_; exact h_
       have hji58s : (l0_1.length : Int) ≤ 64 → (IntKind.i64.wrap (2 ^ l0_1.length)) = ji58 := fun hle_ => by have h_ := hji58q hle_; rw [Int.one_mul] at h_; exact h_
       have hji58u : (IntKind.i64.wrap (2 ^ min (l0_1.length : Int).toNat 64)) = ji58 := by have h_ := hji58_; rw [Int.one_mul] at h_; exact h_
       have hji58v : (l0_1.length : Int) ≤ 64 → (IntKind.i64.wrap (2 ^ (l0_1.length : Int).toNat)) = ji58 := fun hle_ => by have h_ := hji58z hle_; rw [Int.one_mul] at h_; exact h_
       have hji58y : (wrap64 (1 * 2 ^ min (l0_1.length : Int).toNat 64)) = ji58 := (i64_w _).symm.trans hji58_
       have hji58x : (l0_1.length : Int) ≤ 64 → (wrap64 (1 * 2 ^ (l0_1.length : Int).toNat)) = ji58 := fun h_ => (i64_w _).symm.trans (hji58z h_)
       by_cases c59 : x9_2 < (ji58)
       ·rw [if_pos c59] at H
        have c59b0 : decide (x9_2 < (ji58)) = true := decide_eq_true c59
        clear c59
        by_cases c60 : 0 ≤ a1
        ·rw [if_pos c60] at H
         have c60b0 := eq_true c60
         have c60b1 : decide (0 ≤ a1) = true := decide_eq_true c60
         clear c60
         obtain ⟨ji61, hji61⟩ : ∃ j_ : Int, (shr .i64 x9_2 a1) = j_ := ⟨_, rfl⟩
         replace H : (if (Go.bits .and .i64 (ji61) 1) = 1 then (if 0 ≤ a2 then (if (Go.bits .and .i64 (shr .i64 x9_2 a2) 1) = 0 then (if x8_2 < 0 then ((laws_cutOf.f k2 t366 x9_2).bind fun t372 => (laws_FnMaxFlow.l0 k2 a1 a2 t366 t372 (wrap64 (x9_2 + 1)) a0_0 l0_1 l0_2)) else ((laws_cutOf.f k2 t366 x9_2).bind fun t373 => (if t373 < x8_2 then ((laws_cutOf.f k2 t366 x9_2).bind fun t374 => (laws_FnMaxFlow.l0 k2 a1 a2 t366 t374 (wrap64 (x9_2 + 1)) a0_0 l0_1 l0_2)) else (laws_FnMaxFlow.l0 k2 a1 a2 t366 x8_2 (wrap64 (x9_2 + 1)) a0_0 l0_1 l0_2)))) else (laws_FnMaxFlow.l0 k2 a1 a2 t366 x8_2 (wrap64 (x9_2 + 1)) a0_0 l0_1 l0_2)) else (none)) else (laws_FnMaxFlow.l0 k2 a1 a2 t366 x8_2 (wrap64 (x9_2 + 1)) a0_0 l0_1 l0_2)) = some r := by first | (rw [hji61] at H; exact H) | (simp only [hji61] at H ⊢; exact H)
         have hji61_ : (x9_2 / 2 ^ min a1.toNat 64) = ji61 := hji61
         have hji61z : a1 ≤ 64 → (x9_2 / 2 ^ a1.toNat) = ji61 := shr_small hji61
         by_cases c62 : (Go.bits .and .i64 (ji61) 1) = 1
         ·rw [if_pos c62] at H
          have c62b0 : ((Go.bits .and .i64 (ji61) 1) == 1) = true := beq_iff_eq.mpr c62
          have c62b1 : ((Go.bits .and .i64 (ji61) 1) != 1) = false := bne_eq_false_iff_eq.mpr c62
          clear c62
          by_cases c63 : 0 ≤ a2
          ·rw [if_pos c63] at H
           have c63b0 := eq_true c63
           have c63b1 : decide (0 ≤ a2) = true := decide_eq_true c63
           clear c63
           obtain ⟨ji64, hji64⟩ : ∃ j_ : Int, (shr .i64 x9_2 a2) = j_ := ⟨_, rfl⟩
           replace H : (if (Go.bits .and .i64 (ji64) 1) = 0 then (if x8_2 < 0 then ((laws_cutOf.f k2 t366 x9_2).bind fun t372 => (laws_FnMaxFlow.l0 k2 a1 a2 t366 t372 (wrap64 (x9_2 + 1)) a0_0 l0_1 l0_2)) else ((laws_cutOf.f k2 t366 x9_2).bind fun t373 => (if t373 < x8_2 then ((laws_cutOf.f k2 t366 x9_2).bind fun t374 => (laws_FnMaxFlow.l0 k2 a1 a2 t366 t374 (wrap64 (x9_2 + 1)) a0_0 l0_1 l0_2)) else (laws_FnMaxFlow.l0 k2 a1 a2 t366 x8_2 (wrap64 (x9_2 + 1)) a0_0 l0_1 l0_2)))) else (laws_FnMaxFlow.l0 k2 a1 a2 t366 x8_2 (wrap64 (x9_2 + 1)) a0_0 l0_1 l0_2)) = some r := by first | (rw [hji64] at H; exact H) | (simp only [hji64] at H ⊢; exact H)
           have hji64_ : (x9_2 / 2 ^ min a2.toNat 64) = ji64 := hji64
           have hji64z : a2 ≤ 64 → (x9_2 / 2 ^ a2.toNat) = ji64 := shr_small hji64
           by_cases c65 : (Go.bits .and .i64 (ji64) 1) = 0
           ·rw [if_pos c65] at H
            have c65b0 : ((Go.bits .and .i64 (ji64) 1) == 0) = true := beq_iff_eq.mpr c65
            have c65b1 : ((Go.bits .and .i64 (ji64) 1) != 0) = false := bne_eq_false_iff_eq.mpr c65
            clear c65
            by_cases c66 : x8_2 < 0
            ·rw [if_pos c66] at H
             have c66b0 : decide (x8_2 < 0) = true := decide_eq_true c66
             clear c66
             replace H := Option.bind_eq_some_iff.mp H
             obtain ⟨t372, A670, H⟩ := H
             replace H : (laws_FnMaxFlow.l0 k2 a1 a2 t366 t372 (wrap64 (x9_2 + 1)) a0_0 l0_1 l0_2) = some r := H
             have A67 := Aside0.mk A670
             clear A670
             have H' := Aside0.mk H
             clear H
             have hcz68_0 : wr.cell? ⟨gb358, 0, none⟩ = some (.bool a0_0) := (blk_cell BK358.out 0).trans rfl
             have hcz68_1 : wr.cell? ⟨gb358, 1, none⟩ = some (.slice A0_1 l0_1.length c0_1) := (blk_cell BK358.out 1).trans rfl
             have hcz68_2 : wr.cell? ⟨gb358, 2, none⟩ = some (.slice A0_2 l0_2.length c0_2) := (blk_cell BK358.out 2).trans rfl
             have hfz68_0 := blk_frozen BK358.out 0
             have hfz68_1 := blk_frozen BK358.out 1
             have hfz68_2 := blk_frozen BK358.out 2
             obtain ⟨Ao69, co69, eo69⟩ := Kd.R_slice HO_7.out
             subst eo69
             go_wp2_with (first | ((with_reducible refine gate_callee (f := 26) rfl ?_); refine goesL_ (some 83) rfl rfl Tryz.func26 (by kernel_rfl) rfl #[.slice Ao69 t366.length co69, .int .i64 x9_2] rfl (by (try simp only [List.map_toArray, List.map_cons, List.map_nil]); first | done | rfl | (simp only [List.length_drop, List.length_take]; rfl)) ?_; (with_reducible refine (laws_cutOf.calls k2 _ _ t366 x9_2 t372 _ ?side1 ?side2 A67.out).mono ?_); (case side1 => repeat (first | exact (Kd.R_reads' HO_7.out).2.2 | (with_reducible refine Kd.C_alloc ?_ _) | (with_reducible refine Kd.C_drewN ?_ _) | (with_reducible refine Kd.C_drew ?_))); (case side2 => exact (Kd.R_reads' HO_7.out).2.1); rintro e w' ⟨rfl, ⟨nd, rfl⟩⟩; refine ⟨_, rfl, ?_⟩))
             go_roundg k2
             case measure => have := HJ5.out; have := HK2.out; omega
             case rel => exact ⟨(t372), (wrap64 (x9_2 + 1)), (by first | rfl | (simp; done) | (simp [*]; done)), (by first | rfl | (simp; done) | (simp [*]; done)), H', ⟨by have := HJ5.out; have := HK2.out; omega⟩, ⟨by (with_reducible repeat (first | apply Kd.R_alloc | apply Kd.R_drewN | apply Kd.R_drew)); exact HO_7.out⟩, ⟨by (with_reducible repeat (first | refine blk_drewN ?_ _ | refine blk_drew ?_ | refine blk_alloc ?_ _)); exact BK358.out⟩, ⟨by repeat (first | (with_reducible first | exact HB.out | apply below_alloc | apply pw_below_drewN | apply below_drew1 | refine below_set ?_ GE358.out) | exact HB.out)⟩⟩
            ·rw [if_neg c66] at H
             have c66b0 : decide (x8_2 < 0) = false := decide_eq_false c66
             clear c66
             replace H := Option.bind_eq_some_iff.mp H
             obtain ⟨t373, A700, H⟩ := H
             replace H : (if t373 < x8_2 then ((laws_cutOf.f k2 t366 x9_2).bind fun t374 => (laws_FnMaxFlow.l0 k2 a1 a2 t366 t374 (wrap64 (x9_2 + 1)) a0_0 l0_1 l0_2)) else (laws_FnMaxFlow.l0 k2 a1 a2 t366 x8_2 (wrap64 (x9_2 + 1)) a0_0 l0_1 l0_2)) = some r := H
             have A70 := Aside0.mk A700
             clear A700
             by_cases c71 : t373 < x8_2
             ·rw [if_pos c71] at H
              have c71b0 : decide (t373 < x8_2) = true := decide_eq_true c71
              clear c71
              replace H := Option.bind_eq_some_iff.mp H
              obtain ⟨t374, A720, H⟩ := H
              replace H : (laws_FnMaxFlow.l0 k2 a1 a2 t366 t374 (wrap64 (x9_2 + 1)) a0_0 l0_1 l0_2) = some r := H
              have A72 := Aside0.mk A720
              clear A720
              have H' := Aside0.mk H
              clear H
              have hcz73_0 : wr.cell? ⟨gb358, 0, none⟩ = some (.bool a0_0) := (blk_cell BK358.out 0).trans rfl
              have hcz73_1 : wr.cell? ⟨gb358, 1, none⟩ = some (.slice A0_1 l0_1.length c0_1) := (blk_cell BK358.out 1).trans rfl
              have hcz73_2 : wr.cell? ⟨gb358, 2, none⟩ = some (.slice A0_2 l0_2.length c0_2) := (blk_cell BK358.out 2).trans rfl
              have hfz73_0 := blk_frozen BK358.out 0
              have hfz73_1 := blk_frozen BK358.out 1
              have hfz73_2 := blk_frozen BK358.out 2
              obtain ⟨Ao74, co74, eo74⟩ := Kd.R_slice HO_7.out
              subst eo74
              go_wp2_with (first | (go_at_call 26; (with_reducible refine (laws_cutOf.calls k2 _ _ t366 x9_2 t373 _ ?side1 ?side2 A70.out).mono ?_); (case side1 => repeat (first | exact (Kd.R_reads' HO_7.out).2.2 | (with_reducible refine Kd.C_alloc ?_ _) | (with_reducible refine Kd.C_drewN ?_ _) | (with_reducible refine Kd.C_drew ?_))); (case side2 => exact (Kd.R_reads' HO_7.out).2.1); rintro e w' ⟨rfl, ⟨nd, rfl⟩⟩) | ((with_reducible refine gate_callee (f := 26) rfl ?_); refine goesL_ (some 83) rfl rfl Tryz.func26 (by kernel_rfl) rfl #[.slice Ao74 t366.length co74, .int .i64 x9_2] rfl (by (try simp only [List.map_toArray, List.map_cons, List.map_nil]); first | done | rfl | (simp only [List.length_drop, List.length_take]; rfl)) ?_; (with_reducible refine (laws_cutOf.calls k2 _ _ t366 x9_2 t374 _ ?side1 ?side2 A72.out).mono ?_); (case side1 => repeat (first | exact (Kd.R_reads' HO_7.out).2.2 | (with_reducible refine Kd.C_alloc ?_ _) | (with_reducible refine Kd.C_drewN ?_ _) | (with_reducible refine Kd.C_drew ?_))); (case side2 => exact (Kd.R_reads' HO_7.out).2.1); rintro e w' ⟨rfl, ⟨nd, rfl⟩⟩; refine ⟨_, rfl, ?_⟩))
              go_roundg k2
              case measure => have := HJ5.out; have := HK2.out; omega
              case rel => exact ⟨(t374), (wrap64 (x9_2 + 1)), (by first | rfl | (simp; done) | (simp [*]; done)), (by first | rfl | (simp; done) | (simp [*]; done)), H', ⟨by have := HJ5.out; have := HK2.out; omega⟩, ⟨by (with_reducible repeat (first | apply Kd.R_alloc | apply Kd.R_drewN | apply Kd.R_drew)); exact HO_7.out⟩, ⟨by (with_reducible repeat (first | refine blk_drewN ?_ _ | refine blk_drew ?_ | refine blk_alloc ?_ _)); exact BK358.out⟩, ⟨by repeat (first | (with_reducible first | exact HB.out | apply below_alloc | apply pw_below_drewN | apply below_drew1 | refine below_set ?_ GE358.out) | exact HB.out)⟩⟩
             ·rw [if_neg c71] at H
              have c71b0 : decide (t373 < x8_2) = false := decide_eq_false c71
              clear c71
              have H' := Aside0.mk H
              clear H
              have hcz75_0 : wr.cell? ⟨gb358, 0, none⟩ = some (.bool a0_0) := (blk_cell BK358.out 0).trans rfl
              have hcz75_1 : wr.cell? ⟨gb358, 1, none⟩ = some (.slice A0_1 l0_1.length c0_1) := (blk_cell BK358.out 1).trans rfl
              have hcz75_2 : wr.cell? ⟨gb358, 2, none⟩ = some (.slice A0_2 l0_2.length c0_2) := (blk_cell BK358.out 2).trans rfl
              have hfz75_0 := blk_frozen BK358.out 0
              have hfz75_1 := blk_frozen BK358.out 1
              have hfz75_2 := blk_frozen BK358.out 2
              obtain ⟨Ao76, co76, eo76⟩ := Kd.R_slice HO_7.out
              subst eo76
              go_wp2_with (first | (go_at_call 26; (with_reducible refine (laws_cutOf.calls k2 _ _ t366 x9_2 t373 _ ?side1 ?side2 A70.out).mono ?_); (case side1 => repeat (first | exact (Kd.R_reads' HO_7.out).2.2 | (with_reducible refine Kd.C_alloc ?_ _) | (with_reducible refine Kd.C_drewN ?_ _) | (with_reducible refine Kd.C_drew ?_))); (case side2 => exact (Kd.R_reads' HO_7.out).2.1); rintro e w' ⟨rfl, ⟨nd, rfl⟩⟩))
              go_roundg k2
              case measure => have := HJ5.out; have := HK2.out; omega
              case rel => exact ⟨(x8_2), (wrap64 (x9_2 + 1)), (by first | rfl | (simp; done) | (simp [*]; done)), (by first | rfl | (simp; done) | (simp [*]; done)), H', ⟨by have := HJ5.out; have := HK2.out; omega⟩, ⟨by (with_reducible repeat (first | apply Kd.R_alloc | apply Kd.R_drewN | apply Kd.R_drew)); exact HO_7.out⟩, ⟨by (with_reducible repeat (first | refine blk_drewN ?_ _ | refine blk_drew ?_ | refine blk_alloc ?_ _)); exact BK358.out⟩, ⟨by repeat (first | (with_reducible first | exact HB.out | apply below_alloc | apply pw_below_drewN | apply below_drew1 | refine below_set ?_ GE358.out) | exact HB.out)⟩⟩
           ·rw [if_neg c65] at H
            have c65b0 : ((Go.bits .and .i64 (ji64) 1) == 0) = false := beq_eq_false_iff_ne.mpr c65
            have c65b1 : ((Go.bits .and .i64 (ji64) 1) != 0) = true := bne_iff_ne.mpr c65
            have H' := Aside0.mk H
            clear H
            have hcz77_0 : wr.cell? ⟨gb358, 0, none⟩ = some (.bool a0_0) := (blk_cell BK358.out 0).trans rfl
            have hcz77_1 : wr.cell? ⟨gb358, 1, none⟩ = some (.slice A0_1 l0_1.length c0_1) := (blk_cell BK358.out 1).trans rfl
            have hcz77_2 : wr.cell? ⟨gb358, 2, none⟩ = some (.slice A0_2 l0_2.length c0_2) := (blk_cell BK358.out 2).trans rfl
            have hfz77_0 := blk_frozen BK358.out 0
            have hfz77_1 := blk_frozen BK358.out 1
            have hfz77_2 := blk_frozen BK358.out 2
            go_wp2
            go_roundg k2
            case measure => have := HJ5.out; have := HK2.out; omega
            case rel => exact ⟨(x8_2), (wrap64 (x9_2 + 1)), (by first | rfl | (simp; done) | (simp [*]; done)), (by first | rfl | (simp; done) | (simp [*]; done)), H', ⟨by have := HJ5.out; have := HK2.out; omega⟩, ⟨by (with_reducible repeat (first | apply Kd.R_alloc | apply Kd.R_drewN | apply Kd.R_drew)); exact HO_7.out⟩, ⟨by (with_reducible repeat (first | refine blk_drewN ?_ _ | refine blk_drew ?_ | refine blk_alloc ?_ _)); exact BK358.out⟩, ⟨by repeat (first | (with_reducible first | exact HB.out | apply below_alloc | apply pw_below_drewN | apply below_drew1 | refine below_set ?_ GE358.out) | exact HB.out)⟩⟩
          ·rw [if_neg c63] at H
           exact absurd H (by simp)
         ·rw [if_neg c62] at H
          have c62b0 : ((Go.bits .and .i64 (ji61) 1) == 1) = false := beq_eq_false_iff_ne.mpr c62
          have c62b1 : ((Go.bits .and .i64 (ji61) 1) != 1) = true := bne_iff_ne.mpr c62
          have H' := Aside0.mk H
          clear H
          have hcz78_0 : wr.cell? ⟨gb358, 0, none⟩ = some (.bool a0_0) := (blk_cell BK358.out 0).trans rfl
          have hcz78_1 : wr.cell? ⟨gb358, 1, none⟩ = some (.slice A0_1 l0_1.length c0_1) := (blk_cell BK358.out 1).trans rfl
          have hcz78_2 : wr.cell? ⟨gb358, 2, none⟩ = some (.slice A0_2 l0_2.length c0_2) := (blk_cell BK358.out 2).trans rfl
          have hfz78_0 := blk_frozen BK358.out 0
          have hfz78_1 := blk_frozen BK358.out 1
          have hfz78_2 := blk_frozen BK358.out 2
          go_wp2
          go_roundg k2
          case measure => have := HJ5.out; have := HK2.out; omega
          case rel => exact ⟨(x8_2), (wrap64 (x9_2 + 1)), (by first | rfl | (simp; done) | (simp [*]; done)), (by first | rfl | (simp; done) | (simp [*]; done)), H', ⟨by have := HJ5.out; have := HK2.out; omega⟩, ⟨by (with_reducible repeat (first | apply Kd.R_alloc | apply Kd.R_drewN | apply Kd.R_drew)); exact HO_7.out⟩, ⟨by (with_reducible repeat (first | refine blk_drewN ?_ _ | refine blk_drew ?_ | refine blk_alloc ?_ _)); exact BK358.out⟩, ⟨by repeat (first | (with_reducible first | exact HB.out | apply below_alloc | apply pw_below_drewN | apply below_drew1 | refine below_set ?_ GE358.out) | exact HB.out)⟩⟩
        ·rw [if_neg c60] at H
         exact absurd H (by simp)
       ·rw [if_neg c59] at H
        have c59b0 : decide (x9_2 < (ji58)) = false := decide_eq_false c59
        clear c59
        replace H := Option.bind_eq_some_iff.mp H
        obtain ⟨⟨t369, t370⟩, A790, H⟩ := H
        replace H : (if t370 = true then (some false) else (if t369 = x8_2 then ((laws_flows.f).bind fun t371 => (some t371)) else (some false))) = some r := H
        have A79 := Aside0.mk A790
        clear A790
        by_cases c80 : t370 = true
        ·subst c80
         have H1 : (some false) = some r := by rw [if_pos rfl] at H; exact H
         clear H
         have H := H1
         clear H1
         obtain rfl := Option.some.inj H
         have hcz81_0 : wr.cell? ⟨gb358, 0, none⟩ = some (.bool a0_0) := (blk_cell BK358.out 0).trans rfl
         have hcz81_1 : wr.cell? ⟨gb358, 1, none⟩ = some (.slice A0_1 l0_1.length c0_1) := (blk_cell BK358.out 1).trans rfl
         have hcz81_2 : wr.cell? ⟨gb358, 2, none⟩ = some (.slice A0_2 l0_2.length c0_2) := (blk_cell BK358.out 2).trans rfl
         have hfz81_0 := blk_frozen BK358.out 0
         have hfz81_1 := blk_frozen BK358.out 1
         have hfz81_2 := blk_frozen BK358.out 2
         go_wp2_with (first | ((with_reducible refine gate_callee (f := 9) rfl ?_); refine goesL_ (some 88) rfl rfl Tryz.func9 (by kernel_rfl) rfl #[.agg #[.bool a0_0, .slice A0_1 l0_1.length c0_1, .slice A0_2 l0_2.length c0_2], .int .i64 a1, .int .i64 a2] rfl (by (try simp only [List.map_toArray, List.map_cons, List.map_nil]); first | done | rfl | (simp only [List.length_drop, List.length_take]; rfl)) ?_; (with_reducible refine (impl_MaxFlow.calls a0_0 _ _ l0_1 _ _ l0_2 a1 a2 t369 true _ ?side1 ?side2 ?side3 ?side4 A79.out).mono ?_); (case side1 => repeat (first | exact (Kd.C_below HR0_1.out HB.out) | (with_reducible refine Kd.C_alloc ?_ _) | (with_reducible refine Kd.C_drewN ?_ _) | (with_reducible refine Kd.C_drew ?_))); (case side2 => exact HC0_1.out); (case side3 => repeat (first | exact (Kd.C_below HR0_2.out HB.out) | (with_reducible refine Kd.C_alloc ?_ _) | (with_reducible refine Kd.C_drewN ?_ _) | (with_reducible refine Kd.C_drew ?_))); (case side4 => exact HC0_2.out); rintro e w82 ⟨rfl, hb⟩; refine ⟨_, rfl, ?_⟩; have n0_ := Aside0.mk (Kd.R_below (by (with_reducible repeat (first | apply Kd.R_alloc | apply Kd.R_drewN | apply Kd.R_drew)); exact HO_7.out) hb); have n1_ := Aside0.mk (blk_below (g := gb358) (o := .cells #[.bool a0_0, .slice A0_1 l0_1.length c0_1, .slice A0_2 l0_2.length c0_2] 26 (0, 0)) (by (with_reducible repeat (first | refine blk_drewN ?_ _ | refine blk_drew ?_ | refine blk_alloc ?_ _)); exact BK358.out) hb); have n2_ := Aside0.mk (below_step (by repeat (first | (with_reducible first | exact HB.out | apply below_alloc | apply pw_below_drewN | apply below_drew1 | refine below_set ?_ GE358.out) | exact HB.out)) hb); clear HO_7; clear BK358; clear HB; have HO_7 := n0_; have BK358 := n1_; have HB := n2_; clear n0_ n1_ n2_; (try clear hb); (try clear hb2); (try clear hk); (try clear hi)))
         go_ret
         exact ⟨by first | rfl | (simp [errW_none, errW_some] <;> rfl) | (simp only [← hji58]; first | rfl | (simp [errW_none, errW_some] <;> rfl)) | (simp [*, errW_none, errW_some] <;> rfl), by repeat (first | (with_reducible first | exact HB.out | apply below_alloc | apply pw_below_drewN | apply below_drew1 | refine below_set ?_ GE358.out) | exact HB.out)⟩
        ·replace c80 := Bool.eq_false_iff.mpr c80
         subst c80
         have H1 : (if t369 = x8_2 then ((laws_flows.f).bind fun t371 => (some t371)) else (some false)) = some r := by rw [if_neg (show ¬ (false = true) by decide)] at H; exact H
         clear H
         have H := H1
         clear H1
         by_cases c83 : t369 = x8_2
         ·rw [if_pos c83] at H
          have c83b0 : (t369 == x8_2) = true := beq_iff_eq.mpr c83
          have c83b1 : (t369 != x8_2) = false := bne_eq_false_iff_eq.mpr c83
          clear c83
          replace H := Option.bind_eq_some_iff.mp H
          obtain ⟨t371, A840, H⟩ := H
          replace H : (some t371) = some r := H
          have A84 := Aside0.mk A840
          clear A840
          obtain rfl := Option.some.inj H
          have hcz85_0 : wr.cell? ⟨gb358, 0, none⟩ = some (.bool a0_0) := (blk_cell BK358.out 0).trans rfl
          have hcz85_1 : wr.cell? ⟨gb358, 1, none⟩ = some (.slice A0_1 l0_1.length c0_1) := (blk_cell BK358.out 1).trans rfl
          have hcz85_2 : wr.cell? ⟨gb358, 2, none⟩ = some (.slice A0_2 l0_2.length c0_2) := (blk_cell BK358.out 2).trans rfl
          have hfz85_0 := blk_frozen BK358.out 0
          have hfz85_1 := blk_frozen BK358.out 1
          have hfz85_2 := blk_frozen BK358.out 2
          go_wp2_with (first | ((with_reducible refine gate_callee (f := 9) rfl ?_); refine goesL_ (some 88) rfl rfl Tryz.func9 (by kernel_rfl) rfl #[.agg #[.bool a0_0, .slice A0_1 l0_1.length c0_1, .slice A0_2 l0_2.length c0_2], .int .i64 a1, .int .i64 a2] rfl (by (try simp only [List.map_toArray, List.map_cons, List.map_nil]); first | done | rfl | (simp only [List.length_drop, List.length_take]; rfl)) ?_; (with_reducible refine (impl_MaxFlow.calls a0_0 _ _ l0_1 _ _ l0_2 a1 a2 t369 false _ ?side1 ?side2 ?side3 ?side4 A79.out).mono ?_); (case side1 => repeat (first | exact (Kd.C_below HR0_1.out HB.out) | (with_reducible refine Kd.C_alloc ?_ _) | (with_reducible refine Kd.C_drewN ?_ _) | (with_reducible refine Kd.C_drew ?_))); (case side2 => exact HC0_1.out); (case side3 => repeat (first | exact (Kd.C_below HR0_2.out HB.out) | (with_reducible refine Kd.C_alloc ?_ _) | (with_reducible refine Kd.C_drewN ?_ _) | (with_reducible refine Kd.C_drew ?_))); (case side4 => exact HC0_2.out); rintro e w86 ⟨rfl, hb⟩; refine ⟨_, rfl, ?_⟩; have n0_ := Aside0.mk (Kd.R_below (by (with_reducible repeat (first | apply Kd.R_alloc | apply Kd.R_drewN | apply Kd.R_drew)); exact HO_7.out) hb); have n1_ := Aside0.mk (blk_below (g := gb358) (o := .cells #[.bool a0_0, .slice A0_1 l0_1.length c0_1, .slice A0_2 l0_2.length c0_2] 26 (0, 0)) (by (with_reducible repeat (first | refine blk_drewN ?_ _ | refine blk_drew ?_ | refine blk_alloc ?_ _)); exact BK358.out) hb); have n2_ := Aside0.mk (below_step (by repeat (first | (with_reducible first | exact HB.out | apply below_alloc | apply pw_below_drewN | apply below_drew1 | refine below_set ?_ GE358.out) | exact HB.out)) hb); clear HO_7; clear BK358; clear HB; have HO_7 := n0_; have BK358 := n1_; have HB := n2_; clear n0_ n1_ n2_; (try clear hb); (try clear hb2); (try clear hk); (try clear hi)) | (go_at_call 12; (with_reducible refine (laws_flows.calls  t371 _ A84.out).mono ?_); rintro e w87 ⟨rfl, hb⟩; have n0_ := Aside0.mk (Kd.R_below (by (with_reducible repeat (first | apply Kd.R_alloc | apply Kd.R_drewN | apply Kd.R_drew)); exact HO_7.out) hb); have n1_ := Aside0.mk (blk_below (g := gb358) (o := .cells #[.bool a0_0, .slice A0_1 l0_1.length c0_1, .slice A0_2 l0_2.length c0_2] 26 (0, 0)) (by (with_reducible repeat (first | refine blk_drewN ?_ _ | refine blk_drew ?_ | refine blk_alloc ?_ _)); exact BK358.out) hb); have n2_ := Aside0.mk (below_step (by repeat (first | (with_reducible first | exact HB.out | apply below_alloc | apply pw_below_drewN | apply below_drew1 | refine below_set ?_ GE358.out) | exact HB.out)) hb); clear HO_7; clear BK358; clear HB; have HO_7 := n0_; have BK358 := n1_; have HB := n2_; clear n0_ n1_ n2_; (try clear hb); (try clear hb2); (try clear hk); (try clear hi)))
          go_ret
          exact ⟨by first | rfl | (simp [errW_none, errW_some] <;> rfl) | (simp only [← hji58]; first | rfl | (simp [errW_none, errW_some] <;> rfl)) | (simp [*, errW_none, errW_some] <;> rfl), by repeat (first | (with_reducible first | exact HB.out | apply below_alloc | apply pw_below_drewN | apply below_drew1 | refine below_set ?_ GE358.out) | exact HB.out)⟩
         ·rw [if_neg c83] at H
          have c83b0 : (t369 == x8_2) = false := beq_eq_false_iff_ne.mpr c83
          have c83b1 : (t369 != x8_2) = true := bne_iff_ne.mpr c83
          obtain rfl := Option.some.inj H
          have hcz88_0 : wr.cell? ⟨gb358, 0, none⟩ = some (.bool a0_0) := (blk_cell BK358.out 0).trans rfl
          have hcz88_1 : wr.cell? ⟨gb358, 1, none⟩ = some (.slice A0_1 l0_1.length c0_1) := (blk_cell BK358.out 1).trans rfl
          have hcz88_2 : wr.cell? ⟨gb358, 2, none⟩ = some (.slice A0_2 l0_2.length c0_2) := (blk_cell BK358.out 2).trans rfl
          have hfz88_0 := blk_frozen BK358.out 0
          have hfz88_1 := blk_frozen BK358.out 1
          have hfz88_2 := blk_frozen BK358.out 2
          go_wp2_with (first | ((with_reducible refine gate_callee (f := 9) rfl ?_); refine goesL_ (some 88) rfl rfl Tryz.func9 (by kernel_rfl) rfl #[.agg #[.bool a0_0, .slice A0_1 l0_1.length c0_1, .slice A0_2 l0_2.length c0_2], .int .i64 a1, .int .i64 a2] rfl (by (try simp only [List.map_toArray, List.map_cons, List.map_nil]); first | done | rfl | (simp only [List.length_drop, List.length_take]; rfl)) ?_; (with_reducible refine (impl_MaxFlow.calls a0_0 _ _ l0_1 _ _ l0_2 a1 a2 t369 false _ ?side1 ?side2 ?side3 ?side4 A79.out).mono ?_); (case side1 => repeat (first | exact (Kd.C_below HR0_1.out HB.out) | (with_reducible refine Kd.C_alloc ?_ _) | (with_reducible refine Kd.C_drewN ?_ _) | (with_reducible refine Kd.C_drew ?_))); (case side2 => exact HC0_1.out); (case side3 => repeat (first | exact (Kd.C_below HR0_2.out HB.out) | (with_reducible refine Kd.C_alloc ?_ _) | (with_reducible refine Kd.C_drewN ?_ _) | (with_reducible refine Kd.C_drew ?_))); (case side4 => exact HC0_2.out); rintro e w89 ⟨rfl, hb⟩; refine ⟨_, rfl, ?_⟩; have n0_ := Aside0.mk (Kd.R_below (by (with_reducible repeat (first | apply Kd.R_alloc | apply Kd.R_drewN | apply Kd.R_drew)); exact HO_7.out) hb); have n1_ := Aside0.mk (blk_below (g := gb358) (o := .cells #[.bool a0_0, .slice A0_1 l0_1.length c0_1, .slice A0_2 l0_2.length c0_2] 26 (0, 0)) (by (with_reducible repeat (first | refine blk_drewN ?_ _ | refine blk_drew ?_ | refine blk_alloc ?_ _)); exact BK358.out) hb); have n2_ := Aside0.mk (below_step (by repeat (first | (with_reducible first | exact HB.out | apply below_alloc | apply pw_below_drewN | apply below_drew1 | refine below_set ?_ GE358.out) | exact HB.out)) hb); clear HO_7; clear BK358; clear HB; have HO_7 := n0_; have BK358 := n1_; have HB := n2_; clear n0_ n1_ n2_; (try clear hb); (try clear hb2); (try clear hk); (try clear hi)))
          go_ret
          exact ⟨by first | rfl | (simp [errW_none, errW_some] <;> rfl) | (simp only [← hji58]; first | rfl | (simp [errW_none, errW_some] <;> rfl)) | (simp [*, errW_none, errW_some] <;> rfl), by repeat (first | (with_reducible first | exact HB.out | apply below_alloc | apply pw_below_drewN | apply below_drew1 | refine below_set ?_ GE358.out) | exact HB.out)⟩
 ·replace c5 := Bool.eq_false_iff.mpr c5
  subst c5
  have H1 : (some true) = some r := by rw [if_neg (show ¬ (false = true) by decide)] at H; exact H
  clear H
  have H := H1
  clear H1
  obtain rfl := Option.some.inj H
  go_enter Tryz.func6, Tryz.ntmps6
  go_wp2_with (first | ((with_reducible refine gate_dst (N := 3) rfl ?_); refine box_event ?hg (N := 3) ?hd (cs := #[.bool a0_0, .slice A0_1 l0_1.length c0_1, .slice A0_2 l0_2.length c0_2]) (t := 26) ?hr ?_; (case hd => rfl); (case hg => rfl); (case hr => first | (go_simp; done) | (go_simp; rfl)); intro gb358 hg w90 hbox hb; have n0_ := Aside0.mk (below_step (by repeat (first | (with_reducible first | exact HB.out | apply below_alloc | apply pw_below_drewN | apply below_drew1) | exact HB.out)) hb); have n1_ := Aside0.mk (hbox); have n2_ := Aside0.mk ((by rw [hg]; exact (below_size (by repeat (first | (with_reducible first | exact HB.out | apply below_alloc | apply pw_below_drewN | apply below_drew1) | exact HB.out))) : w.heap.size ≤ gb358)); have n3_ := Aside0.mk ((by rw [hg]; exact (below_size (by repeat (first | (with_reducible first | exact HB.out | apply below_alloc | apply pw_below_drewN | apply below_drew1) | exact HB.out))) : w.heap.size ≤ gb358)); clear HB; have HB := n0_; have BK358 := n1_; have GW358 := n2_; have GE358 := n3_; clear n0_ n1_ n2_ n3_; clear hb hbox hg; have hcz91_0 : w90.cell? ⟨gb358, 0, none⟩ = some (.bool a0_0) := (blk_cell BK358.out 0).trans rfl; have hcz91_1 : w90.cell? ⟨gb358, 1, none⟩ = some (.slice A0_1 l0_1.length c0_1) := (blk_cell BK358.out 1).trans rfl; have hcz91_2 : w90.cell? ⟨gb358, 2, none⟩ = some (.slice A0_2 l0_2.length c0_2) := (blk_cell BK358.out 2).trans rfl; have hfz91_0 := blk_frozen BK358.out 0; have hfz91_1 := blk_frozen BK358.out 1; have hfz91_2 := blk_frozen BK358.out 2) | ((with_reducible refine gate_callee (f := 13) rfl ?_); refine goesL_ (some 13) rfl rfl Tryz.func13 (by kernel_rfl) rfl #[.agg #[.bool a0_0, .slice A0_1 l0_1.length c0_1, .slice A0_2 l0_2.length c0_2]] rfl (by (try simp only [List.map_toArray, List.map_cons, List.map_nil]); first | done | rfl | (simp only [List.length_drop, List.length_take]; rfl)) ?_; (with_reducible refine (laws_zzFits1.calls a0_0 _ _ l0_1 _ _ l0_2 false _ ?side1 ?side2 ?side3 ?side4 A4.out).mono ?_); (case side1 => repeat (first | exact (Kd.C_below HR0_1.out HB.out) | (with_reducible refine Kd.C_alloc ?_ _) | (with_reducible refine Kd.C_drewN ?_ _) | (with_reducible refine Kd.C_drew ?_))); (case side2 => exact HC0_1.out); (case side3 => repeat (first | exact (Kd.C_below HR0_2.out HB.out) | (with_reducible refine Kd.C_alloc ?_ _) | (with_reducible refine Kd.C_drewN ?_ _) | (with_reducible refine Kd.C_drew ?_))); (case side4 => exact HC0_2.out); rintro e w92 ⟨rfl, hb⟩; refine ⟨_, rfl, ?_⟩; have n0_ := Aside0.mk (blk_below (g := gb358) (o := .cells #[.bool a0_0, .slice A0_1 l0_1.length c0_1, .slice A0_2 l0_2.length c0_2] 26 (0, 0)) (by (with_reducible repeat (first | refine blk_drewN ?_ _ | refine blk_drew ?_ | refine blk_alloc ?_ _)); exact BK358.out) hb); have n1_ := Aside0.mk (below_step (by repeat (first | (with_reducible first | exact HB.out | apply below_alloc | apply pw_below_drewN | apply below_drew1 | refine below_set ?_ GE358.out) | exact HB.out)) hb); clear BK358; clear HB; have BK358 := n0_; have HB := n1_; clear n0_ n1_; (try clear hb); (try clear hb2); (try clear hk); (try clear hi)))
  go_ret
  exact ⟨by first | rfl | (simp [errW_none, errW_some] <;> rfl) | (simp [*, errW_none, errW_some] <;> rfl), by repeat (first | (with_reducible first | exact HB.out | apply below_alloc | apply pw_below_drewN | apply below_drew1 | refine below_set ?_ GE358.out) | exact HB.out)⟩


end Go.Proofs.YthkmblgehdofmaaGreat.PL
