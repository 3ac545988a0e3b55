/- Printed by a program (the kit's printer, run over contracts that were proved by hand). -/
import Derived.Test.YtgiebjihceggjaaT0
import Derived.Test.YtgiebjihceggjaaT3
import Derived.Test.YtgiebjihceggjaaT4
import Derived.Test.YtgiebjihceggjaaT5
import Derived.Test.YtgiebjihceggjaaV4
namespace Go.Proofs.Ytgiebjihceggjaa.PFnGenTree
open Go.RowKit Go.Proofs.YtgiebjihceggjaaW.PrintWords Go.Proofs.YtgiebjihceggjaaW.PrintLast Go.Proofs.YtgiebjihceggjaaW.PrintMore
attribute [local go_sem] max2_int min2_int max_two min_two max_three min_three max_four min_four   -- for this text's walks alone
set_option linter.unusedVariables false
set_option linter.unusedSimpArgs false

/-! ### laws_FnGenTree: function 3 -/
mutual
def laws_FnGenTree.j0 : Nat → Bool → Int → List Int → Bool → Bool → Bool → List Int → List (S30) → Option (Bool)
  | 0, _, _, _, _, _, _, _, _ => none
  | k + 1, x0, x1, x2, x8, x37, x215000, x215001, x215002 => if x37 = true then (some false) else ((laws_apart.f k x2).bind fun t227 => (if t227 = true then (if (x2.length : Int) > 1 then (if x1 < 1 then (laws_FnGenTree.j1 k x0 x1 x2 x8 true x215000 x215001 x215002) else (laws_FnGenTree.j1 k x0 x1 x2 x8 (decide (x1 ≥ (x2.length : Int))) x215000 x215001 x215002)) else (laws_FnGenTree.j1 k x0 x1 x2 x8 false x215000 x215001 x215002)) else (laws_FnGenTree.j1 k x0 x1 x2 x8 true x215000 x215001 x215002)))
def laws_FnGenTree.j1 : Nat → Bool → Int → List Int → Bool → Bool → Bool → List Int → List (S30) → Option (Bool)
  | 0, _, _, _, _, _, _, _, _ => none
  | k + 1, x0, x1, x2, x8, x55, x215000, x215001, x215002 => if x55 = true then (some x8) else (laws_FnGenTree.l0 k x1 x2 x8 1 x215000 x215001 x215002 x0 x2 ([] : List (S30)))
def laws_FnGenTree.l0 : Nat → Int → List Int → Bool → Int → Bool → List Int → List (S30) → Bool → List Int → List (S30) → Option (Bool)
  | 0, _, _, _, _, _, _, _, _, _, _ => none
  | k + 1, x1, x2, x8, x12, x215000, x215001, x215002, x229000, x229001, x229002 => if x12 < (x2.length : Int) then (if x1 = 0 then (none) else (if 0 ≤ (wrap64 (Int.tdiv (wrap64 (x12 - 1)) x1)) then (if (wrap64 (Int.tdiv (wrap64 (x12 - 1)) x1)) < (x2.length : Int) then (if 0 ≤ x12 then (if x229002.length < 5864062014805 then (laws_FnGenTree.l0 k x1 x2 x8 (wrap64 (x12 + 1)) x215000 x215001 x215002 x229000 x229001 (x229002 ++ [(⟨rd x2 (wrap64 (Int.tdiv (wrap64 (x12 - 1)) x1)), rd x2 x12, 0⟩ : S30)])) else (none)) else (none)) else (none)) else (none))) else (if x8 = true then (some false) else ((laws_plain.f k x229000 x229001 x229002).bind fun bt234 => ((laws_sameGraph.f k x215000 x215001 x215002 bt234.1 bt234.2.1 bt234.2.2).bind fun t241 => (some t241))))
end
def laws_FnGenTree.f (k : Nat) (a0 : Bool) (a1 : Int) (l2 : List Int) : Option (Bool) := if (l2.length : Int) > 2147483647 then (some true) else (if (l2.length : Int) > 40 then (some true) else ((impl_GenTree.f a0 a1 l2).bind fun bt206 => ((impl_GenTree.f false 1 (([7, 8] : List Int))).bind fun bt218 => (if bt218.2.2.2 = true then (laws_FnGenTree.j0 k a0 a1 l2 bt206.2.2.2 true bt206.1 bt206.2.1 bt206.2.2.1) else (laws_FnGenTree.j0 k a0 a1 l2 bt206.2.2.2 ((bt218.2.2.1.length : Int) != 1) bt206.1 bt206.2.1 bt206.2.2.1)))))
theorem laws_FnGenTree.mono_l : ∀ k, (∀ y0 y1 y2 y3 y4 y5 y6 y7, LeO (laws_FnGenTree.j0 k y0 y1 y2 y3 y4 y5 y6 y7) (laws_FnGenTree.j0 (k + 1) y0 y1 y2 y3 y4 y5 y6 y7)) ∧ (∀ y0 y1 y2 y3 y4 y5 y6 y7, LeO (laws_FnGenTree.j1 k y0 y1 y2 y3 y4 y5 y6 y7) (laws_FnGenTree.j1 (k + 1) y0 y1 y2 y3 y4 y5 y6 y7)) ∧ (∀ y0 y1 y2 y3 y4 y5 y6 y7 y8 y9, LeO (laws_FnGenTree.l0 k y0 y1 y2 y3 y4 y5 y6 y7 y8 y9) (laws_FnGenTree.l0 (k + 1) y0 y1 y2 y3 y4 y5 y6 y7 y8 y9))
  | 0 => ⟨fun _ _ _ _ _ _ _ _ r h => by simp [laws_FnGenTree.j0] at h, fun _ _ _ _ _ _ _ _ r h => by simp [laws_FnGenTree.j1] at h, fun _ _ _ _ _ _ _ _ _ _ r h => by simp [laws_FnGenTree.l0] at h⟩
  | k + 1 => by
    obtain ⟨ih0, ih1, ih2⟩ := laws_FnGenTree.mono_l k
    refine ⟨?_, ?_, ?_⟩
    · intro y0 y1 y2 y3 y4 y5 y6 y7
      unfold laws_FnGenTree.j0
      repeat' first
      | (with_reducible exact ih0 _ _ _ _ _ _ _ _)
      | (with_reducible exact ih1 _ _ _ _ _ _ _ _)
      | (with_reducible exact ih2 _ _ _ _ _ _ _ _ _ _)
      | (with_reducible exact laws_apart.mono _ _)
      | (with_reducible exact laws_plain.mono _ _ _ _)
      | (with_reducible exact laws_sameGraph.mono _ _ _ _ _ _ _)
      | (with_reducible exact LeO.refl _)
      | (with_reducible exact LeO.none _)
      | (with_reducible refine LeO.ite ?_ ?_)
      | (with_reducible refine LeO.bind ?_ (fun _ => ?_))
      | exact ih0 _ _ _ _ _ _ _ _
      | exact ih1 _ _ _ _ _ _ _ _
      | exact ih2 _ _ _ _ _ _ _ _ _ _
      | exact laws_apart.mono _ _
      | exact laws_plain.mono _ _ _ _
      | exact laws_sameGraph.mono _ _ _ _ _ _ _
      | exact LeO.none _
      | refine LeO.ite ?_ ?_
      | refine LeO.bind ?_ (fun _ => ?_)
    · intro y0 y1 y2 y3 y4 y5 y6 y7
      unfold laws_FnGenTree.j1
      repeat' first
      | (with_reducible exact ih0 _ _ _ _ _ _ _ _)
      | (with_reducible exact ih1 _ _ _ _ _ _ _ _)
      | (with_reducible exact ih2 _ _ _ _ _ _ _ _ _ _)
      | (with_reducible exact laws_apart.mono _ _)
      | (with_reducible exact laws_plain.mono _ _ _ _)
      | (with_reducible exact laws_sameGraph.mono _ _ _ _ _ _ _)
      | (with_reducible exact LeO.refl _)
      | (with_reducible exact LeO.none _)
      | (with_reducible refine LeO.ite ?_ ?_)
      | (with_reducible refine LeO.bind ?_ (fun _ => ?_))
      | exact ih0 _ _ _ _ _ _ _ _
      | exact ih1 _ _ _ _ _ _ _ _
      | exact ih2 _ _ _ _ _ _ _ _ _ _
      | exact laws_apart.mono _ _
      | exact laws_plain.mono _ _ _ _
      | exact laws_sameGraph.mono _ _ _ _ _ _ _
      | exact LeO.none _
      | refine LeO.ite ?_ ?_
      | refine LeO.bind ?_ (fun _ => ?_)
    · intro y0 y1 y2 y3 y4 y5 y6 y7 y8 y9
      unfold laws_FnGenTree.l0
      repeat' first
      | (with_reducible exact ih0 _ _ _ _ _ _ _ _)
      | (with_reducible exact ih1 _ _ _ _ _ _ _ _)
      | (with_reducible exact ih2 _ _ _ _ _ _ _ _ _ _)
      | (with_reducible exact laws_apart.mono _ _)
      | (with_reducible exact laws_plain.mono _ _ _ _)
      | (with_reducible exact laws_sameGraph.mono _ _ _ _ _ _ _)
      | (with_reducible exact LeO.refl _)
      | (with_reducible exact LeO.none _)
      | (with_reducible refine LeO.ite ?_ ?_)
      | (with_reducible refine LeO.bind ?_ (fun _ => ?_))
      | exact ih0 _ _ _ _ _ _ _ _
      | exact ih1 _ _ _ _ _ _ _ _
      | exact ih2 _ _ _ _ _ _ _ _ _ _
      | exact laws_apart.mono _ _
      | exact laws_plain.mono _ _ _ _
      | exact laws_sameGraph.mono _ _ _ _ _ _ _
      | exact LeO.none _
      | refine LeO.ite ?_ ?_
      | refine LeO.bind ?_ (fun _ => ?_)
theorem laws_FnGenTree.mono : ∀ a0 a1 a2 k, LeO (laws_FnGenTree.f k a0 a1 a2) (laws_FnGenTree.f (k + 1) a0 a1 a2) := by
  intro a0 a1 a2 k
  obtain ⟨ih0, ih1, ih2⟩ := laws_FnGenTree.mono_l k
  unfold laws_FnGenTree.f
  repeat' first
      | (with_reducible exact ih0 _ _ _ _ _ _ _ _)
      | (with_reducible exact ih1 _ _ _ _ _ _ _ _)
      | (with_reducible exact ih2 _ _ _ _ _ _ _ _ _ _)
      | (with_reducible exact laws_apart.mono _ _)
      | (with_reducible exact laws_plain.mono _ _ _ _)
      | (with_reducible exact laws_sameGraph.mono _ _ _ _ _ _ _)
      | (with_reducible exact LeO.refl _)
      | (with_reducible exact LeO.none _)
      | (with_reducible refine LeO.ite ?_ ?_)
      | (with_reducible refine LeO.bind ?_ (fun _ => ?_))
      | exact ih0 _ _ _ _ _ _ _ _
      | exact ih1 _ _ _ _ _ _ _ _
      | exact ih2 _ _ _ _ _ _ _ _ _ _
      | exact laws_apart.mono _ _
      | exact laws_plain.mono _ _ _ _
      | exact laws_sameGraph.mono _ _ _ _ _ _ _
      | exact LeO.none _
      | refine LeO.ite ?_ ?_
      | refine LeO.bind ?_ (fun _ => ?_)
def laws_FnGenTree.T15 : Bool × List (List Nat × List Nat) := (true, [([], []), ([0], [0]), ([], []), ([], []), ([3], [3]), ([], []), ([4, 5], [4, 5]), ([2, 6], [2, 6]), ([7], [7]), ([], []), ([], []), ([9, 10], [9, 10]), ([11], [11]), ([8, 12], [8, 12]), ([13], [13]), ([1, 14], [1, 14]), ([0, 1, 2, 3, 4, 5, 6, 7, 8, 9, 10, 11, 12, 13, 14, 15], []), ([16, 15, 15, 0, 1, 2, 3, 4, 5, 6, 7, 8, 9, 10, 11, 12, 13, 14, 15], [15, 16])])
def laws_FnGenTree.B15 : List Nat := [0, 1, 0, 0, 8, 0, 56, 124, 252, 0, 0, 1536, 3584, 8188, 16380, 32767, 65535, 131071]
theorem laws_FnGenTree.tab15 : rtab .any (opsOf Try.f3 15) = laws_FnGenTree.T15 := by kernel_rfl
theorem laws_FnGenTree.bits15 : waitsOk laws_FnGenTree.T15.2 laws_FnGenTree.B15 = true := by kernel_rfl
def laws_FnGenTree.T16 : Bool × List (List Nat × List Nat) := (true, [([], []), ([0], [0]), ([1], [1]), ([2], [2]), ([2], [2]), ([4, 2, 2], [2, 4]), ([3, 5, 5, 2], [2, 3, 5]), ([2, 6], [2, 6]), ([7, 6, 0, 1, 2, 3, 4, 5, 6, 7], [7])])
def laws_FnGenTree.B16 : List Nat := [0, 1, 3, 7, 7, 23, 63, 127, 255]
theorem laws_FnGenTree.tab16 : rtab .any (opsOf Try.f3 16) = laws_FnGenTree.T16 := by kernel_rfl
theorem laws_FnGenTree.bits16 : waitsOk laws_FnGenTree.T16.2 laws_FnGenTree.B16 = true := by kernel_rfl
set_option maxHeartbeats 8000000 in
set_option maxRecDepth 100000 in
theorem laws_FnGenTree.calls (k : Nat) (a0 : Bool) (a1 : Int) (A2 : Option Addr) (c2 : Nat) (l2 : List Int) (r : Bool) (w : World) (hr2 : Kd.C (Kd.int .i64) w A2 l2.length l2) (hc2 : l2.length ≤ c2) (h : laws_FnGenTree.f k a0 a1 l2 = some r) :
    Calls Try.prog 3 #[.bool a0, .int .i64 a1, .slice A2 l2.length c2] w fun e w' => e = .returned (.bool r) ∧ Below w.heap.size w w' := by
  have hu25 := Try.underlying25
  have hu30 := Try.underlying30
  have HR2 := Aside0.mk hr2
  have HC2 := Aside0.mk hc2
  clear hr2 hc2
  have HB := Aside0.mk (Below.refl w.heap.size w)
  have H : (if (l2.length : Int) > 2147483647 then (some true) else (if (l2.length : Int) > 40 then (some true) else ((impl_GenTree.f a0 a1 l2).bind fun bt206 => ((impl_GenTree.f false 1 (([7, 8] : List Int))).bind fun bt218 => (if bt218.2.2.2 = true then (laws_FnGenTree.j0 k a0 a1 l2 bt206.2.2.2 true bt206.1 bt206.2.1 bt206.2.2.1) else (laws_FnGenTree.j0 k a0 a1 l2 bt206.2.2.2 ((bt218.2.2.1.length : Int) != 1) bt206.1 bt206.2.1 bt206.2.2.1)))))) = some r := h
  clear h
  by_cases c4 : (l2.length : Int) > 2147483647
  · rw [if_pos c4] at H
    have c4b0 : decide (2147483647 < (l2.length : Int)) = true := decide_eq_true c4
    have c4b1 : decide (2147483647 < l2.length) = true := decide_eq_true (by omega)
    clear c4
    obtain rfl := Option.some.inj H
    go_enter Try.func3, Try.ntmps3
    go_wp2
    go_ret
    exact ⟨by first | rfl | (simp [errW_none, errW_some] <;> rfl) | (simp [*, errW_none, errW_some] <;> rfl), by repeat (first | (with_reducible first | exact HB.out | apply below_alloc | apply pw_below_drewN | apply below_drew1) | exact HB.out)⟩
  · rw [if_neg c4] at H
    have c4b0 : decide (2147483647 < (l2.length : Int)) = false := decide_eq_false c4
    have c4b1 : decide (2147483647 < l2.length) = false := decide_eq_false (by omega)
    clear c4
    by_cases c5 : (l2.length : Int) > 40
    · rw [if_pos c5] at H
      have c5b0 : decide (40 < (l2.length : Int)) = true := decide_eq_true c5
      have c5b1 : decide (40 < l2.length) = true := decide_eq_true (by omega)
      clear c5
      obtain rfl := Option.some.inj H
      go_enter Try.func3, Try.ntmps3
      go_wp2
      go_ret
      exact ⟨by first | rfl | (simp [errW_none, errW_some] <;> rfl) | (simp [*, errW_none, errW_some] <;> rfl), by repeat (first | (with_reducible first | exact HB.out | apply below_alloc | apply pw_below_drewN | apply below_drew1) | exact HB.out)⟩
    · rw [if_neg c5] at H
      have c5b0 : decide (40 < (l2.length : Int)) = false := decide_eq_false c5
      have c5b1 : decide (40 < l2.length) = false := decide_eq_false (by omega)
      clear c5
      replace H := Option.bind_eq_some_iff.mp H
      obtain ⟨⟨t206, t207, t210, t213⟩, A60, H⟩ := H
      replace H : ((impl_GenTree.f false 1 (([7, 8] : List Int))).bind fun bt218 => (if bt218.2.2.2 = true then (laws_FnGenTree.j0 k a0 a1 l2 t213 true t206 t207 t210) else (laws_FnGenTree.j0 k a0 a1 l2 t213 ((bt218.2.2.1.length : Int) != 1) t206 t207 t210))) = some r := H
      have A6 := Aside0.mk A60
      clear A60
      obtain ⟨y215, hy215⟩ : ∃ y_ : List Int, y_ = (([7, 8] : List Int)) := ⟨_, rfl⟩
      replace H : ((impl_GenTree.f false 1 y215).bind fun bt218 => (if bt218.2.2.2 = true then (laws_FnGenTree.j0 k a0 a1 l2 t213 true t206 t207 t210) else (laws_FnGenTree.j0 k a0 a1 l2 t213 ((bt218.2.2.1.length : Int) != 1) t206 t207 t210))) = some r := by first | (rw [hy215]; with_reducible exact H) | (have H2_ := (Option.bind_some _ _).symm.trans H; rw [hy215]; with_reducible exact H2_) | (have H2_ := (Option.bind_some _ _).symm.trans H; with_reducible exact H2_) | with_reducible exact H | (rw [hy215]; exact H) | exact H
      have Ny215 := Aside0.mk hy215
      clear hy215
      replace H := Option.bind_eq_some_iff.mp H
      obtain ⟨⟨t218, t219, t222, t225⟩, A70, H⟩ := H
      replace H : (if t225 = true then (laws_FnGenTree.j0 k a0 a1 l2 t213 true t206 t207 t210) else (laws_FnGenTree.j0 k a0 a1 l2 t213 ((t222.length : Int) != 1) t206 t207 t210)) = some r := H
      have A7 := Aside0.mk A70
      clear A70
      have HC8 := Aside0.mk H
      clear H
      go_enter Try.func3, Try.ntmps3
      go_upto_region 7 with (first | ((with_reducible refine gate_callee (f := 4) rfl ?_); refine goesL_ (some 23) rfl rfl Try.func4 (by kernel_rfl) rfl #[.bool a0, .int .i64 a1, .slice A2 l2.length c2] rfl (by (try simp only [List.map_toArray, List.map_cons, List.map_nil]); first | done | rfl | (simp only [List.length_drop, List.length_take]; rfl)) ?_; (with_reducible refine (impl_GenTree.calls a0 a1 _ _ l2 t206 t207 t210 t213 _ ?side1 ?side2 A6.out).mono ?_); (case side1 => repeat (first | exact HR2.out | (with_reducible refine Kd.C_alloc ?_ _) | (with_reducible refine Kd.C_drewN ?_ _) | (with_reducible refine Kd.C_drew ?_))); (case side2 => exact HC2.out); rintro e w9 ⟨v208, v211, rfl, ho0, ho1, hb⟩; refine ⟨_, rfl, ?_⟩; have n0_ := Aside0.mk (Kd.R_lower ho0 (below_size (by repeat (first | (with_reducible first | exact HB.out | apply below_alloc | apply pw_below_drewN | apply below_drew1) | exact HB.out)))); have n1_ := Aside0.mk (Kd.R_lower ho1 (below_size (by repeat (first | (with_reducible first | exact HB.out | apply below_alloc | apply pw_below_drewN | apply below_drew1) | exact HB.out)))); have n2_ := Aside0.mk (below_step (by repeat (first | (with_reducible first | exact HB.out | apply below_alloc | apply pw_below_drewN | apply below_drew1) | exact HB.out)) hb); clear HB; have HO209 := n0_; have HO212 := n1_; have HB := n2_; clear n0_ n1_ n2_; (try clear hb); (try clear hb2); (try clear hk); (try clear hi); (try clear ho0); (try clear ho1)) | ((with_reducible refine gate_dst (N := 7) rfl ?_); (try (refine gate_guard (by rfl) ?_; dsimp only)); refine box_event ?hg (N := 7) ?hd (cs := #[.bool false, .slice none 0 0, .slice none 0 0]) (t := 25) ?hr ?_; (case hd => rfl); (case hg => rfl); (case hr => first | (go_simp; done) | (go_simp; rfl)); intro gb214 hg w10 hbox hb; have n0_ := Aside0.mk (Kd.R_below (by (with_reducible repeat (first | apply Kd.R_alloc | apply Kd.R_drewN | apply Kd.R_drew)); exact HO209.out) hb); have n1_ := Aside0.mk (Kd.R_below (by (with_reducible repeat (first | apply Kd.R_alloc | apply Kd.R_drewN | apply Kd.R_drew)); exact HO212.out) hb); have n2_ := Aside0.mk (below_step (by repeat (first | (with_reducible first | exact HB.out | apply below_alloc | apply pw_below_drewN | apply below_drew1) | exact HB.out)) hb); have n3_ := Aside0.mk (hbox); have n4_ := Aside0.mk ((by rw [hg]; exact (below_size (by repeat (first | (with_reducible first | exact HB.out | apply below_alloc | apply pw_below_drewN | apply below_drew1) | exact HB.out))) : w.heap.size ≤ gb214)); have n5_ := Aside0.mk ((by rw [hg]; exact (below_size (by repeat (first | (with_reducible first | exact HB.out | apply below_alloc | apply pw_below_drewN | apply below_drew1) | exact HB.out))) : w.heap.size ≤ gb214)); clear HO209; clear HO212; clear HB; have HO209 := n0_; have HO212 := n1_; have HB := n2_; have BK214 := n3_; have GW214 := n4_; have GE214 := n5_; clear n0_ n1_ n2_ n3_ n4_ n5_; clear hb hbox hg; have hcz11_0 : w10.cell? ⟨gb214, 0, none⟩ = some (.bool false) := (blk_cell BK214.out 0).trans rfl; have hcz11_1 : w10.cell? ⟨gb214, 1, none⟩ = some (.slice none 0 0) := (blk_cell BK214.out 1).trans rfl; have hcz11_2 : w10.cell? ⟨gb214, 2, none⟩ = some (.slice none 0 0) := (blk_cell BK214.out 2).trans rfl; have hfz11_0 := blk_frozen BK214.out 0; have hfz11_1 := blk_frozen BK214.out 1; have hfz11_2 := blk_frozen BK214.out 2; obtain ⟨Ao12, co12, eo12⟩ := Kd.R_slice HO209.out; subst eo12; obtain ⟨Ao13, co13, eo13⟩ := Kd.R_slice HO212.out; subst eo13) | ((with_reducible refine gate_dst (N := 27) rfl ?_); (try (refine gate_guard (by rfl) ?_; dsimp only)); refine Kd.R_lit (Kd.int .i64) _ 3 ?hg (N := 27) ?hd (xs := ([7, 8] : List Int)) (inner := [.int .i64 7, .int .i64 8]) (ok := fun _ => True) (okp := fun _ => True) ?hr ?hp (fun _ hk => hk) trivial (Below.refl _ _) (Nat.le_refl _) (by simp) ?_; (case hd => rfl); (case hg => rfl); (case hr => first | (go_simp; done) | (go_simp; rfl)); (case hp => exact (Reps.one (show Kd.M (Kd.int .i64) _ _ _ 7 [.int .i64 7] from rfl) (Reps.one (show Kd.M (Kd.int .i64) _ _ _ 8 [.int .i64 8] from rfl) (Reps.none _ _)))); intro v216 w14 ho15 hb hg_ hnew_; clear hg_ hnew_; (first | rw [← Ny215.out] at ho15 | (simp only [Int.reduceToNat] at ho15; rw [← Ny215.out] at ho15)); have n0_ := Aside0.mk (Kd.R_elder' (by (with_reducible repeat (first | apply Kd.R_alloc | apply Kd.R_drewN | apply Kd.R_drew)); exact (Kd.R_mono (Kd.R_far (p := ⟨gb214, 2, none⟩) (Kd.R_far (p := ⟨gb214, 1, none⟩) (Kd.R_far (p := ⟨gb214, 0, none⟩) (Kd.R_types HO209.out BK214.out (by decide)) (fun _ hk => hk.2) (.bool t206)) (fun _ hk => hk.2) (.slice Ao12 t207.length co12)) (fun _ hk => hk.2) (.slice Ao13 t210.length co13)) (fun _ h_ => h_.1))) (Kd.R_base ho15) hb); have n1_ := Aside0.mk (Kd.R_below (by (with_reducible repeat (first | apply Kd.R_alloc | apply Kd.R_drewN | apply Kd.R_drew)); exact (Kd.R_mono (Kd.R_far (p := ⟨gb214, 2, none⟩) (Kd.R_far (p := ⟨gb214, 1, none⟩) (Kd.R_far (p := ⟨gb214, 0, none⟩) (Kd.R_types HO212.out BK214.out (by decide)) (fun _ hk => hk.2) (.bool t206)) (fun _ hk => hk.2) (.slice Ao12 t207.length co12)) (fun _ hk => hk.2) (.slice Ao13 t210.length co13)) (fun _ h_ => h_.1))) hb); have n2_ := Aside0.mk (Kd.R_lower (Kd.R_new' ho15 (Kd.R_lt (by (with_reducible repeat (first | apply Kd.R_alloc | apply Kd.R_drewN | apply Kd.R_drew)); exact (Kd.R_mono (Kd.R_far (p := ⟨gb214, 2, none⟩) (Kd.R_far (p := ⟨gb214, 1, none⟩) (Kd.R_far (p := ⟨gb214, 0, none⟩) (Kd.R_types HO209.out BK214.out (by decide)) (fun _ hk => hk.2) (.bool t206)) (fun _ hk => hk.2) (.slice Ao12 t207.length co12)) (fun _ hk => hk.2) (.slice Ao13 t210.length co13)) (fun _ h_ => h_.1))))) (below_size (by repeat (first | (with_reducible first | exact HB.out | apply below_alloc | apply pw_below_drewN | apply below_drew1 | refine below_set ?_ GE214.out) | exact HB.out)))); have n3_ := Aside0.mk (blk_below (g := gb214) (o := .cells #[.bool t206, .slice Ao12 t207.length co12, .slice Ao13 t210.length co13] 25 (0, 0)) (by (with_reducible repeat (first | refine blk_drewN ?_ _ | refine blk_drew ?_ | refine blk_alloc ?_ _)); refine blk_put (cs := #[.bool t206, .slice Ao12 t207.length co12, .slice none 0 0]) ?_ 2 _ rfl; (with_reducible repeat (first | refine blk_drewN ?_ _ | refine blk_drew ?_ | refine blk_alloc ?_ _)); refine blk_put (cs := #[.bool t206, .slice none 0 0, .slice none 0 0]) ?_ 1 _ rfl; (with_reducible repeat (first | refine blk_drewN ?_ _ | refine blk_drew ?_ | refine blk_alloc ?_ _)); refine blk_put (cs := #[.bool false, .slice none 0 0, .slice none 0 0]) ?_ 0 _ rfl; (with_reducible repeat (first | refine blk_drewN ?_ _ | refine blk_drew ?_ | refine blk_alloc ?_ _)); exact BK214.out) hb); have n4_ := Aside0.mk (below_step (by repeat (first | (with_reducible first | exact HB.out | apply below_alloc | apply pw_below_drewN | apply below_drew1 | refine below_set ?_ GE214.out) | exact HB.out)) hb); clear HO209; clear HO212; clear BK214; clear HB; have HO209 := n0_; have HO212 := n1_; have HO217 := n2_; have BK214 := n3_; have HB := n4_; clear n0_ n1_ n2_ n3_ n4_; clear hb ho15; obtain ⟨Ao16, co16, eo16⟩ := Kd.R_slice HO217.out; subst eo16) | ((with_reducible refine gate_callee (f := 4) rfl ?_); refine goesL_ (some 28) rfl rfl Try.func4 (by kernel_rfl) rfl #[.bool false, .int .i64 1, .slice Ao16 y215.length co16] rfl (by (try simp only [List.map_toArray, List.map_cons, List.map_nil]); first | done | rfl | (simp only [List.length_drop, List.length_take]; rfl)) ?_; (with_reducible refine (impl_GenTree.calls false 1 _ _ y215 t218 t219 t222 t225 _ ?side1 ?side2 A7.out).mono ?_); (case side1 => repeat (first | exact (Kd.R_reads' HO217.out).2.2 | (with_reducible refine Kd.C_alloc ?_ _) | (with_reducible refine Kd.C_drewN ?_ _) | (with_reducible refine Kd.C_drew ?_))); (case side2 => exact (Kd.R_reads' HO217.out).2.1); rintro e w17 ⟨v220, v223, rfl, ho0, ho1, hb⟩; refine ⟨_, rfl, ?_⟩; have n0_ := Aside0.mk (Kd.R_elder' (by (with_reducible repeat (first | apply Kd.R_alloc | apply Kd.R_drewN | apply Kd.R_drew)); exact HO209.out) (Kd.R_base ho0) hb); have n1_ := Aside0.mk (Kd.R_elder' (by (with_reducible repeat (first | apply Kd.R_alloc | apply Kd.R_drewN | apply Kd.R_drew)); exact HO212.out) (Kd.R_base ho1) hb); have n2_ := Aside0.mk (Kd.R_elder' (by (with_reducible repeat (first | apply Kd.R_alloc | apply Kd.R_drewN | apply Kd.R_drew)); exact HO217.out) (Kd.R_base ho0) hb); have n3_ := Aside0.mk (Kd.R_lower (Kd.R_new' (Kd.R_new' ho0 (Kd.R_lt (by (with_reducible repeat (first | apply Kd.R_alloc | apply Kd.R_drewN | apply Kd.R_drew)); exact HO209.out))) (Kd.R_lt (by (with_reducible repeat (first | apply Kd.R_alloc | apply Kd.R_drewN | apply Kd.R_drew)); exact HO217.out))) (below_size (by repeat (first | (with_reducible first | exact HB.out | apply below_alloc | apply pw_below_drewN | apply below_drew1 | refine below_set ?_ GE214.out) | exact HB.out)))); have n4_ := Aside0.mk (Kd.R_lower (Kd.R_new' ho1 (Kd.R_lt (by (with_reducible repeat (first | apply Kd.R_alloc | apply Kd.R_drewN | apply Kd.R_drew)); exact HO212.out))) (below_size (by repeat (first | (with_reducible first | exact HB.out | apply below_alloc | apply pw_below_drewN | apply below_drew1 | refine below_set ?_ GE214.out) | exact HB.out)))); have n5_ := Aside0.mk (blk_below (g := gb214) (o := .cells #[.bool t206, .slice Ao12 t207.length co12, .slice Ao13 t210.length co13] 25 (0, 0)) (by (with_reducible repeat (first | refine blk_drewN ?_ _ | refine blk_drew ?_ | refine blk_alloc ?_ _)); exact BK214.out) hb); have n6_ := Aside0.mk (below_step (by repeat (first | (with_reducible first | exact HB.out | apply below_alloc | apply pw_below_drewN | apply below_drew1 | refine below_set ?_ GE214.out) | exact HB.out)) hb); clear HO209; clear HO212; clear HO217; clear BK214; clear HB; have HO209 := n0_; have HO212 := n1_; have HO217 := n2_; have HO221 := n3_; have HO224 := n4_; have BK214 := n5_; have HB := n6_; clear n0_ n1_ n2_ n3_ n4_ n5_ n6_; (try clear hb); (try clear hb2); (try clear hk); (try clear hi); (try clear ho0); (try clear ho1)) | ((with_reducible refine gate_dst (N := 9) rfl ?_); (try (refine gate_guard (by rfl) ?_; dsimp only)); refine box_event ?hg (N := 9) ?hd (cs := #[.bool false, .slice none 0 0, .slice none 0 0]) (t := 25) ?hr ?_; (case hd => rfl); (case hg => rfl); (case hr => first | (go_simp; done) | (go_simp; rfl)); intro gb226 hg w18 hbox hb; have n0_ := Aside0.mk (Kd.R_below (by (with_reducible repeat (first | apply Kd.R_alloc | apply Kd.R_drewN | apply Kd.R_drew)); exact HO209.out) hb); have n1_ := Aside0.mk (Kd.R_below (by (with_reducible repeat (first | apply Kd.R_alloc | apply Kd.R_drewN | apply Kd.R_drew)); exact HO212.out) hb); have n2_ := Aside0.mk (Kd.R_below (by (with_reducible repeat (first | apply Kd.R_alloc | apply Kd.R_drewN | apply Kd.R_drew)); exact HO217.out) hb); have n3_ := Aside0.mk (Kd.R_below (by (with_reducible repeat (first | apply Kd.R_alloc | apply Kd.R_drewN | apply Kd.R_drew)); exact HO221.out) hb); have n4_ := Aside0.mk (Kd.R_below (by (with_reducible repeat (first | apply Kd.R_alloc | apply Kd.R_drewN | apply Kd.R_drew)); exact HO224.out) hb); have n5_ := Aside0.mk (blk_below (g := gb214) (o := .cells #[.bool t206, .slice Ao12 t207.length co12, .slice Ao13 t210.length co13] 25 (0, 0)) (by (with_reducible repeat (first | refine blk_drewN ?_ _ | refine blk_drew ?_ | refine blk_alloc ?_ _)); exact BK214.out) hb); have n6_ := Aside0.mk (below_step (by repeat (first | (with_reducible first | exact HB.out | apply below_alloc | apply pw_below_drewN | apply below_drew1 | refine below_set ?_ GE214.out) | exact HB.out)) hb); have n7_ := Aside0.mk (hbox); have n8_ := Aside0.mk ((by rw [hg]; exact (below_size (by repeat (first | (with_reducible first | exact HB.out | apply below_alloc | apply pw_below_drewN | apply below_drew1 | refine below_set ?_ GE214.out) | exact HB.out))) : w.heap.size ≤ gb226)); have n9_ := Aside0.mk ((by rw [hg]; exact (below_size (by repeat (first | (with_reducible first | exact HB.out | apply below_alloc | apply pw_below_drewN | apply below_drew1 | refine below_set ?_ GE214.out) | exact HB.out))) : w.heap.size ≤ gb226)); have n10_ := Aside0.mk ((by rw [hg]; exact Nat.ne_of_lt (blk_lt (g := gb214) (o := .cells #[.bool t206, .slice Ao12 t207.length co12, .slice Ao13 t210.length co13] 25 (0, 0)) (by (with_reducible repeat (first | refine blk_drewN ?_ _ | refine blk_drew ?_ | refine blk_alloc ?_ _)); exact BK214.out)) : gb214 ≠ gb226)); have n11_ := Aside0.mk ((by rw [hg]; exact Nat.ne_of_gt (blk_lt (g := gb214) (o := .cells #[.bool t206, .slice Ao12 t207.length co12, .slice Ao13 t210.length co13] 25 (0, 0)) (by (with_reducible repeat (first | refine blk_drewN ?_ _ | refine blk_drew ?_ | refine blk_alloc ?_ _)); exact BK214.out)) : gb226 ≠ gb214)); clear HO209; clear HO212; clear HO217; clear HO221; clear HO224; clear BK214; clear HB; have HO209 := n0_; have HO212 := n1_; have HO217 := n2_; have HO221 := n3_; have HO224 := n4_; have BK214 := n5_; have HB := n6_; have BK226 := n7_; have GW226 := n8_; have GE226 := n9_; have NB214_226 := n10_; have NB226_214 := n11_; clear n0_ n1_ n2_ n3_ n4_ n5_ n6_ n7_ n8_ n9_ n10_ n11_; clear hb hbox hg; have hnb19 := NB226_214.out; have hnc19 := NB214_226.out; have hcz20_0 : w18.cell? ⟨gb226, 0, none⟩ = some (.bool false) := (blk_cell BK226.out 0).trans rfl; have hcz20_1 : w18.cell? ⟨gb226, 1, none⟩ = some (.slice none 0 0) := (blk_cell BK226.out 1).trans rfl; have hcz20_2 : w18.cell? ⟨gb226, 2, none⟩ = some (.slice none 0 0) := (blk_cell BK226.out 2).trans rfl; have hfz20_0 := blk_frozen BK226.out 0; have hfz20_1 := blk_frozen BK226.out 1; have hfz20_2 := blk_frozen BK226.out 2; obtain ⟨Ao21, co21, eo21⟩ := Kd.R_slice HO221.out; subst eo21; obtain ⟨Ao22, co22, eo22⟩ := Kd.R_slice HO224.out; subst eo22))
      (try simp only [Act.put, List.setIfInBounds_toArray, List.set_cons_zero, List.set_cons_succ])
      go_cut [37] (fun v37 wc => ∃ (kq : Nat) (x37_7 : Bool), v37 = .bool x37_7 ∧ Aside0 (laws_FnGenTree.j0 kq a0 a1 l2 t213 x37_7 t206 t207 t210 = some r) ∧ Aside0 (kq ≤ k) ∧ Aside0 (Kd.R (Kd.int .i64) 3 wc w.heap.size (fun k_ => some k_ ≠ ((.slice Ao21 t219.length co21) : Value).ownBlock) (.slice Ao12 t207.length co12) t207) ∧ Aside0 (Kd.R k30 30 wc w.heap.size (fun k_ => some k_ ≠ ((.slice Ao22 t222.length co22) : Value).ownBlock) (.slice Ao13 t210.length co13) t210) ∧ Aside0 (Kd.R (Kd.int .i64) 3 wc w.heap.size (fun k_ => some k_ ≠ ((.slice Ao12 t207.length co12) : Value).ownBlock) (.slice Ao21 t219.length co21) t219) ∧ Aside0 (Kd.R k30 30 wc w.heap.size (fun k_ => some k_ ≠ ((.slice Ao13 t210.length co13) : Value).ownBlock) (.slice Ao22 t222.length co22) t222) ∧ Aside0 (wc.heap[gb214]? = some (.cells #[.bool t206, (.slice Ao12 t207.length co12), (.slice Ao13 t210.length co13)] 25 (0, 0))) ∧ Aside0 (wc.heap[gb226]? = some (.cells #[.bool t218, (.slice Ao21 t219.length co21), (.slice Ao22 t222.length co22)] 25 (0, 0))) ∧ Aside0 (Below w.heap.size w wc))
      case first =>
        have H := HC8.out
        clear HC8
        by_cases c23 : t225 = true
        · subst c23
          have H1 : (laws_FnGenTree.j0 k a0 a1 l2 t213 true t206 t207 t210) = some r := by rw [if_pos rfl] at H; exact H
          clear H
          have H := H1
          clear H1
          have H' := Aside0.mk H
          clear H
          go_wp2
          go_meet
          case rel => exact ⟨_, (true), (by first | rfl | (simp; done) | (simp [*]; done)), H', ⟨by first | omega | exact Nat.le_refl _⟩, ⟨by (with_reducible repeat (first | apply Kd.R_alloc | apply Kd.R_drewN | apply Kd.R_drew)); exact Kd.R_mono (Kd.R_far (p := ⟨gb226, 2, none⟩) (Kd.R_far (p := ⟨gb226, 1, none⟩) (Kd.R_far (p := ⟨gb226, 0, none⟩) (Kd.R_types HO209.out BK226.out (by decide)) (fun _ hk => hk.2) (.bool t218)) (fun _ hk => hk.2) (.slice Ao21 t219.length co21)) (fun _ hk => hk.2) (.slice Ao22 t222.length co22)) (fun _ hk => hk.1.2)⟩, ⟨by (with_reducible repeat (first | apply Kd.R_alloc | apply Kd.R_drewN | apply Kd.R_drew)); exact Kd.R_mono (Kd.R_far (p := ⟨gb226, 2, none⟩) (Kd.R_far (p := ⟨gb226, 1, none⟩) (Kd.R_far (p := ⟨gb226, 0, none⟩) (Kd.R_types HO212.out BK226.out (by decide)) (fun _ hk => hk.2) (.bool t218)) (fun _ hk => hk.2) (.slice Ao21 t219.length co21)) (fun _ hk => hk.2) (.slice Ao22 t222.length co22)) (fun _ hk => hk.1.2)⟩, ⟨by (with_reducible repeat (first | apply Kd.R_alloc | apply Kd.R_drewN | apply Kd.R_drew)); exact Kd.R_mono (Kd.R_far (p := ⟨gb226, 2, none⟩) (Kd.R_far (p := ⟨gb226, 1, none⟩) (Kd.R_far (p := ⟨gb226, 0, none⟩) (Kd.R_types HO221.out BK226.out (by decide)) (fun _ hk => hk.2) (.bool t218)) (fun _ hk => hk.2) (.slice Ao21 t219.length co21)) (fun _ hk => hk.2) (.slice Ao22 t222.length co22)) (fun _ hk => hk.1.1.2)⟩, ⟨by (with_reducible repeat (first | apply Kd.R_alloc | apply Kd.R_drewN | apply Kd.R_drew)); exact Kd.R_mono (Kd.R_far (p := ⟨gb226, 2, none⟩) (Kd.R_far (p := ⟨gb226, 1, none⟩) (Kd.R_far (p := ⟨gb226, 0, none⟩) (Kd.R_types HO224.out BK226.out (by decide)) (fun _ hk => hk.2) (.bool t218)) (fun _ hk => hk.2) (.slice Ao21 t219.length co21)) (fun _ hk => hk.2) (.slice Ao22 t222.length co22)) (fun _ hk => hk.1.2)⟩, ⟨by (with_reducible repeat (first | refine blk_drewN ?_ _ | refine blk_drew ?_ | refine blk_alloc ?_ _)); refine blk_far ?_ NB214_226.out _; (with_reducible repeat (first | refine blk_drewN ?_ _ | refine blk_drew ?_ | refine blk_alloc ?_ _)); refine blk_far ?_ NB214_226.out _; (with_reducible repeat (first | refine blk_drewN ?_ _ | refine blk_drew ?_ | refine blk_alloc ?_ _)); refine blk_far ?_ NB214_226.out _; (with_reducible repeat (first | refine blk_drewN ?_ _ | refine blk_drew ?_ | refine blk_alloc ?_ _)); exact BK214.out⟩, ⟨by (with_reducible repeat (first | refine blk_drewN ?_ _ | refine blk_drew ?_ | refine blk_alloc ?_ _)); refine blk_put (cs := #[.bool t218, .slice Ao21 t219.length co21, .slice none 0 0]) ?_ 2 _ rfl; (with_reducible repeat (first | refine blk_drewN ?_ _ | refine blk_drew ?_ | refine blk_alloc ?_ _)); refine blk_put (cs := #[.bool t218, .slice none 0 0, .slice none 0 0]) ?_ 1 _ rfl; (with_reducible repeat (first | refine blk_drewN ?_ _ | refine blk_drew ?_ | refine blk_alloc ?_ _)); refine blk_put (cs := #[.bool false, .slice none 0 0, .slice none 0 0]) ?_ 0 _ rfl; (with_reducible repeat (first | refine blk_drewN ?_ _ | refine blk_drew ?_ | refine blk_alloc ?_ _)); exact BK226.out⟩, ⟨by repeat (first | (with_reducible first | exact HB.out | apply below_alloc | apply pw_below_drewN | apply below_drew1 | refine below_set ?_ GE214.out | refine below_set ?_ GE226.out) | exact HB.out)⟩⟩
        · replace c23 := Bool.eq_false_iff.mpr c23
          subst c23
          have H1 : (laws_FnGenTree.j0 k a0 a1 l2 t213 ((t222.length : Int) != 1) t206 t207 t210) = some r := by rw [if_neg (show ¬ (false = true) by decide)] at H; exact H
          clear H
          have H := H1
          clear H1
          have H' := Aside0.mk H
          clear H
          have hnb24 := NB226_214.out
          have hnc24 := NB214_226.out
          have hcz25_0 : w18.cell? ⟨gb226, 0, none⟩ = some (.bool false) := (blk_cell BK226.out 0).trans rfl
          have hcz25_1 : w18.cell? ⟨gb226, 1, none⟩ = some (.slice none 0 0) := (blk_cell BK226.out 1).trans rfl
          have hcz25_2 : w18.cell? ⟨gb226, 2, none⟩ = some (.slice none 0 0) := (blk_cell BK226.out 2).trans rfl
          have hfz25_0 := blk_frozen BK226.out 0
          have hfz25_1 := blk_frozen BK226.out 1
          have hfz25_2 := blk_frozen BK226.out 2
          go_wp2
          go_meet
          case rel => exact ⟨_, (((t222.length : Int) != 1)), (by first | rfl | (simp; done) | (simp [*]; done)), H', ⟨by first | omega | exact Nat.le_refl _⟩, ⟨by (with_reducible repeat (first | apply Kd.R_alloc | apply Kd.R_drewN | apply Kd.R_drew)); exact Kd.R_mono (Kd.R_far (p := ⟨gb226, 2, none⟩) (Kd.R_far (p := ⟨gb226, 1, none⟩) (Kd.R_far (p := ⟨gb226, 0, none⟩) (Kd.R_types HO209.out BK226.out (by decide)) (fun _ hk => hk.2) (.bool t218)) (fun _ hk => hk.2) (.slice Ao21 t219.length co21)) (fun _ hk => hk.2) (.slice Ao22 t222.length co22)) (fun _ hk => hk.1.2)⟩, ⟨by (with_reducible repeat (first | apply Kd.R_alloc | apply Kd.R_drewN | apply Kd.R_drew)); exact Kd.R_mono (Kd.R_far (p := ⟨gb226, 2, none⟩) (Kd.R_far (p := ⟨gb226, 1, none⟩) (Kd.R_far (p := ⟨gb226, 0, none⟩) (Kd.R_types HO212.out BK226.out (by decide)) (fun _ hk => hk.2) (.bool t218)) (fun _ hk => hk.2) (.slice Ao21 t219.length co21)) (fun _ hk => hk.2) (.slice Ao22 t222.length co22)) (fun _ hk => hk.1.2)⟩, ⟨by (with_reducible repeat (first | apply Kd.R_alloc | apply Kd.R_drewN | apply Kd.R_drew)); exact Kd.R_mono (Kd.R_far (p := ⟨gb226, 2, none⟩) (Kd.R_far (p := ⟨gb226, 1, none⟩) (Kd.R_far (p := ⟨gb226, 0, none⟩) (Kd.R_types HO221.out BK226.out (by decide)) (fun _ hk => hk.2) (.bool t218)) (fun _ hk => hk.2) (.slice Ao21 t219.length co21)) (fun _ hk => hk.2) (.slice Ao22 t222.length co22)) (fun _ hk => hk.1.1.2)⟩, ⟨by (with_reducible repeat (first | apply Kd.R_alloc | apply Kd.R_drewN | apply Kd.R_drew)); exact Kd.R_mono (Kd.R_far (p := ⟨gb226, 2, none⟩) (Kd.R_far (p := ⟨gb226, 1, none⟩) (Kd.R_far (p := ⟨gb226, 0, none⟩) (Kd.R_types HO224.out BK226.out (by decide)) (fun _ hk => hk.2) (.bool t218)) (fun _ hk => hk.2) (.slice Ao21 t219.length co21)) (fun _ hk => hk.2) (.slice Ao22 t222.length co22)) (fun _ hk => hk.1.2)⟩, ⟨by (with_reducible repeat (first | refine blk_drewN ?_ _ | refine blk_drew ?_ | refine blk_alloc ?_ _)); refine blk_far ?_ NB214_226.out _; (with_reducible repeat (first | refine blk_drewN ?_ _ | refine blk_drew ?_ | refine blk_alloc ?_ _)); refine blk_far ?_ NB214_226.out _; (with_reducible repeat (first | refine blk_drewN ?_ _ | refine blk_drew ?_ | refine blk_alloc ?_ _)); refine blk_far ?_ NB214_226.out _; (with_reducible repeat (first | refine blk_drewN ?_ _ | refine blk_drew ?_ | refine blk_alloc ?_ _)); exact BK214.out⟩, ⟨by (with_reducible repeat (first | refine blk_drewN ?_ _ | refine blk_drew ?_ | refine blk_alloc ?_ _)); refine blk_put (cs := #[.bool t218, .slice Ao21 t219.length co21, .slice none 0 0]) ?_ 2 _ rfl; (with_reducible repeat (first | refine blk_drewN ?_ _ | refine blk_drew ?_ | refine blk_alloc ?_ _)); refine blk_put (cs := #[.bool t218, .slice none 0 0, .slice none 0 0]) ?_ 1 _ rfl; (with_reducible repeat (first | refine blk_drewN ?_ _ | refine blk_drew ?_ | refine blk_alloc ?_ _)); refine blk_put (cs := #[.bool false, .slice none 0 0, .slice none 0 0]) ?_ 0 _ rfl; (with_reducible repeat (first | refine blk_drewN ?_ _ | refine blk_drew ?_ | refine blk_alloc ?_ _)); exact BK226.out⟩, ⟨by repeat (first | (with_reducible first | exact HB.out | apply below_alloc | apply pw_below_drewN | apply below_drew1 | refine below_set ?_ GE214.out | refine below_set ?_ GE226.out) | exact HB.out)⟩⟩
      case rest =>
        clear HC8
        try clear c1
        try clear c2
        try clear p2
        try clear c3
        try clear c4
        try clear c4b0
        try clear c4b1
        try clear c5
        try clear c5b0
        try clear c5b1
        try clear c19
        try clear c23
        try clear c24
        try clear hcz11_0
        try clear hcz11_1
        try clear hcz11_2
        try clear hcz20_0
        try clear hcz20_1
        try clear hcz20_2
        try clear hcz25_0
        try clear hcz25_1
        try clear hcz25_2
        try clear hfz11_0
        try clear hfz11_1
        try clear hfz11_2
        try clear hfz20_0
        try clear hfz20_1
        try clear hfz20_2
        try clear hfz25_0
        try clear hfz25_1
        try clear hfz25_2
        obtain ⟨kq, x37_7, rfl, HA, HJ7, HO_215001, HO_215002, HO_227001, HO_227002, BK214, BK226, HB⟩ := hcut
        cases kq with
        | zero => exact absurd HA.out (by simp [laws_FnGenTree.j0])
        | succ kj7 =>
          have H := HA.out
          clear HA
          simp only [laws_FnGenTree.j0] at H
          by_cases c26 : x37_7 = true
          · subst c26
            have H1 : (some false) = some r := by rw [if_pos rfl] at H; exact H
            clear H
            have H := H1
            clear H1
            obtain rfl := Option.some.inj H
            go_wp2
            go_ret
            exact ⟨by first | rfl | (simp [errW_none, errW_some] <;> rfl) | (simp [*, errW_none, errW_some] <;> rfl), by repeat (first | (with_reducible first | exact HB.out | apply below_alloc | apply pw_below_drewN | apply below_drew1 | refine below_set ?_ GE214.out | refine below_set ?_ GE226.out) | exact HB.out)⟩
          · replace c26 := Bool.eq_false_iff.mpr c26
            subst c26
            have H1 : ((laws_apart.f kj7 l2).bind fun t227 => (if t227 = true then (if (l2.length : Int) > 1 then (if a1 < 1 then (laws_FnGenTree.j1 kj7 a0 a1 l2 t213 true t206 t207 t210) else (laws_FnGenTree.j1 kj7 a0 a1 l2 t213 (decide (a1 ≥ (l2.length : Int))) t206 t207 t210)) else (laws_FnGenTree.j1 kj7 a0 a1 l2 t213 false t206 t207 t210)) else (laws_FnGenTree.j1 kj7 a0 a1 l2 t213 true t206 t207 t210))) = some r := by rw [if_neg (show ¬ (false = true) by decide)] at H; exact H
            clear H
            have H := H1
            clear H1
            have HC27 := Aside0.mk H
            clear H
            go_upto_region 9 with (fail)
            go_cut [55] (fun v55 wc => ∃ (kq : Nat) (x55_26 : Bool), v55 = .bool x55_26 ∧ Aside0 (laws_FnGenTree.j1 kq a0 a1 l2 t213 x55_26 t206 t207 t210 = some r) ∧ Aside0 (kq ≤ kj7) ∧ Aside0 (Kd.R (Kd.int .i64) 3 wc w.heap.size (fun k_ => some k_ ≠ ((.slice Ao21 t219.length co21) : Value).ownBlock) (.slice Ao12 t207.length co12) t207) ∧ Aside0 (Kd.R k30 30 wc w.heap.size (fun k_ => some k_ ≠ ((.slice Ao22 t222.length co22) : Value).ownBlock) (.slice Ao13 t210.length co13) t210) ∧ Aside0 (Kd.R (Kd.int .i64) 3 wc w.heap.size (fun k_ => some k_ ≠ ((.slice Ao12 t207.length co12) : Value).ownBlock) (.slice Ao21 t219.length co21) t219) ∧ Aside0 (Kd.R k30 30 wc w.heap.size (fun k_ => some k_ ≠ ((.slice Ao13 t210.length co13) : Value).ownBlock) (.slice Ao22 t222.length co22) t222) ∧ Aside0 (wc.heap[gb214]? = some (.cells #[.bool t206, (.slice Ao12 t207.length co12), (.slice Ao13 t210.length co13)] 25 (0, 0))) ∧ Aside0 (wc.heap[gb226]? = some (.cells #[.bool t218, (.slice Ao21 t219.length co21), (.slice Ao22 t222.length co22)] 25 (0, 0))) ∧ Aside0 (Below w.heap.size w wc))
            case first =>
              have H := HC27.out
              clear HC27
              replace H := Option.bind_eq_some_iff.mp H
              obtain ⟨t227, A280, H⟩ := H
              replace H : (if t227 = true then (if (l2.length : Int) > 1 then (if a1 < 1 then (laws_FnGenTree.j1 kj7 a0 a1 l2 t213 true t206 t207 t210) else (laws_FnGenTree.j1 kj7 a0 a1 l2 t213 (decide (a1 ≥ (l2.length : Int))) t206 t207 t210)) else (laws_FnGenTree.j1 kj7 a0 a1 l2 t213 false t206 t207 t210)) else (laws_FnGenTree.j1 kj7 a0 a1 l2 t213 true t206 t207 t210)) = some r := H
              have A28 := Aside0.mk A280
              clear A280
              by_cases c29 : t227 = true
              · subst c29
                have H1 : (if (l2.length : Int) > 1 then (if a1 < 1 then (laws_FnGenTree.j1 kj7 a0 a1 l2 t213 true t206 t207 t210) else (laws_FnGenTree.j1 kj7 a0 a1 l2 t213 (decide (a1 ≥ (l2.length : Int))) t206 t207 t210)) else (laws_FnGenTree.j1 kj7 a0 a1 l2 t213 false t206 t207 t210)) = some r := by rw [if_pos rfl] at H; exact H
                clear H
                have H := H1
                clear H1
                by_cases c30 : (l2.length : Int) > 1
                · rw [if_pos c30] at H
                  have c30b0 : decide (1 < (l2.length : Int)) = true := decide_eq_true c30
                  have c30b1 : decide (1 < l2.length) = true := decide_eq_true (by omega)
                  clear c30
                  (first | rw [c30b0] | (simp only [i64_w, i32_w]; rw [c30b0]) | skip)
                  by_cases c31 : a1 < 1
                  · rw [if_pos c31] at H
                    have c31b0 : decide (a1 < 1) = true := decide_eq_true c31
                    clear c31
                    have H' := Aside0.mk H
                    clear H
                    go_wp2_with (first | ((with_reducible refine gate_callee (f := 5) rfl ?_); refine goesL_ (some 39) rfl rfl Try.func5 (by kernel_rfl) rfl #[.slice A2 l2.length c2] rfl (by (try simp only [List.map_toArray, List.map_cons, List.map_nil]); first | done | rfl | (simp only [List.length_drop, List.length_take]; rfl)) ?_; (with_reducible refine (laws_apart.calls kj7 _ _ l2 true _ ?side1 ?side2 A28.out).mono ?_); (case side1 => repeat (first | exact (Kd.C_below HR2.out HB.out) | (with_reducible refine Kd.C_alloc ?_ _) | (with_reducible refine Kd.C_drewN ?_ _) | (with_reducible refine Kd.C_drew ?_))); (case side2 => exact HC2.out); rintro e w32 ⟨rfl, hb⟩; refine ⟨_, rfl, ?_⟩; have n0_ := Aside0.mk (Kd.R_below (by (with_reducible repeat (first | apply Kd.R_alloc | apply Kd.R_drewN | apply Kd.R_drew)); exact HO_215001.out) hb); have n1_ := Aside0.mk (Kd.R_below (by (with_reducible repeat (first | apply Kd.R_alloc | apply Kd.R_drewN | apply Kd.R_drew)); exact HO_215002.out) hb); have n2_ := Aside0.mk (Kd.R_below (by (with_reducible repeat (first | apply Kd.R_alloc | apply Kd.R_drewN | apply Kd.R_drew)); exact HO_227001.out) hb); have n3_ := Aside0.mk (Kd.R_below (by (with_reducible repeat (first | apply Kd.R_alloc | apply Kd.R_drewN | apply Kd.R_drew)); exact HO_227002.out) hb); have n4_ := Aside0.mk (blk_below (g := gb214) (o := .cells #[.bool t206, .slice Ao12 t207.length co12, .slice Ao13 t210.length co13] 25 (0, 0)) (by (with_reducible repeat (first | refine blk_drewN ?_ _ | refine blk_drew ?_ | refine blk_alloc ?_ _)); exact BK214.out) hb); have n5_ := Aside0.mk (blk_below (g := gb226) (o := .cells #[.bool t218, .slice Ao21 t219.length co21, .slice Ao22 t222.length co22] 25 (0, 0)) (by (with_reducible repeat (first | refine blk_drewN ?_ _ | refine blk_drew ?_ | refine blk_alloc ?_ _)); exact BK226.out) hb); have n6_ := Aside0.mk (below_step (by repeat (first | (with_reducible first | exact HB.out | apply below_alloc | apply pw_below_drewN | apply below_drew1 | refine below_set ?_ GE214.out | refine below_set ?_ GE226.out) | exact HB.out)) hb); clear HO_215001; clear HO_215002; clear HO_227001; clear HO_227002; clear BK214; clear BK226; clear HB; have HO_215001 := n0_; have HO_215002 := n1_; have HO_227001 := n2_; have HO_227002 := n3_; have BK214 := n4_; have BK226 := n5_; have HB := n6_; clear n0_ n1_ n2_ n3_ n4_ n5_ n6_; (try clear hb); (try clear hb2); (try clear hk); (try clear hi)))
                    go_meet
                    case rel => exact ⟨_, (true), (by first | rfl | (simp; done) | (simp [*]; done)), H', ⟨by have := HJ7.out; first | omega | exact Nat.le_refl _⟩, ⟨by (with_reducible repeat (first | apply Kd.R_alloc | apply Kd.R_drewN | apply Kd.R_drew)); exact HO_215001.out⟩, ⟨by (with_reducible repeat (first | apply Kd.R_alloc | apply Kd.R_drewN | apply Kd.R_drew)); exact HO_215002.out⟩, ⟨by (with_reducible repeat (first | apply Kd.R_alloc | apply Kd.R_drewN | apply Kd.R_drew)); exact HO_227001.out⟩, ⟨by (with_reducible repeat (first | apply Kd.R_alloc | apply Kd.R_drewN | apply Kd.R_drew)); exact HO_227002.out⟩, ⟨by (with_reducible repeat (first | refine blk_drewN ?_ _ | refine blk_drew ?_ | refine blk_alloc ?_ _)); exact BK214.out⟩, ⟨by (with_reducible repeat (first | refine blk_drewN ?_ _ | refine blk_drew ?_ | refine blk_alloc ?_ _)); exact BK226.out⟩, ⟨by repeat (first | (with_reducible first | exact HB.out | apply below_alloc | apply pw_below_drewN | apply below_drew1 | refine below_set ?_ GE214.out | refine below_set ?_ GE226.out) | exact HB.out)⟩⟩
                  · rw [if_neg c31] at H
                    have c31b0 : decide (a1 < 1) = false := decide_eq_false c31
                    clear c31
                    have H' := Aside0.mk H
                    clear H
                    go_wp2_with (first | ((with_reducible refine gate_callee (f := 5) rfl ?_); refine goesL_ (some 39) rfl rfl Try.func5 (by kernel_rfl) rfl #[.slice A2 l2.length c2] rfl (by (try simp only [List.map_toArray, List.map_cons, List.map_nil]); first | done | rfl | (simp only [List.length_drop, List.length_take]; rfl)) ?_; (with_reducible refine (laws_apart.calls kj7 _ _ l2 true _ ?side1 ?side2 A28.out).mono ?_); (case side1 => repeat (first | exact (Kd.C_below HR2.out HB.out) | (with_reducible refine Kd.C_alloc ?_ _) | (with_reducible refine Kd.C_drewN ?_ _) | (with_reducible refine Kd.C_drew ?_))); (case side2 => exact HC2.out); rintro e w33 ⟨rfl, hb⟩; refine ⟨_, rfl, ?_⟩; have n0_ := Aside0.mk (Kd.R_below (by (with_reducible repeat (first | apply Kd.R_alloc | apply Kd.R_drewN | apply Kd.R_drew)); exact HO_215001.out) hb); have n1_ := Aside0.mk (Kd.R_below (by (with_reducible repeat (first | apply Kd.R_alloc | apply Kd.R_drewN | apply Kd.R_drew)); exact HO_215002.out) hb); have n2_ := Aside0.mk (Kd.R_below (by (with_reducible repeat (first | apply Kd.R_alloc | apply Kd.R_drewN | apply Kd.R_drew)); exact HO_227001.out) hb); have n3_ := Aside0.mk (Kd.R_below (by (with_reducible repeat (first | apply Kd.R_alloc | apply Kd.R_drewN | apply Kd.R_drew)); exact HO_227002.out) hb); have n4_ := Aside0.mk (blk_below (g := gb214) (o := .cells #[.bool t206, .slice Ao12 t207.length co12, .slice Ao13 t210.length co13] 25 (0, 0)) (by (with_reducible repeat (first | refine blk_drewN ?_ _ | refine blk_drew ?_ | refine blk_alloc ?_ _)); exact BK214.out) hb); have n5_ := Aside0.mk (blk_below (g := gb226) (o := .cells #[.bool t218, .slice Ao21 t219.length co21, .slice Ao22 t222.length co22] 25 (0, 0)) (by (with_reducible repeat (first | refine blk_drewN ?_ _ | refine blk_drew ?_ | refine blk_alloc ?_ _)); exact BK226.out) hb); have n6_ := Aside0.mk (below_step (by repeat (first | (with_reducible first | exact HB.out | apply below_alloc | apply pw_below_drewN | apply below_drew1 | refine below_set ?_ GE214.out | refine below_set ?_ GE226.out) | exact HB.out)) hb); clear HO_215001; clear HO_215002; clear HO_227001; clear HO_227002; clear BK214; clear BK226; clear HB; have HO_215001 := n0_; have HO_215002 := n1_; have HO_227001 := n2_; have HO_227002 := n3_; have BK214 := n4_; have BK226 := n5_; have HB := n6_; clear n0_ n1_ n2_ n3_ n4_ n5_ n6_; (try clear hb); (try clear hb2); (try clear hk); (try clear hi)))
                    go_meet
                    case rel => exact ⟨_, (decide (a1 ≥ (l2.length : Int))), (by first | rfl | (simp; done) | (simp [*]; done)), H', ⟨by have := HJ7.out; first | omega | exact Nat.le_refl _⟩, ⟨by (with_reducible repeat (first | apply Kd.R_alloc | apply Kd.R_drewN | apply Kd.R_drew)); exact HO_215001.out⟩, ⟨by (with_reducible repeat (first | apply Kd.R_alloc | apply Kd.R_drewN | apply Kd.R_drew)); exact HO_215002.out⟩, ⟨by (with_reducible repeat (first | apply Kd.R_alloc | apply Kd.R_drewN | apply Kd.R_drew)); exact HO_227001.out⟩, ⟨by (with_reducible repeat (first | apply Kd.R_alloc | apply Kd.R_drewN | apply Kd.R_drew)); exact HO_227002.out⟩, ⟨by (with_reducible repeat (first | refine blk_drewN ?_ _ | refine blk_drew ?_ | refine blk_alloc ?_ _)); exact BK214.out⟩, ⟨by (with_reducible repeat (first | refine blk_drewN ?_ _ | refine blk_drew ?_ | refine blk_alloc ?_ _)); exact BK226.out⟩, ⟨by repeat (first | (with_reducible first | exact HB.out | apply below_alloc | apply pw_below_drewN | apply below_drew1 | refine below_set ?_ GE214.out | refine below_set ?_ GE226.out) | exact HB.out)⟩⟩
                · rw [if_neg c30] at H
                  have c30b0 : decide (1 < (l2.length : Int)) = false := decide_eq_false c30
                  have c30b1 : decide (1 < l2.length) = false := decide_eq_false (by omega)
                  clear c30
                  (first | rw [c30b0] | (simp only [i64_w, i32_w]; rw [c30b0]) | skip)
                  have H' := Aside0.mk H
                  clear H
                  go_wp2_with (first | ((with_reducible refine gate_callee (f := 5) rfl ?_); refine goesL_ (some 39) rfl rfl Try.func5 (by kernel_rfl) rfl #[.slice A2 l2.length c2] rfl (by (try simp only [List.map_toArray, List.map_cons, List.map_nil]); first | done | rfl | (simp only [List.length_drop, List.length_take]; rfl)) ?_; (with_reducible refine (laws_apart.calls kj7 _ _ l2 true _ ?side1 ?side2 A28.out).mono ?_); (case side1 => repeat (first | exact (Kd.C_below HR2.out HB.out) | (with_reducible refine Kd.C_alloc ?_ _) | (with_reducible refine Kd.C_drewN ?_ _) | (with_reducible refine Kd.C_drew ?_))); (case side2 => exact HC2.out); rintro e w34 ⟨rfl, hb⟩; refine ⟨_, rfl, ?_⟩; have n0_ := Aside0.mk (Kd.R_below (by (with_reducible repeat (first | apply Kd.R_alloc | apply Kd.R_drewN | apply Kd.R_drew)); exact HO_215001.out) hb); have n1_ := Aside0.mk (Kd.R_below (by (with_reducible repeat (first | apply Kd.R_alloc | apply Kd.R_drewN | apply Kd.R_drew)); exact HO_215002.out) hb); have n2_ := Aside0.mk (Kd.R_below (by (with_reducible repeat (first | apply Kd.R_alloc | apply Kd.R_drewN | apply Kd.R_drew)); exact HO_227001.out) hb); have n3_ := Aside0.mk (Kd.R_below (by (with_reducible repeat (first | apply Kd.R_alloc | apply Kd.R_drewN | apply Kd.R_drew)); exact HO_227002.out) hb); have n4_ := Aside0.mk (blk_below (g := gb214) (o := .cells #[.bool t206, .slice Ao12 t207.length co12, .slice Ao13 t210.length co13] 25 (0, 0)) (by (with_reducible repeat (first | refine blk_drewN ?_ _ | refine blk_drew ?_ | refine blk_alloc ?_ _)); exact BK214.out) hb); have n5_ := Aside0.mk (blk_below (g := gb226) (o := .cells #[.bool t218, .slice Ao21 t219.length co21, .slice Ao22 t222.length co22] 25 (0, 0)) (by (with_reducible repeat (first | refine blk_drewN ?_ _ | refine blk_drew ?_ | refine blk_alloc ?_ _)); exact BK226.out) hb); have n6_ := Aside0.mk (below_step (by repeat (first | (with_reducible first | exact HB.out | apply below_alloc | apply pw_below_drewN | apply below_drew1 | refine below_set ?_ GE214.out | refine below_set ?_ GE226.out) | exact HB.out)) hb); clear HO_215001; clear HO_215002; clear HO_227001; clear HO_227002; clear BK214; clear BK226; clear HB; have HO_215001 := n0_; have HO_215002 := n1_; have HO_227001 := n2_; have HO_227002 := n3_; have BK214 := n4_; have BK226 := n5_; have HB := n6_; clear n0_ n1_ n2_ n3_ n4_ n5_ n6_; (try clear hb); (try clear hb2); (try clear hk); (try clear hi)))
                  go_meet
                  case rel => exact ⟨_, (false), (by first | rfl | (simp; done) | (simp [*]; done)), H', ⟨by have := HJ7.out; first | omega | exact Nat.le_refl _⟩, ⟨by (with_reducible repeat (first | apply Kd.R_alloc | apply Kd.R_drewN | apply Kd.R_drew)); exact HO_215001.out⟩, ⟨by (with_reducible repeat (first | apply Kd.R_alloc | apply Kd.R_drewN | apply Kd.R_drew)); exact HO_215002.out⟩, ⟨by (with_reducible repeat (first | apply Kd.R_alloc | apply Kd.R_drewN | apply Kd.R_drew)); exact HO_227001.out⟩, ⟨by (with_reducible repeat (first | apply Kd.R_alloc | apply Kd.R_drewN | apply Kd.R_drew)); exact HO_227002.out⟩, ⟨by (with_reducible repeat (first | refine blk_drewN ?_ _ | refine blk_drew ?_ | refine blk_alloc ?_ _)); exact BK214.out⟩, ⟨by (with_reducible repeat (first | refine blk_drewN ?_ _ | refine blk_drew ?_ | refine blk_alloc ?_ _)); exact BK226.out⟩, ⟨by repeat (first | (with_reducible first | exact HB.out | apply below_alloc | apply pw_below_drewN | apply below_drew1 | refine below_set ?_ GE214.out | refine below_set ?_ GE226.out) | exact HB.out)⟩⟩
              · replace c29 := Bool.eq_false_iff.mpr c29
                subst c29
                have H1 : (laws_FnGenTree.j1 kj7 a0 a1 l2 t213 true t206 t207 t210) = some r := by rw [if_neg (show ¬ (false = true) by decide)] at H; exact H
                clear H
                have H := H1
                clear H1
                have H' := Aside0.mk H
                clear H
                go_wp2_with (first | ((with_reducible refine gate_callee (f := 5) rfl ?_); refine goesL_ (some 39) rfl rfl Try.func5 (by kernel_rfl) rfl #[.slice A2 l2.length c2] rfl (by (try simp only [List.map_toArray, List.map_cons, List.map_nil]); first | done | rfl | (simp only [List.length_drop, List.length_take]; rfl)) ?_; (with_reducible refine (laws_apart.calls kj7 _ _ l2 false _ ?side1 ?side2 A28.out).mono ?_); (case side1 => repeat (first | exact (Kd.C_below HR2.out HB.out) | (with_reducible refine Kd.C_alloc ?_ _) | (with_reducible refine Kd.C_drewN ?_ _) | (with_reducible refine Kd.C_drew ?_))); (case side2 => exact HC2.out); rintro e w35 ⟨rfl, hb⟩; refine ⟨_, rfl, ?_⟩; have n0_ := Aside0.mk (Kd.R_below (by (with_reducible repeat (first | apply Kd.R_alloc | apply Kd.R_drewN | apply Kd.R_drew)); exact HO_215001.out) hb); have n1_ := Aside0.mk (Kd.R_below (by (with_reducible repeat (first | apply Kd.R_alloc | apply Kd.R_drewN | apply Kd.R_drew)); exact HO_215002.out) hb); have n2_ := Aside0.mk (Kd.R_below (by (with_reducible repeat (first | apply Kd.R_alloc | apply Kd.R_drewN | apply Kd.R_drew)); exact HO_227001.out) hb); have n3_ := Aside0.mk (Kd.R_below (by (with_reducible repeat (first | apply Kd.R_alloc | apply Kd.R_drewN | apply Kd.R_drew)); exact HO_227002.out) hb); have n4_ := Aside0.mk (blk_below (g := gb214) (o := .cells #[.bool t206, .slice Ao12 t207.length co12, .slice Ao13 t210.length co13] 25 (0, 0)) (by (with_reducible repeat (first | refine blk_drewN ?_ _ | refine blk_drew ?_ | refine blk_alloc ?_ _)); exact BK214.out) hb); have n5_ := Aside0.mk (blk_below (g := gb226) (o := .cells #[.bool t218, .slice Ao21 t219.length co21, .slice Ao22 t222.length co22] 25 (0, 0)) (by (with_reducible repeat (first | refine blk_drewN ?_ _ | refine blk_drew ?_ | refine blk_alloc ?_ _)); exact BK226.out) hb); have n6_ := Aside0.mk (below_step (by repeat (first | (with_reducible first | exact HB.out | apply below_alloc | apply pw_below_drewN | apply below_drew1 | refine below_set ?_ GE214.out | refine below_set ?_ GE226.out) | exact HB.out)) hb); clear HO_215001; clear HO_215002; clear HO_227001; clear HO_227002; clear BK214; clear BK226; clear HB; have HO_215001 := n0_; have HO_215002 := n1_; have HO_227001 := n2_; have HO_227002 := n3_; have BK214 := n4_; have BK226 := n5_; have HB := n6_; clear n0_ n1_ n2_ n3_ n4_ n5_ n6_; (try clear hb); (try clear hb2); (try clear hk); (try clear hi)))
                go_meet
                case rel => exact ⟨_, (true), (by first | rfl | (simp; done) | (simp [*]; done)), H', ⟨by have := HJ7.out; first | omega | exact Nat.le_refl _⟩, ⟨by (with_reducible repeat (first | apply Kd.R_alloc | apply Kd.R_drewN | apply Kd.R_drew)); exact HO_215001.out⟩, ⟨by (with_reducible repeat (first | apply Kd.R_alloc | apply Kd.R_drewN | apply Kd.R_drew)); exact HO_215002.out⟩, ⟨by (with_reducible repeat (first | apply Kd.R_alloc | apply Kd.R_drewN | apply Kd.R_drew)); exact HO_227001.out⟩, ⟨by (with_reducible repeat (first | apply Kd.R_alloc | apply Kd.R_drewN | apply Kd.R_drew)); exact HO_227002.out⟩, ⟨by (with_reducible repeat (first | refine blk_drewN ?_ _ | refine blk_drew ?_ | refine blk_alloc ?_ _)); exact BK214.out⟩, ⟨by (with_reducible repeat (first | refine blk_drewN ?_ _ | refine blk_drew ?_ | refine blk_alloc ?_ _)); exact BK226.out⟩, ⟨by repeat (first | (with_reducible first | exact HB.out | apply below_alloc | apply pw_below_drewN | apply below_drew1 | refine below_set ?_ GE214.out | refine below_set ?_ GE226.out) | exact HB.out)⟩⟩
            case rest =>
              clear HC27
              try clear c1
              try clear c2
              try clear p2
              try clear c3
              try clear c4
              try clear c4b0
              try clear c4b1
              try clear c5
              try clear c5b0
              try clear c5b1
              try clear c19
              try clear c23
              try clear c24
              try clear c26
              try clear c29
              try clear c30
              try clear c30b0
              try clear c30b1
              try clear c31
              try clear c31b0
              try clear hcz11_0
              try clear hcz11_1
              try clear hcz11_2
              try clear hcz20_0
              try clear hcz20_1
              try clear hcz20_2
              try clear hcz25_0
              try clear hcz25_1
              try clear hcz25_2
              try clear hfz11_0
              try clear hfz11_1
              try clear hfz11_2
              try clear hfz20_0
              try clear hfz20_1
              try clear hfz20_2
              try clear hfz25_0
              try clear hfz25_1
              try clear hfz25_2
              try clear p2
              obtain ⟨kq, x55_26, rfl, HA, HJ26, HO_215001, HO_215002, HO_227001, HO_227002, BK214, BK226, HB⟩ := hcut
              cases kq with
              | zero => exact absurd HA.out (by simp [laws_FnGenTree.j1])
              | succ kj26 =>
                have H := HA.out
                clear HA
                simp only [laws_FnGenTree.j1] at H
                by_cases c36 : x55_26 = true
                · subst c36
                  have H1 : (some t213) = some r := by rw [if_pos rfl] at H; exact H
                  clear H
                  have H := H1
                  clear H1
                  obtain rfl := Option.some.inj H
                  go_wp2
                  go_ret
                  exact ⟨by first | rfl | (simp [errW_none, errW_some] <;> rfl) | (simp [*, errW_none, errW_some] <;> rfl), by repeat (first | (with_reducible first | exact HB.out | apply below_alloc | apply pw_below_drewN | apply below_drew1 | refine below_set ?_ GE214.out | refine below_set ?_ GE226.out) | exact HB.out)⟩
                · replace c36 := Bool.eq_false_iff.mpr c36
                  subst c36
                  have H1 : (laws_FnGenTree.l0 kj26 a1 l2 t213 1 t206 t207 t210 a0 l2 ([] : List (S30))) = some r := by rw [if_neg (show ¬ (false = true) by decide)] at H; exact H
                  clear H
                  have H := H1
                  clear H1
                  have H' := Aside0.mk H
                  clear H
                  go_wp2_with (first | ((with_reducible refine gate_dst (N := 11) rfl ?_); (try (refine gate_guard (by rfl) ?_; dsimp only)); refine box_event ?hg (N := 11) ?hd (cs := #[.bool false, .slice none 0 0, .slice none 0 0]) (t := 25) ?hr ?_; (case hd => rfl); (case hg => rfl); (case hr => first | (go_simp; done) | (go_simp; rfl)); intro gb228 hg w37 hbox hb; have n0_ := Aside0.mk (Kd.R_below (by (with_reducible repeat (first | apply Kd.R_alloc | apply Kd.R_drewN | apply Kd.R_drew)); exact HO_215001.out) hb); have n1_ := Aside0.mk (Kd.R_below (by (with_reducible repeat (first | apply Kd.R_alloc | apply Kd.R_drewN | apply Kd.R_drew)); exact HO_215002.out) hb); have n2_ := Aside0.mk (Kd.R_below (by (with_reducible repeat (first | apply Kd.R_alloc | apply Kd.R_drewN | apply Kd.R_drew)); exact HO_227001.out) hb); have n3_ := Aside0.mk (Kd.R_below (by (with_reducible repeat (first | apply Kd.R_alloc | apply Kd.R_drewN | apply Kd.R_drew)); exact HO_227002.out) hb); have n4_ := Aside0.mk (blk_below (g := gb214) (o := .cells #[.bool t206, .slice Ao12 t207.length co12, .slice Ao13 t210.length co13] 25 (0, 0)) (by (with_reducible repeat (first | refine blk_drewN ?_ _ | refine blk_drew ?_ | refine blk_alloc ?_ _)); exact BK214.out) hb); have n5_ := Aside0.mk (blk_below (g := gb226) (o := .cells #[.bool t218, .slice Ao21 t219.length co21, .slice Ao22 t222.length co22] 25 (0, 0)) (by (with_reducible repeat (first | refine blk_drewN ?_ _ | refine blk_drew ?_ | refine blk_alloc ?_ _)); exact BK226.out) hb); have n6_ := Aside0.mk (below_step (by repeat (first | (with_reducible first | exact HB.out | apply below_alloc | apply pw_below_drewN | apply below_drew1 | refine below_set ?_ GE214.out | refine below_set ?_ GE226.out) | exact HB.out)) hb); have n7_ := Aside0.mk (hbox); have n8_ := Aside0.mk ((by rw [hg]; exact (below_size (by repeat (first | (with_reducible first | exact HB.out | apply below_alloc | apply pw_below_drewN | apply below_drew1 | refine below_set ?_ GE214.out | refine below_set ?_ GE226.out) | exact HB.out))) : w.heap.size ≤ gb228)); have n9_ := Aside0.mk ((by rw [hg]; exact (below_size (by repeat (first | (with_reducible first | exact HB.out | apply below_alloc | apply pw_below_drewN | apply below_drew1 | refine below_set ?_ GE214.out | refine below_set ?_ GE226.out) | exact HB.out))) : w.heap.size ≤ gb228)); have n10_ := Aside0.mk ((by rw [hg]; exact Nat.ne_of_lt (blk_lt (g := gb214) (o := .cells #[.bool t206, .slice Ao12 t207.length co12, .slice Ao13 t210.length co13] 25 (0, 0)) (by (with_reducible repeat (first | refine blk_drewN ?_ _ | refine blk_drew ?_ | refine blk_alloc ?_ _)); exact BK214.out)) : gb214 ≠ gb228)); have n11_ := Aside0.mk ((by rw [hg]; exact Nat.ne_of_gt (blk_lt (g := gb214) (o := .cells #[.bool t206, .slice Ao12 t207.length co12, .slice Ao13 t210.length co13] 25 (0, 0)) (by (with_reducible repeat (first | refine blk_drewN ?_ _ | refine blk_drew ?_ | refine blk_alloc ?_ _)); exact BK214.out)) : gb228 ≠ gb214)); have n12_ := Aside0.mk ((by rw [hg]; exact Nat.ne_of_lt (blk_lt (g := gb226) (o := .cells #[.bool t218, .slice Ao21 t219.length co21, .slice Ao22 t222.length co22] 25 (0, 0)) (by (with_reducible repeat (first | refine blk_drewN ?_ _ | refine blk_drew ?_ | refine blk_alloc ?_ _)); exact BK226.out)) : gb226 ≠ gb228)); have n13_ := Aside0.mk ((by rw [hg]; exact Nat.ne_of_gt (blk_lt (g := gb226) (o := .cells #[.bool t218, .slice Ao21 t219.length co21, .slice Ao22 t222.length co22] 25 (0, 0)) (by (with_reducible repeat (first | refine blk_drewN ?_ _ | refine blk_drew ?_ | refine blk_alloc ?_ _)); exact BK226.out)) : gb228 ≠ gb226)); clear HO_215001; clear HO_215002; clear HO_227001; clear HO_227002; clear BK214; clear BK226; clear HB; have HO_215001 := n0_; have HO_215002 := n1_; have HO_227001 := n2_; have HO_227002 := n3_; have BK214 := n4_; have BK226 := n5_; have HB := n6_; have BK228 := n7_; have GW228 := n8_; have GE228 := n9_; have NB214_228 := n10_; have NB228_214 := n11_; have NB226_228 := n12_; have NB228_226 := n13_; clear n0_ n1_ n2_ n3_ n4_ n5_ n6_ n7_ n8_ n9_ n10_ n11_ n12_ n13_; clear hb hbox hg; have hnb38 := NB228_214.out; have hnc38 := NB214_228.out; have hnb39 := NB228_226.out; have hnc39 := NB226_228.out; have hcz40_0 : w37.cell? ⟨gb228, 0, none⟩ = some (.bool false) := (blk_cell BK228.out 0).trans rfl; have hcz40_1 : w37.cell? ⟨gb228, 1, none⟩ = some (.slice none 0 0) := (blk_cell BK228.out 1).trans rfl; have hcz40_2 : w37.cell? ⟨gb228, 2, none⟩ = some (.slice none 0 0) := (blk_cell BK228.out 2).trans rfl; have hfz40_0 := blk_frozen BK228.out 0; have hfz40_1 := blk_frozen BK228.out 1; have hfz40_2 := blk_frozen BK228.out 2))
                  go_loopg [12] kj26 (fun kq v12 w' => ∃ (x12_3 : Int) (x229002_3 : List (S30)) (u229002 : Value), v12 = .int .i64 x12_3 ∧ Aside0 (laws_FnGenTree.l0 kq a1 l2 t213 x12_3 t206 t207 t210 a0 l2 x229002_3 = some r) ∧ Aside0 (kq ≤ kj26) ∧ Aside0 (Kd.R (Kd.int .i64) 3 w' w.heap.size (fun k_ => some k_ ≠ ((.slice Ao21 t219.length co21) : Value).ownBlock) (.slice Ao12 t207.length co12) t207) ∧ Aside0 (Kd.R k30 30 w' w.heap.size (fun k_ => some k_ ≠ ((.slice Ao22 t222.length co22) : Value).ownBlock ∧ some k_ ≠ (u229002 : Value).ownBlock) (.slice Ao13 t210.length co13) t210) ∧ Aside0 (Kd.R (Kd.int .i64) 3 w' w.heap.size (fun k_ => some k_ ≠ ((.slice Ao12 t207.length co12) : Value).ownBlock) (.slice Ao21 t219.length co21) t219) ∧ Aside0 (Kd.R k30 30 w' w.heap.size (fun k_ => some k_ ≠ ((.slice Ao13 t210.length co13) : Value).ownBlock ∧ some k_ ≠ (u229002 : Value).ownBlock) (.slice Ao22 t222.length co22) t222) ∧ Aside0 (Kd.R k30 30 w' w.heap.size (fun k_ => some k_ ≠ ((.slice Ao13 t210.length co13) : Value).ownBlock ∧ some k_ ≠ ((.slice Ao22 t222.length co22) : Value).ownBlock) u229002 x229002_3) ∧ Aside0 (w'.heap[gb214]? = some (.cells #[.bool t206, (.slice Ao12 t207.length co12), (.slice Ao13 t210.length co13)] 25 (0, 0))) ∧ Aside0 (w'.heap[gb226]? = some (.cells #[.bool t218, (.slice Ao21 t219.length co21), (.slice Ao22 t222.length co22)] 25 (0, 0))) ∧ Aside0 (w'.heap[gb228]? = some (.cells #[.bool a0, (.slice A2 l2.length c2), u229002] 25 (0, 0))) ∧ Aside0 (Below w.heap.size w w'))
                  case atStart => exact ⟨(1), (([] : List (S30))), (.slice none 0 0), (by first | rfl | (simp; done) | (simp [*]; done)), H', ⟨Nat.le_refl _⟩, ⟨by (with_reducible repeat (first | apply Kd.R_alloc | apply Kd.R_drewN | apply Kd.R_drew)); exact Kd.R_mono (Kd.R_far (p := ⟨gb228, 2, none⟩) (Kd.R_far (p := ⟨gb228, 1, none⟩) (Kd.R_far (p := ⟨gb228, 0, none⟩) (Kd.R_types HO_215001.out BK228.out (by decide)) (fun _ hk => hk.2) (.bool a0)) (fun _ hk => hk.2) (.slice A2 l2.length c2)) (fun _ hk => hk.2) (.slice none 0 0)) (fun _ hk => hk.1)⟩, ⟨by (with_reducible repeat (first | apply Kd.R_alloc | apply Kd.R_drewN | apply Kd.R_drew)); exact Kd.R_mono (Kd.R_far (p := ⟨gb228, 2, none⟩) (Kd.R_far (p := ⟨gb228, 1, none⟩) (Kd.R_far (p := ⟨gb228, 0, none⟩) (Kd.R_types HO_215002.out BK228.out (by decide)) (fun _ hk => hk.2) (.bool a0)) (fun _ hk => hk.2) (.slice A2 l2.length c2)) (fun _ hk => hk.2) (.slice none 0 0)) (fun _ hk => ⟨hk.1, (by simp [Value.ownBlock])⟩)⟩, ⟨by (with_reducible repeat (first | apply Kd.R_alloc | apply Kd.R_drewN | apply Kd.R_drew)); exact Kd.R_mono (Kd.R_far (p := ⟨gb228, 2, none⟩) (Kd.R_far (p := ⟨gb228, 1, none⟩) (Kd.R_far (p := ⟨gb228, 0, none⟩) (Kd.R_types HO_227001.out BK228.out (by decide)) (fun _ hk => hk.2) (.bool a0)) (fun _ hk => hk.2) (.slice A2 l2.length c2)) (fun _ hk => hk.2) (.slice none 0 0)) (fun _ hk => hk.1)⟩, ⟨by (with_reducible repeat (first | apply Kd.R_alloc | apply Kd.R_drewN | apply Kd.R_drew)); exact Kd.R_mono (Kd.R_far (p := ⟨gb228, 2, none⟩) (Kd.R_far (p := ⟨gb228, 1, none⟩) (Kd.R_far (p := ⟨gb228, 0, none⟩) (Kd.R_types HO_227002.out BK228.out (by decide)) (fun _ hk => hk.2) (.bool a0)) (fun _ hk => hk.2) (.slice A2 l2.length c2)) (fun _ hk => hk.2) (.slice none 0 0)) (fun _ hk => ⟨hk.1, (by simp [Value.ownBlock])⟩)⟩, ⟨by first | exact Kd.R_nil _ _ _ _ _ | exact Kd.N_nil _ _ _ _ _ | exact Kd.V_nil _ _ _ _ _ | exact Kd.Q_nil _ _ _ _ _ | exact Kd.S_nil _ _ _ _ _⟩, ⟨by (with_reducible repeat (first | refine blk_drewN ?_ _ | refine blk_drew ?_ | refine blk_alloc ?_ _)); refine blk_far ?_ NB214_228.out _; (with_reducible repeat (first | refine blk_drewN ?_ _ | refine blk_drew ?_ | refine blk_alloc ?_ _)); refine blk_far ?_ NB214_228.out _; (with_reducible repeat (first | refine blk_drewN ?_ _ | refine blk_drew ?_ | refine blk_alloc ?_ _)); refine blk_far ?_ NB214_228.out _; (with_reducible repeat (first | refine blk_drewN ?_ _ | refine blk_drew ?_ | refine blk_alloc ?_ _)); exact BK214.out⟩, ⟨by (with_reducible repeat (first | refine blk_drewN ?_ _ | refine blk_drew ?_ | refine blk_alloc ?_ _)); refine blk_far ?_ NB226_228.out _; (with_reducible repeat (first | refine blk_drewN ?_ _ | refine blk_drew ?_ | refine blk_alloc ?_ _)); refine blk_far ?_ NB226_228.out _; (with_reducible repeat (first | refine blk_drewN ?_ _ | refine blk_drew ?_ | refine blk_alloc ?_ _)); refine blk_far ?_ NB226_228.out _; (with_reducible repeat (first | refine blk_drewN ?_ _ | refine blk_drew ?_ | refine blk_alloc ?_ _)); exact BK226.out⟩, ⟨by (with_reducible repeat (first | refine blk_drewN ?_ _ | refine blk_drew ?_ | refine blk_alloc ?_ _)); refine blk_put (cs := #[.bool a0, .slice A2 l2.length c2, .slice none 0 0]) ?_ 2 _ rfl; (with_reducible repeat (first | refine blk_drewN ?_ _ | refine blk_drew ?_ | refine blk_alloc ?_ _)); refine blk_put (cs := #[.bool a0, .slice none 0 0, .slice none 0 0]) ?_ 1 _ rfl; (with_reducible repeat (first | refine blk_drewN ?_ _ | refine blk_drew ?_ | refine blk_alloc ?_ _)); refine blk_put (cs := #[.bool false, .slice none 0 0, .slice none 0 0]) ?_ 0 _ rfl; (with_reducible repeat (first | refine blk_drewN ?_ _ | refine blk_drew ?_ | refine blk_alloc ?_ _)); exact BK228.out⟩, ⟨by repeat (first | (with_reducible first | exact HB.out | apply below_alloc | apply pw_below_drewN | apply below_drew1 | refine below_set ?_ GE214.out | refine below_set ?_ GE226.out | refine below_set ?_ GE228.out) | exact HB.out)⟩⟩
                  case round =>
                    clear H'
                    try clear c1
                    try clear c2
                    try clear p2
                    try clear c3
                    try clear c4
                    try clear c4b0
                    try clear c4b1
                    try clear c5
                    try clear c5b0
                    try clear c5b1
                    try clear c19
                    try clear c23
                    try clear c24
                    try clear c26
                    try clear c29
                    try clear c30
                    try clear c30b0
                    try clear c30b1
                    try clear c31
                    try clear c31b0
                    try clear c36
                    try clear c38
                    try clear c39
                    try clear hcz11_0
                    try clear hcz11_1
                    try clear hcz11_2
                    try clear hcz20_0
                    try clear hcz20_1
                    try clear hcz20_2
                    try clear hcz25_0
                    try clear hcz25_1
                    try clear hcz25_2
                    try clear hcz40_0
                    try clear hcz40_1
                    try clear hcz40_2
                    try clear hfz11_0
                    try clear hfz11_1
                    try clear hfz11_2
                    try clear hfz20_0
                    try clear hfz20_1
                    try clear hfz20_2
                    try clear hfz25_0
                    try clear hfz25_1
                    try clear hfz25_2
                    try clear hfz40_0
                    try clear hfz40_1
                    try clear hfz40_2
                    try clear p2
                    obtain ⟨x12_3, x229002_3, u229002, rfl, HA, HK3, HO_215001, HO_215002, HO_227001, HO_227002, HO_229002, BK214, BK226, BK228, HB⟩ := hrel
                    cases gk with
                    | zero => exact absurd HA.out (by simp [laws_FnGenTree.l0])
                    | succ k3 =>
                      have H := HA.out
                      clear HA
                      simp only [laws_FnGenTree.l0] at H
                      by_cases c41 : x12_3 < (l2.length : Int)
                      · rw [if_pos c41] at H
                        have c41b0 : decide (x12_3 < (l2.length : Int)) = true := decide_eq_true c41
                        clear c41
                        by_cases c42 : a1 = 0
                        · rw [if_pos c42] at H
                          exact absurd H (by simp)
                        · rw [if_neg c42] at H
                          have c42b0 : (a1 == 0) = false := beq_eq_false_iff_ne.mpr c42
                          have c42b1 : (a1 != 0) = true := bne_iff_ne.mpr c42
                          obtain ⟨ji43, hji43⟩ : ∃ j_ : Int, (wrap64 (Int.tdiv (wrap64 (x12_3 - 1)) a1)) = j_ := ⟨_, rfl⟩
                          replace H : (if 0 ≤ (ji43) then (if (ji43) < (l2.length : Int) then (if 0 ≤ x12_3 then (if x229002_3.length < 5864062014805 then (laws_FnGenTree.l0 k3 a1 l2 t213 (wrap64 (x12_3 + 1)) t206 t207 t210 a0 l2 (x229002_3 ++ [(⟨rd l2 (ji43), rd l2 x12_3, 0⟩ : S30)])) else (none)) else (none)) else (none)) else (none)) = some r := by first | (rw [hji43] at H; exact H) | (simp only [hji43] at H ⊢; exact H)
                          have hji43w : (IntKind.i64.wrap (Int.tdiv (wrap64 (x12_3 - 1)) a1)) = ji43 := (i64_w _).trans hji43
                          by_cases c44 : 0 ≤ (ji43)
                          · rw [if_pos c44] at H
                            have c44b0 : decide (0 ≤ (ji43)) = true := decide_eq_true c44
                            clear c44
                            by_cases c45 : (ji43) < (l2.length : Int)
                            · rw [if_pos c45] at H
                              have c45b0 : decide ((ji43) < (l2.length : Int)) = true := decide_eq_true c45
                              clear c45
                              by_cases c46 : 0 ≤ x12_3
                              · rw [if_pos c46] at H
                                have c46b0 : decide (0 ≤ x12_3) = true := decide_eq_true c46
                                clear c46
                                by_cases c47 : x229002_3.length < 5864062014805
                                · rw [if_pos c47] at H
                                  have LMc47 := Aside0.mk c47
                                  clear c47
                                  obtain ⟨y231, hy231⟩ : ∃ y_ : List (S30), y_ = (x229002_3 ++ [(⟨rd l2 (ji43), rd l2 x12_3, 0⟩ : S30)]) := ⟨_, rfl⟩
                                  replace H : (laws_FnGenTree.l0 k3 a1 l2 t213 (wrap64 (x12_3 + 1)) t206 t207 t210 a0 l2 y231) = some r := by first | (rw [hy231]; with_reducible exact H) | (have H2_ := (Option.bind_some _ _).symm.trans H; rw [hy231]; with_reducible exact H2_) | (have H2_ := (Option.bind_some _ _).symm.trans H; with_reducible exact H2_) | with_reducible exact H | (rw [hy231]; exact H) | exact H
                                  have Ny231 := Aside0.mk hy231
                                  clear hy231
                                  have H' := Aside0.mk H
                                  clear H
                                  try go_wp2
                                  have n0_ := Aside0.mk (Kd.R_drew HO_215001.out)
                                  have n1_ := Aside0.mk (Kd.R_drew HO_215002.out)
                                  have n2_ := Aside0.mk (Kd.R_drew HO_227001.out)
                                  have n3_ := Aside0.mk (Kd.R_drew HO_227002.out)
                                  have n4_ := Aside0.mk (Kd.R_drew HO_229002.out)
                                  have n5_ := Aside0.mk (blk_drew BK214.out)
                                  have n6_ := Aside0.mk (blk_drew BK226.out)
                                  have n7_ := Aside0.mk (blk_drew BK228.out)
                                  have n8_ := Aside0.mk (below_drew1 HB.out)
                                  clear HO_215001
                                  clear HO_215002
                                  clear HO_227001
                                  clear HO_227002
                                  clear HO_229002
                                  clear BK214
                                  clear BK226
                                  clear BK228
                                  clear HB
                                  have HO_215001 := n0_
                                  have HO_215002 := n1_
                                  have HO_227001 := n2_
                                  have HO_227002 := n3_
                                  have HO_229002 := n4_
                                  have BK214 := n5_
                                  have BK226 := n6_
                                  have BK228 := n7_
                                  have HB := n8_
                                  clear n0_ n1_ n2_ n3_ n4_ n5_ n6_ n7_ n8_
                                  have p229 : 0 ≤ ((ji43) : Int) := of_decide_eq_true (by first | (with_reducible assumption) | assumption)
                                  have q229 : (ji43) < (l2.length : Int) := of_decide_eq_true (by first | (with_reducible assumption) | assumption)
                                  obtain ⟨ad229, e229, hx229_0⟩ := Kd.at_int HR2.out (ji43) p229 q229
                                  have hw229_0 := hx229_0
                                  cases e229
                                  replace hx229_0 := (HB.out.cell (World.block_lt_of_cell? w _ hx229_0)).trans hx229_0
                                  replace p229 := eq_true p229
                                  replace q229 := eq_true q229
                                  have p230 : 0 ≤ (x12_3 : Int) := of_decide_eq_true (by first | (with_reducible assumption) | assumption)
                                  have q230 : x12_3 < (l2.length : Int) := of_decide_eq_true (by first | (with_reducible assumption) | assumption)
                                  obtain ⟨ad230, e230, hx230_0⟩ := Kd.at_int HR2.out x12_3 p230 q230
                                  have hw230_0 := hx230_0
                                  obtain rfl : ad229 = ad230 := (by injection e230)
                                  replace hx230_0 := (HB.out.cell (World.block_lt_of_cell? w _ hx230_0)).trans hx230_0
                                  replace p230 := eq_true p230
                                  replace q230 := eq_true q230
                                  refine start_ (n := 18) (S := fun w' => w'.cell? ⟨gb228, 0, none⟩ = some (.bool a0) ∧ w'.cell? ⟨gb228, 1, none⟩ = some (.slice (some ad229) l2.length c2) ∧ w'.cell? ⟨gb228, 2, none⟩ = some (u229002) ∧ w'.cell? (ad229.add ((ji43)).toNat) = some (.int .i64 (rd l2 (ji43))) ∧ w'.cell? (ad229.add (x12_3).toNat) = some (.int .i64 (rd l2 x12_3))) (ds := [17]) #[false, false, false, false, false, false, false, false, false, false, false, false, false, false, false, false, false, false] (by kernel_rfl) rfl rfl ⟨(blk_cell BK228.out 0).trans rfl, (blk_cell BK228.out 1).trans rfl, (blk_cell BK228.out 2).trans rfl, ((HB.out.cell (World.block_lt_of_cell? w _ hw229_0)).trans hw229_0), ((HB.out.cell (World.block_lt_of_cell? w _ hw230_0)).trans hw230_0)⟩ (fun hHeld => ?_); refine with_tabW laws_FnGenTree.tab15 laws_FnGenTree.bits15 (fun HT_ HW_ => ?_)
                                  generalize wr.drew = w48 at HO_215001 HO_215002 HO_227001 HO_227002 HO_229002 BK214 BK226 BK228 HB hx229_0 hx230_0 hHeld ⊢
                                  refine pure_ (i := 0) (N := some 66) (v := ?_) (a' := ?_) #[true, false, false, false, false, false, false, false, false, false, false, false, false, false, false, false, false, false] rfl rfl (any_of HT_.out (by kernel_rfl)) (fun _ _ _ h => h) (Or.inl ⟨by rfl, ?_⟩) ?_ ?_
                                  rotate_left
                                  · intro w'
                                    go_simp
                                    with_reducible rfl
                                  rotate_left
                                  · simp only [Act.put, List.setIfInBounds_toArray, List.set_cons_zero, List.set_cons_succ, i64_w, i32_w]
                                    rfl
                                  refine pure_ (i := 2) (N := some 68) (v := ?_) (a' := ?_) #[true, false, true, false, false, false, false, false, false, false, false, false, false, false, false, false, false, false] rfl rfl (any_of HT_.out (by kernel_rfl)) (fun _ _ _ h => h) (Or.inl ⟨by rfl, ?_⟩) ?_ ?_
                                  rotate_left
                                  · intro w'
                                    go_simp
                                    with_reducible rfl
                                  rotate_left
                                  · simp only [Act.put, List.setIfInBounds_toArray, List.set_cons_zero, List.set_cons_succ, i64_w, i32_w]
                                    rfl
                                  refine pure_ (i := 3) (N := some 69) (v := ?_) (a' := ?_) #[true, false, true, true, false, false, false, false, false, false, false, false, false, false, false, false, false, false] rfl rfl (any_of HT_.out (by kernel_rfl)) (fun _ _ _ h => h) (Or.inl ⟨by rfl, ?_⟩) ?_ ?_
                                  rotate_left
                                  · intro w'
                                    go_simp
                                    with_reducible rfl
                                  rotate_left
                                  · simp only [Act.put, List.setIfInBounds_toArray, List.set_cons_zero, List.set_cons_succ, i64_w, i32_w]
                                    rfl
                                  refine pure_ (i := 4) (N := some 70) (v := ?_) (a' := ?_) #[true, false, true, true, true, false, false, false, false, false, false, false, false, false, false, false, false, false] rfl rfl (any_of HT_.out (by kernel_rfl)) (fun _ _ _ h => h) (Or.inl ⟨by rfl, ?_⟩) ?_ ?_
                                  rotate_left
                                  · intro w'
                                    go_simp
                                    with_reducible rfl
                                  rotate_left
                                  · simp only [Act.put, List.setIfInBounds_toArray, List.set_cons_zero, List.set_cons_succ, i64_w, i32_w]
                                    rfl
                                  refine pure_ (i := 5) (N := some 71) (v := ?_) (a' := ?_) #[true, false, true, true, true, true, false, false, false, false, false, false, false, false, false, false, false, false] rfl rfl (any_of HT_.out (by kernel_rfl)) (fun _ _ _ h => h) (Or.inl ⟨by rfl, ?_⟩) ?_ ?_
                                  rotate_left
                                  · intro w'
                                    go_simp
                                    with_reducible rfl
                                  rotate_left
                                  · simp only [Act.put, List.setIfInBounds_toArray, List.set_cons_zero, List.set_cons_succ, i64_w, i32_w]
                                    rfl
                                  refine pure_ (i := 6) (N := some 72) (v := ?_) (a' := ?_) #[true, false, true, true, true, true, true, false, false, false, false, false, false, false, false, false, false, false] rfl rfl (any_of HT_.out (by kernel_rfl)) (fun _ _ _ h => h) (Or.inl ⟨by rfl, ?_⟩) ?_ ?_
                                  rotate_left
                                  · intro w'
                                    go_simp
                                    with_reducible rfl
                                  rotate_left
                                  · simp only [Act.put, List.setIfInBounds_toArray, List.set_cons_zero, List.set_cons_succ, i64_w, i32_w]
                                    rfl
                                  refine pure_ (i := 7) (N := some 73) (v := ?_) (a' := ?_) #[true, false, true, true, true, true, true, true, false, false, false, false, false, false, false, false, false, false] rfl rfl (any_of HT_.out (by kernel_rfl)) (fun _ _ _ h => h) (Or.inl ⟨by rfl, ?_⟩) ?_ ?_
                                  rotate_left
                                  · intro w'
                                    go_simp
                                    with_reducible rfl
                                  rotate_left
                                  · simp only [Act.put, List.setIfInBounds_toArray, List.set_cons_zero, List.set_cons_succ, i64_w, i32_w]
                                    rfl
                                  refine pure_ (i := 9) (N := some 75) (v := ?_) (a' := ?_) #[true, false, true, true, true, true, true, true, false, true, false, false, false, false, false, false, false, false] rfl rfl (any_of HT_.out (by kernel_rfl)) (fun _ _ _ h => h) (Or.inl ⟨by rfl, ?_⟩) ?_ ?_
                                  rotate_left
                                  · intro w'
                                    go_simp
                                    with_reducible rfl
                                  rotate_left
                                  · simp only [Act.put, List.setIfInBounds_toArray, List.set_cons_zero, List.set_cons_succ, i64_w, i32_w]
                                    rfl
                                  refine pure_ (i := 10) (N := some 76) (v := ?_) (a' := ?_) #[true, false, true, true, true, true, true, true, false, true, true, false, false, false, false, false, false, false] rfl rfl (any_of HT_.out (by kernel_rfl)) (fun _ _ _ h => h) (Or.inl ⟨by rfl, ?_⟩) ?_ ?_
                                  rotate_left
                                  · intro w'
                                    go_simp
                                    with_reducible rfl
                                  rotate_left
                                  · simp only [Act.put, List.setIfInBounds_toArray, List.set_cons_zero, List.set_cons_succ, i64_w, i32_w]
                                    rfl
                                  refine pure_ (i := 11) (N := some 77) (v := ?_) (a' := ?_) #[true, false, true, true, true, true, true, true, false, true, true, true, false, false, false, false, false, false] rfl rfl (any_of HT_.out (by kernel_rfl)) (fun _ _ _ h => h) (Or.inl ⟨by rfl, ?_⟩) ?_ ?_
                                  rotate_left
                                  · intro w'
                                    go_simp
                                    with_reducible rfl
                                  rotate_left
                                  · simp only [Act.put, List.setIfInBounds_toArray, List.set_cons_zero, List.set_cons_succ, i64_w, i32_w]
                                    rfl
                                  refine take_ (i := 1) (N := some 67) (v := ?_) (a' := ?_) #[true, true, true, true, true, true, true, true, false, true, true, true, false, false, false, false, false, false] rfl rfl (take_ofW HT_.out HW_.out (by kernel_rfl)) (fun _ _ _ h => h) (Or.inl ⟨by rfl, ?_⟩) hHeld ?_ ?_
                                  rotate_left
                                  · rintro w' ⟨s0, s1, s2, s3, s4⟩
                                    go_simp
                                    with_reducible rfl
                                  rotate_left
                                  · simp only [Act.put, List.setIfInBounds_toArray, List.set_cons_zero, List.set_cons_succ, i64_w, i32_w]
                                    rfl
                                  refine take_ (i := 8) (N := some 74) (v := ?_) (a' := ?_) #[true, true, true, true, true, true, true, true, true, true, true, true, false, false, false, false, false, false] rfl rfl (take_ofW HT_.out HW_.out (by kernel_rfl)) (fun _ _ _ h => h) (Or.inl ⟨by rfl, ?_⟩) hHeld ?_ ?_
                                  rotate_left
                                  · rintro w' ⟨s0, s1, s2, s3, s4⟩
                                    go_simp
                                    with_reducible rfl
                                  rotate_left
                                  · simp only [Act.put, List.setIfInBounds_toArray, List.set_cons_zero, List.set_cons_succ, i64_w, i32_w]
                                    rfl
                                  refine take_ (i := 12) (N := some 78) (v := ?_) (a' := ?_) #[true, true, true, true, true, true, true, true, true, true, true, true, true, false, false, false, false, false] rfl rfl (take_ofW HT_.out HW_.out (by kernel_rfl)) (fun _ _ _ h => h) (Or.inl ⟨by rfl, ?_⟩) hHeld ?_ ?_
                                  rotate_left
                                  · rintro w' ⟨s0, s1, s2, s3, s4⟩
                                    go_simp
                                    with_reducible rfl
                                  rotate_left
                                  · simp only [Act.put, List.setIfInBounds_toArray, List.set_cons_zero, List.set_cons_succ, i64_w, i32_w]
                                    rfl
                                  refine pure_ (i := 13) (N := some 79) (v := ?_) (a' := ?_) #[true, true, true, true, true, true, true, true, true, true, true, true, true, true, false, false, false, false] rfl rfl (any_of HT_.out (by kernel_rfl)) (fun _ _ _ h => h) (Or.inl ⟨by rfl, ?_⟩) ?_ ?_
                                  rotate_left
                                  · intro w'
                                    go_simp
                                    with_reducible rfl
                                  rotate_left
                                  · simp only [Act.put, List.setIfInBounds_toArray, List.set_cons_zero, List.set_cons_succ, i64_w, i32_w]
                                    rfl
                                  refine one_ (i := 14) (N := some 80) #[true, true, true, true, true, true, true, true, true, true, true, true, true, true, true, false, false, false] rfl rfl (one_of HT_.out (by kernel_rfl)) (by decide) (fun K hK => ?_)
                                  refine value_ (w1 := ?_) (v := ?_) (by rfl) rfl ?_ ?_
                                  rotate_left 2
                                  · go_simp
                                    constructor
                                    · rfl
                                    · rfl
                                  refine hK.out _ _ ⟨(blk_cell (blk_alloc BK228.out _) 0).trans rfl, (blk_cell (blk_alloc BK228.out _) 1).trans rfl, (blk_cell (blk_alloc BK228.out _) 2).trans rfl, (World.cell?_alloc_lt _ _ _ (World.block_lt_of_cell? _ _ (((HB.out.cell (World.block_lt_of_cell? w _ hw229_0)).trans hw229_0)))).trans (((HB.out.cell (World.block_lt_of_cell? w _ hw229_0)).trans hw229_0)), (World.cell?_alloc_lt _ _ _ (World.block_lt_of_cell? _ _ (((HB.out.cell (World.block_lt_of_cell? w _ hw230_0)).trans hw230_0)))).trans (((HB.out.cell (World.block_lt_of_cell? w _ hw230_0)).trans hw230_0))⟩ (fun hHeld => ?_)
                                  clear hK K
                                  refine norm_ (a' := ?_) ?_ ?_
                                  rotate_left
                                  · show Act.put _ (some 80) _ = _
                                    simp only [Act.put, List.setIfInBounds_toArray, List.set_cons_zero, List.set_cons_succ, i64_w, i32_w]
                                    rfl
                                  refine one_ (i := 15) (N := some 81) #[true, true, true, true, true, true, true, true, true, true, true, true, true, true, true, true, false, false] rfl rfl (one_of HT_.out (by kernel_rfl)) (by decide) (fun K hK => ?_)
                                  refine Kd.R_append_step k30 (w0 := w) w.heap.size (by rfl) (.tmp 67) (.tmp 80) 23 30 (.agg #[(.int .i64 0), (.int .i64 0), (.int .i64 0)]) 24 rfl Try.underlying23 info30 rfl (by decide) (by omega) u229002 x229002_3 (⟨rd l2 (ji43), rd l2 x12_3, 0⟩ : S30) [.int .i64 (rd l2 (ji43)), .int .i64 (rd l2 x12_3), .int .i64 0] (fun k_ => some k_ ≠ (.slice Ao13 t210.length co13 : Value).ownBlock ∧ some k_ ≠ (.slice Ao22 t222.length co22 : Value).ownBlock) (fun _ => False) rfl rfl ?aP (fun _ hk => hk.elim) ?aF ?aO ?aB ?aS ?aL ?_
                                  (case aP => exact k30_mkM _ _ _ (⟨rd l2 (ji43), rd l2 x12_3, 0⟩ : S30))
                                  (case aB => exact (by repeat (first | (with_reducible first | exact HB.out | apply below_alloc | apply pw_below_drewN | apply below_drew1 | refine below_set ?_ GE214.out | refine below_set ?_ GE226.out | refine below_set ?_ GE228.out) | exact HB.out)))
                                  (case aF => exact (fun k_ hk => ⟨Kd.fresh' (Kd.R_lt (by (with_reducible repeat (first | apply Kd.R_alloc | apply Kd.R_drewN | apply Kd.R_drew)); exact HO_215002.out)) k_ hk, Kd.fresh' (Kd.R_lt (by (with_reducible repeat (first | apply Kd.R_alloc | apply Kd.R_drewN | apply Kd.R_drew)); exact HO_227002.out)) k_ hk⟩))
                                  (case aO => exact (by (with_reducible repeat (first | apply Kd.R_alloc | apply Kd.R_drewN | apply Kd.R_drew)); exact HO_229002.out))
                                  (case aS => exact (below_size (by repeat (first | (with_reducible first | exact HB.out | apply below_alloc | apply pw_below_drewN | apply below_drew1 | refine below_set ?_ GE214.out | refine below_set ?_ GE226.out | refine below_set ?_ GE228.out) | exact HB.out))))
                                  (case aL => have := LMc47.out; omega)
                                  intro v232 w49 ho hb hg hat
                                  rw [← Ny231.out] at ho
                                  have n0_ := Aside0.mk (Kd.R_over' (by (with_reducible repeat (first | apply Kd.R_alloc | apply Kd.R_drewN | apply Kd.R_drew)); exact HO_215001.out) (Kd.R_typed (by (with_reducible repeat (first | apply Kd.R_alloc | apply Kd.R_drewN | apply Kd.R_drew)); exact HO_229002.out)) (by decide) hg)
                                  have n1_ := Aside0.mk (Kd.R_after (ok := (fun k_ => some k_ ≠ (.slice Ao22 t222.length co22 : Value).ownBlock)) (by (with_reducible repeat (first | apply Kd.R_alloc | apply Kd.R_drewN | apply Kd.R_drew)); exact HO_215002.out) hg hat)
                                  have n2_ := Aside0.mk (Kd.R_over' (by (with_reducible repeat (first | apply Kd.R_alloc | apply Kd.R_drewN | apply Kd.R_drew)); exact HO_227001.out) (Kd.R_typed (by (with_reducible repeat (first | apply Kd.R_alloc | apply Kd.R_drewN | apply Kd.R_drew)); exact HO_229002.out)) (by decide) hg)
                                  have n3_ := Aside0.mk (Kd.R_after (ok := (fun k_ => some k_ ≠ (.slice Ao13 t210.length co13 : Value).ownBlock)) (by (with_reducible repeat (first | apply Kd.R_alloc | apply Kd.R_drewN | apply Kd.R_drew)); exact HO_227002.out) hg hat)
                                  have n4_ := Aside0.mk (blk_grown (g := gb214) (o := .cells #[.bool t206, .slice Ao12 t207.length co12, .slice Ao13 t210.length co13] 25 (0, 0)) (by (with_reducible repeat (first | refine blk_drewN ?_ _ | refine blk_drew ?_ | refine blk_alloc ?_ _)); exact BK214.out) hg (Kd.R_ne HO_229002.out BK214.out (by decide)))
                                  have n5_ := Aside0.mk (blk_grown (g := gb226) (o := .cells #[.bool t218, .slice Ao21 t219.length co21, .slice Ao22 t222.length co22] 25 (0, 0)) (by (with_reducible repeat (first | refine blk_drewN ?_ _ | refine blk_drew ?_ | refine blk_alloc ?_ _)); exact BK226.out) hg (Kd.R_ne HO_229002.out BK226.out (by decide)))
                                  have n6_ := Aside0.mk (blk_grown (g := gb228) (o := .cells #[.bool a0, .slice (some ad229) l2.length c2, u229002] 25 (0, 0)) (by (with_reducible repeat (first | refine blk_drewN ?_ _ | refine blk_drew ?_ | refine blk_alloc ?_ _)); exact BK228.out) hg (Kd.R_ne HO_229002.out BK228.out (by decide)))
                                  have n7_ := Aside0.mk (hb)
                                  have n8_ := Aside0.mk (ho)
                                  clear HO_215001
                                  clear HO_215002
                                  clear HO_227001
                                  clear HO_227002
                                  clear BK214
                                  clear BK226
                                  clear BK228
                                  clear HB
                                  clear HO_229002
                                  have HO_215001 := n0_
                                  have HO_215002 := n1_
                                  have HO_227001 := n2_
                                  have HO_227002 := n3_
                                  have BK214 := n4_
                                  have BK226 := n5_
                                  have BK228 := n6_
                                  have HB := n7_
                                  have HO233 := n8_
                                  clear n0_ n1_ n2_ n3_ n4_ n5_ n6_ n7_ n8_
                                  clear ho hb hg hat
                                  obtain ⟨Ao50, co50, eo50⟩ := Kd.R_slice HO233.out
                                  (first | subst eo50 | (injection eo50 with f1_ f2_ f3_; have f4_ := f1_.symm; have f5_ := f3_.symm; clear f1_ f2_ f3_; subst f4_; subst f5_))
                                  refine hK.out _ _ ⟨(blk_cell BK228.out 0).trans rfl, (blk_cell BK228.out 1).trans rfl, (blk_cell BK228.out 2).trans rfl, ((HB.out.cell (World.block_lt_of_cell? w _ hw229_0)).trans hw229_0), ((HB.out.cell (World.block_lt_of_cell? w _ hw230_0)).trans hw230_0)⟩ (fun hHeld => ?_)
                                  clear hK K
                                  refine norm_ (a' := ?_) ?_ ?_
                                  rotate_left
                                  · show Act.put _ (some 81) _ = _
                                    simp only [Act.put, List.setIfInBounds_toArray, List.set_cons_zero, List.set_cons_succ, i64_w, i32_w]
                                    rfl
                                  refine pure_ (i := 16) (N := some 82) (v := ?_) (a' := ?_) #[true, true, true, true, true, true, true, true, true, true, true, true, true, true, true, true, true, false] rfl rfl (any_of HT_.out (by kernel_rfl)) (fun _ _ _ h => h) (Or.inl ⟨by rfl, ?_⟩) ?_ ?_
                                  rotate_left
                                  · intro w'
                                    go_simp
                                    with_reducible rfl
                                  rotate_left
                                  · simp only [Act.put, List.setIfInBounds_toArray, List.set_cons_zero, List.set_cons_succ, i64_w, i32_w]
                                    rfl
                                  refine last_ (i := 17) (N := none) #[true, true, true, true, true, true, true, true, true, true, true, true, true, true, true, true, true, true] rfl rfl (one_of HT_.out (by kernel_rfl)) (by decide) (fun K hK => ?_)
                                  have hs51 : w49.cell? ⟨gb228, 2, none⟩ = some (u229002) := (blk_cell BK228.out 2).trans rfl
                                  have hfs51 := blk_frozen BK228.out 2
                                  have hns51_0 := NB214_228.out
                                  have hns51_1 := NB226_228.out
                                  have hms51_0 := NB228_214.out
                                  have hms51_1 := NB228_226.out
                                  refine skip_ (w1 := ?_) (by rfl) rfl ?_ ?_
                                  rotate_left
                                  · go_simp
                                    rfl
                                  refine hK.out _ _ ?_
                                  clear hK K
                                  refine done_ (done_of HT_.out (by kernel_rfl)) ?_
                                  try go_wp2
                                  go_roundg k3
                                  case measure => have := HJ7.out; have := HJ26.out; have := HK3.out; omega
                                  case rel => exact ⟨(wrap64 (x12_3 + 1)), (y231), (.slice Ao50 y231.length co50), (by first | rfl | (simp; done) | (simp [*]; done)), H', ⟨by have := HJ7.out; have := HJ26.out; have := HK3.out; omega⟩, ⟨by (with_reducible repeat (first | apply Kd.R_alloc | apply Kd.R_drewN | apply Kd.R_drew)); exact Kd.R_mono (Kd.R_far (p := ⟨gb228, 2, none⟩) (Kd.R_types HO_215001.out BK228.out (by decide)) (fun _ hk => hk.2) (.slice Ao50 y231.length co50)) (fun _ hk => hk.1)⟩, ⟨by (with_reducible repeat (first | apply Kd.R_alloc | apply Kd.R_drewN | apply Kd.R_drew)); exact Kd.R_mono (Kd.R_far (p := ⟨gb228, 2, none⟩) (Kd.R_types HO_215002.out BK228.out (by decide)) (fun _ hk => hk.2) (.slice Ao50 y231.length co50)) (fun _ hk => ⟨hk.1.1, hk.1.2⟩)⟩, ⟨by (with_reducible repeat (first | apply Kd.R_alloc | apply Kd.R_drewN | apply Kd.R_drew)); exact Kd.R_mono (Kd.R_far (p := ⟨gb228, 2, none⟩) (Kd.R_types HO_227001.out BK228.out (by decide)) (fun _ hk => hk.2) (.slice Ao50 y231.length co50)) (fun _ hk => hk.1)⟩, ⟨by (with_reducible repeat (first | apply Kd.R_alloc | apply Kd.R_drewN | apply Kd.R_drew)); exact Kd.R_mono (Kd.R_far (p := ⟨gb228, 2, none⟩) (Kd.R_types HO_227002.out BK228.out (by decide)) (fun _ hk => hk.2) (.slice Ao50 y231.length co50)) (fun _ hk => ⟨hk.1.1, hk.1.2⟩)⟩, ⟨by (with_reducible repeat (first | apply Kd.R_alloc | apply Kd.R_drewN | apply Kd.R_drew)); exact Kd.R_mono (Kd.R_far (p := ⟨gb228, 2, none⟩) (Kd.R_types HO233.out BK228.out (by decide)) (fun _ hk => hk.2) (.slice Ao50 y231.length co50)) (fun _ hk => ⟨hk.1.1, hk.1.2⟩)⟩, ⟨by (with_reducible repeat (first | refine blk_drewN ?_ _ | refine blk_drew ?_ | refine blk_alloc ?_ _)); refine blk_far ?_ NB214_228.out _; (with_reducible repeat (first | refine blk_drewN ?_ _ | refine blk_drew ?_ | refine blk_alloc ?_ _)); exact BK214.out⟩, ⟨by (with_reducible repeat (first | refine blk_drewN ?_ _ | refine blk_drew ?_ | refine blk_alloc ?_ _)); refine blk_far ?_ NB226_228.out _; (with_reducible repeat (first | refine blk_drewN ?_ _ | refine blk_drew ?_ | refine blk_alloc ?_ _)); exact BK226.out⟩, ⟨by (with_reducible repeat (first | refine blk_drewN ?_ _ | refine blk_drew ?_ | refine blk_alloc ?_ _)); refine blk_put (cs := #[.bool a0, .slice (some ad229) l2.length c2, u229002]) ?_ 2 _ rfl; (with_reducible repeat (first | refine blk_drewN ?_ _ | refine blk_drew ?_ | refine blk_alloc ?_ _)); exact BK228.out⟩, ⟨by repeat (first | (with_reducible first | exact HB.out | apply below_alloc | apply pw_below_drewN | apply below_drew1 | refine below_set ?_ GE214.out | refine below_set ?_ GE226.out | refine below_set ?_ GE228.out) | exact HB.out)⟩⟩
                                · rw [if_neg c47] at H
                                  exact absurd H (by simp)
                              · rw [if_neg c46] at H
                                exact absurd H (by simp)
                            · rw [if_neg c45] at H
                              exact absurd H (by simp)
                          · rw [if_neg c44] at H
                            exact absurd H (by simp)
                      · rw [if_neg c41] at H
                        have c41b0 : decide (x12_3 < (l2.length : Int)) = false := decide_eq_false c41
                        clear c41
                        by_cases c52 : t213 = true
                        · subst c52
                          have H1 : (some false) = some r := by rw [if_pos rfl] at H; exact H
                          clear H
                          have H := H1
                          clear H1
                          obtain rfl := Option.some.inj H
                          try go_wp2
                          have n0_ := Aside0.mk (Kd.R_drew HO_215001.out)
                          have n1_ := Aside0.mk (Kd.R_drew HO_215002.out)
                          have n2_ := Aside0.mk (Kd.R_drew HO_227001.out)
                          have n3_ := Aside0.mk (Kd.R_drew HO_227002.out)
                          have n4_ := Aside0.mk (Kd.R_drew HO_229002.out)
                          have n5_ := Aside0.mk (blk_drew BK214.out)
                          have n6_ := Aside0.mk (blk_drew BK226.out)
                          have n7_ := Aside0.mk (blk_drew BK228.out)
                          have n8_ := Aside0.mk (below_drew1 HB.out)
                          clear HO_215001
                          clear HO_215002
                          clear HO_227001
                          clear HO_227002
                          clear HO_229002
                          clear BK214
                          clear BK226
                          clear BK228
                          clear HB
                          have HO_215001 := n0_
                          have HO_215002 := n1_
                          have HO_227001 := n2_
                          have HO_227002 := n3_
                          have HO_229002 := n4_
                          have BK214 := n5_
                          have BK226 := n6_
                          have BK228 := n7_
                          have HB := n8_
                          clear n0_ n1_ n2_ n3_ n4_ n5_ n6_ n7_ n8_
                          refine start_ (n := 9) (S := fun w' => True) (ds := []) #[false, false, false, false, false, false, false, false, false] (by kernel_rfl) rfl rfl trivial (fun hHeld => ?_); refine with_tabW laws_FnGenTree.tab16 laws_FnGenTree.bits16 (fun HT_ HW_ => ?_)
                          generalize wr.drew = w53 at HO_215001 HO_215002 HO_227001 HO_227002 HO_229002 BK214 BK226 BK228 HB hHeld ⊢
                          refine pure_ (i := 0) (N := some 83) (v := ?_) (a' := ?_) #[true, false, false, false, false, false, false, false, false] rfl rfl (any_of HT_.out (by kernel_rfl)) (fun _ _ _ h => h) (Or.inl ⟨by rfl, ?_⟩) ?_ ?_
                          rotate_left
                          · intro w'
                            go_simp
                            with_reducible rfl
                          rotate_left
                          · simp only [Act.put, List.setIfInBounds_toArray, List.set_cons_zero, List.set_cons_succ, i64_w, i32_w]
                            rfl
                          refine pure_ (i := 1) (N := some 84) (v := ?_) (a' := ?_) #[true, true, false, false, false, false, false, false, false] rfl rfl (any_of HT_.out (by kernel_rfl)) (fun _ _ _ h => h) (Or.inl ⟨by rfl, ?_⟩) ?_ ?_
                          rotate_left
                          · intro w'
                            go_simp
                            with_reducible rfl
                          rotate_left
                          · simp only [Act.put, List.setIfInBounds_toArray, List.set_cons_zero, List.set_cons_succ, i64_w, i32_w]
                            rfl
                          refine pure_ (i := 2) (N := some 85) (v := ?_) (a' := ?_) #[true, true, true, false, false, false, false, false, false] rfl rfl (any_of HT_.out (by kernel_rfl)) (fun _ _ _ h => h) (Or.inl ⟨by rfl, ?_⟩) ?_ ?_
                          rotate_left
                          · intro w'
                            go_simp
                            with_reducible rfl
                          rotate_left
                          · simp only [Act.put, List.setIfInBounds_toArray, List.set_cons_zero, List.set_cons_succ, i64_w, i32_w]
                            rfl
                          refine pure_ (i := 3) (N := some 86) (v := undef) (a' := ?_) #[true, true, true, true, false, false, false, false, false] rfl rfl (any_of HT_.out (by kernel_rfl)) (fun _ _ _ h => h) (Or.inr ⟨by rfl, rfl⟩) ?_ ?_
                          rotate_left
                          · simp only [Act.put, List.setIfInBounds_toArray, List.set_cons_zero, List.set_cons_succ, i64_w, i32_w]
                            rfl
                          refine pure_ (i := 4) (N := some 87) (v := undef) (a' := ?_) #[true, true, true, true, true, false, false, false, false] rfl rfl (any_of HT_.out (by kernel_rfl)) (fun _ _ _ h => h) (Or.inr ⟨by rfl, rfl⟩) ?_ ?_
                          rotate_left
                          · simp only [Act.put, List.setIfInBounds_toArray, List.set_cons_zero, List.set_cons_succ, i64_w, i32_w]
                            rfl
                          refine pure_ (i := 5) (N := some 88) (v := undef) (a' := ?_) #[true, true, true, true, true, true, false, false, false] rfl rfl (any_of HT_.out (by kernel_rfl)) (fun _ _ _ h => h) (Or.inr ⟨by rfl, rfl⟩) ?_ ?_
                          rotate_left
                          · simp only [Act.put, List.setIfInBounds_toArray, List.set_cons_zero, List.set_cons_succ, i64_w, i32_w]
                            rfl
                          refine pure_ (i := 6) (N := some 89) (v := undef) (a' := ?_) #[true, true, true, true, true, true, true, false, false] rfl rfl (any_of HT_.out (by kernel_rfl)) (fun _ _ _ h => h) (Or.inr ⟨by rfl, rfl⟩) ?_ ?_
                          rotate_left
                          · simp only [Act.put, List.setIfInBounds_toArray, List.set_cons_zero, List.set_cons_succ, i64_w, i32_w]
                            rfl
                          refine pure_ (i := 7) (N := some 90) (v := ?_) (a' := ?_) #[true, true, true, true, true, true, true, true, false] rfl rfl (any_of HT_.out (by kernel_rfl)) (fun _ _ _ h => h) (Or.inl ⟨by rfl, ?_⟩) ?_ ?_
                          rotate_left
                          · intro w'
                            go_simp
                            with_reducible rfl
                          rotate_left
                          · simp only [Act.put, List.setIfInBounds_toArray, List.set_cons_zero, List.set_cons_succ, i64_w, i32_w]
                            rfl
                          refine pure_ (i := 8) (N := some 6) (v := ?_) (a' := ?_) #[true, true, true, true, true, true, true, true, true] rfl rfl (any_of HT_.out (by kernel_rfl)) (fun _ _ _ h => h) (Or.inl ⟨by rfl, ?_⟩) ?_ ?_
                          rotate_left
                          · intro w'
                            go_simp
                            with_reducible rfl
                          rotate_left
                          · simp only [Act.put, List.setIfInBounds_toArray, List.set_cons_zero, List.set_cons_succ, i64_w, i32_w]
                            rfl
                          refine done_ (done_of HT_.out (by kernel_rfl)) ?_
                          try go_wp2
                          go_ret
                          exact ⟨by first | rfl | (simp [errW_none, errW_some] <;> rfl) | (simp [*, errW_none, errW_some] <;> rfl), by repeat (first | (with_reducible first | exact HB.out | apply below_alloc | apply pw_below_drewN | apply below_drew1 | refine below_set ?_ GE214.out | refine below_set ?_ GE226.out | refine below_set ?_ GE228.out) | exact HB.out)⟩
                        · replace c52 := Bool.eq_false_iff.mpr c52
                          subst c52
                          have H1 : ((laws_plain.f k3 a0 l2 x229002_3).bind fun bt234 => ((laws_sameGraph.f k3 t206 t207 t210 bt234.1 bt234.2.1 bt234.2.2).bind fun t241 => (some t241))) = some r := by rw [if_neg (show ¬ (false = true) by decide)] at H; exact H
                          clear H
                          have H := H1
                          clear H1
                          replace H := Option.bind_eq_some_iff.mp H
                          obtain ⟨⟨t234, t235, t238⟩, A540, H⟩ := H
                          replace H : ((laws_sameGraph.f k3 t206 t207 t210 t234 t235 t238).bind fun t241 => (some t241)) = some r := H
                          have A54 := Aside0.mk A540
                          clear A540
                          replace H := Option.bind_eq_some_iff.mp H
                          obtain ⟨t241, A550, H⟩ := H
                          replace H : (some t241) = some r := H
                          have A55 := Aside0.mk A550
                          clear A550
                          obtain rfl := Option.some.inj H
                          try go_wp2
                          have n0_ := Aside0.mk (Kd.R_drew HO_215001.out)
                          have n1_ := Aside0.mk (Kd.R_drew HO_215002.out)
                          have n2_ := Aside0.mk (Kd.R_drew HO_227001.out)
                          have n3_ := Aside0.mk (Kd.R_drew HO_227002.out)
                          have n4_ := Aside0.mk (Kd.R_drew HO_229002.out)
                          have n5_ := Aside0.mk (blk_drew BK214.out)
                          have n6_ := Aside0.mk (blk_drew BK226.out)
                          have n7_ := Aside0.mk (blk_drew BK228.out)
                          have n8_ := Aside0.mk (below_drew1 HB.out)
                          clear HO_215001
                          clear HO_215002
                          clear HO_227001
                          clear HO_227002
                          clear HO_229002
                          clear BK214
                          clear BK226
                          clear BK228
                          clear HB
                          have HO_215001 := n0_
                          have HO_215002 := n1_
                          have HO_227001 := n2_
                          have HO_227002 := n3_
                          have HO_229002 := n4_
                          have BK214 := n5_
                          have BK226 := n6_
                          have BK228 := n7_
                          have HB := n8_
                          clear n0_ n1_ n2_ n3_ n4_ n5_ n6_ n7_ n8_
                          obtain ⟨Ao57, co57, eo57⟩ := Kd.R_slice HO_229002.out
                          (first | subst eo57 | (injection eo57 with f1_ f2_ f3_; have f4_ := f1_.symm; have f5_ := f3_.symm; clear f1_ f2_ f3_; subst f4_; subst f5_))
                          refine start_ (n := 9) (S := fun w' => w'.cell? ⟨gb214, 0, none⟩ = some (.bool t206) ∧ w'.cell? ⟨gb214, 1, none⟩ = some (.slice Ao12 t207.length co12) ∧ w'.cell? ⟨gb214, 2, none⟩ = some (.slice Ao13 t210.length co13) ∧ w'.cell? ⟨gb228, 0, none⟩ = some (.bool a0) ∧ w'.cell? ⟨gb228, 1, none⟩ = some (.slice A2 l2.length c2) ∧ w'.cell? ⟨gb228, 2, none⟩ = some (.slice Ao57 x229002_3.length co57)) (ds := []) #[false, false, false, false, false, false, false, false, false] (by kernel_rfl) rfl rfl ⟨(blk_cell BK214.out 0).trans rfl, (blk_cell BK214.out 1).trans rfl, (blk_cell BK214.out 2).trans rfl, (blk_cell BK228.out 0).trans rfl, (blk_cell BK228.out 1).trans rfl, (blk_cell BK228.out 2).trans rfl⟩ (fun hHeld => ?_); refine with_tabW laws_FnGenTree.tab16 laws_FnGenTree.bits16 (fun HT_ HW_ => ?_)
                          generalize wr.drew = w56 at HO_215001 HO_215002 HO_227001 HO_227002 HO_229002 BK214 BK226 BK228 HB hHeld ⊢
                          refine pure_ (i := 0) (N := some 83) (v := ?_) (a' := ?_) #[true, false, false, false, false, false, false, false, false] rfl rfl (any_of HT_.out (by kernel_rfl)) (fun _ _ _ h => h) (Or.inl ⟨by rfl, ?_⟩) ?_ ?_
                          rotate_left
                          · intro w'
                            go_simp
                            with_reducible rfl
                          rotate_left
                          · simp only [Act.put, List.setIfInBounds_toArray, List.set_cons_zero, List.set_cons_succ, i64_w, i32_w]
                            rfl
                          refine pure_ (i := 1) (N := some 84) (v := ?_) (a' := ?_) #[true, true, false, false, false, false, false, false, false] rfl rfl (any_of HT_.out (by kernel_rfl)) (fun _ _ _ h => h) (Or.inl ⟨by rfl, ?_⟩) ?_ ?_
                          rotate_left
                          · intro w'
                            go_simp
                            with_reducible rfl
                          rotate_left
                          · simp only [Act.put, List.setIfInBounds_toArray, List.set_cons_zero, List.set_cons_succ, i64_w, i32_w]
                            rfl
                          refine pure_ (i := 2) (N := some 85) (v := ?_) (a' := ?_) #[true, true, true, false, false, false, false, false, false] rfl rfl (any_of HT_.out (by kernel_rfl)) (fun _ _ _ h => h) (Or.inl ⟨by rfl, ?_⟩) ?_ ?_
                          rotate_left
                          · intro w'
                            go_simp
                            with_reducible rfl
                          rotate_left
                          · simp only [Act.put, List.setIfInBounds_toArray, List.set_cons_zero, List.set_cons_succ, i64_w, i32_w]
                            rfl
                          refine take_ (i := 3) (N := some 86) (v := ?_) (a' := ?_) #[true, true, true, true, false, false, false, false, false] rfl rfl (take_ofW HT_.out HW_.out (by kernel_rfl)) (fun _ _ _ h => h) (Or.inl ⟨by rfl, ?_⟩) hHeld ?_ ?_
                          rotate_left
                          · rintro w' ⟨s0, s1, s2, s3, s4, s5⟩
                            go_simp
                            with_reducible rfl
                          rotate_left
                          · simp only [Act.put, List.setIfInBounds_toArray, List.set_cons_zero, List.set_cons_succ, i64_w, i32_w]
                            rfl
                          refine take_ (i := 4) (N := some 87) (v := ?_) (a' := ?_) #[true, true, true, true, true, false, false, false, false] rfl rfl (take_ofW HT_.out HW_.out (by kernel_rfl)) (fun _ _ _ h => h) (Or.inl ⟨by rfl, ?_⟩) hHeld ?_ ?_
                          rotate_left
                          · rintro w' ⟨s0, s1, s2, s3, s4, s5⟩
                            go_simp
                            with_reducible rfl
                          rotate_left
                          · simp only [Act.put, List.setIfInBounds_toArray, List.set_cons_zero, List.set_cons_succ, i64_w, i32_w]
                            rfl
                          refine one_ (i := 5) (N := some 88) #[true, true, true, true, true, true, false, false, false] rfl rfl (one_of HT_.out (by kernel_rfl)) (by decide) (fun K hK => ?_)
                          refine goes_ Try.func7 (by kernel_rfl) rfl #[.agg #[.bool a0, .slice A2 l2.length c2, .slice Ao57 x229002_3.length co57]] (by rfl) rfl rfl (by (try simp only [List.map_toArray, List.map_cons, List.map_nil]); first | done | rfl | (simp only [List.length_drop, List.length_take]; rfl)) ?_
                          with_reducible refine (laws_plain.calls k3 a0 _ _ l2 _ _ x229002_3 t234 t235 t238 _ ?side1 ?side2 ?side3 ?side4 A54.out).mono ?_
                          (case side1 => repeat (first | exact (Kd.C_below HR2.out HB.out) | (with_reducible refine Kd.C_alloc ?_ _) | (with_reducible refine Kd.C_drewN ?_ _) | (with_reducible refine Kd.C_drew ?_)))
                          (case side2 => exact HC2.out)
                          (case side3 => repeat (first | exact (Kd.R_reads' HO_229002.out).2.2 | (with_reducible refine Kd.C_alloc ?_ _) | (with_reducible refine Kd.C_drewN ?_ _) | (with_reducible refine Kd.C_drew ?_)))
                          (case side4 => exact (Kd.R_reads' HO_229002.out).2.1)
                          rintro e w58 ⟨v236, v239, rfl, ho0, ho1, hb⟩
                          refine ⟨_, rfl, ?_⟩
                          have n0_ := Aside0.mk (Kd.R_elder' (by (with_reducible repeat (first | apply Kd.R_alloc | apply Kd.R_drewN | apply Kd.R_drew)); exact HO_215001.out) (Kd.R_base ho0) hb)
                          have n1_ := Aside0.mk (Kd.R_elder' (by (with_reducible repeat (first | apply Kd.R_alloc | apply Kd.R_drewN | apply Kd.R_drew)); exact HO_215002.out) (Kd.R_base ho1) hb)
                          have n2_ := Aside0.mk (Kd.R_elder' (by (with_reducible repeat (first | apply Kd.R_alloc | apply Kd.R_drewN | apply Kd.R_drew)); exact HO_227001.out) (Kd.R_base ho0) hb)
                          have n3_ := Aside0.mk (Kd.R_elder' (by (with_reducible repeat (first | apply Kd.R_alloc | apply Kd.R_drewN | apply Kd.R_drew)); exact HO_227002.out) (Kd.R_base ho1) hb)
                          have n4_ := Aside0.mk (Kd.R_elder' (by (with_reducible repeat (first | apply Kd.R_alloc | apply Kd.R_drewN | apply Kd.R_drew)); exact HO_229002.out) (Kd.R_base ho1) hb)
                          have n5_ := Aside0.mk (Kd.R_lower (Kd.R_new' (Kd.R_new' ho0 (Kd.R_lt (by (with_reducible repeat (first | apply Kd.R_alloc | apply Kd.R_drewN | apply Kd.R_drew)); exact HO_215001.out))) (Kd.R_lt (by (with_reducible repeat (first | apply Kd.R_alloc | apply Kd.R_drewN | apply Kd.R_drew)); exact HO_227001.out))) (below_size (by repeat (first | (with_reducible first | exact HB.out | apply below_alloc | apply pw_below_drewN | apply below_drew1 | refine below_set ?_ GE214.out | refine below_set ?_ GE226.out | refine below_set ?_ GE228.out) | exact HB.out))))
                          have n6_ := Aside0.mk (Kd.R_lower (Kd.R_new' (Kd.R_new' (Kd.R_new' ho1 (Kd.R_lt (by (with_reducible repeat (first | apply Kd.R_alloc | apply Kd.R_drewN | apply Kd.R_drew)); exact HO_215002.out))) (Kd.R_lt (by (with_reducible repeat (first | apply Kd.R_alloc | apply Kd.R_drewN | apply Kd.R_drew)); exact HO_227002.out))) (Kd.R_lt (by (with_reducible repeat (first | apply Kd.R_alloc | apply Kd.R_drewN | apply Kd.R_drew)); exact HO_229002.out))) (below_size (by repeat (first | (with_reducible first | exact HB.out | apply below_alloc | apply pw_below_drewN | apply below_drew1 | refine below_set ?_ GE214.out | refine below_set ?_ GE226.out | refine below_set ?_ GE228.out) | exact HB.out))))
                          have n7_ := Aside0.mk (blk_below (g := gb214) (o := .cells #[.bool t206, .slice Ao12 t207.length co12, .slice Ao13 t210.length co13] 25 (0, 0)) (by (with_reducible repeat (first | refine blk_drewN ?_ _ | refine blk_drew ?_ | refine blk_alloc ?_ _)); exact BK214.out) hb)
                          have n8_ := Aside0.mk (blk_below (g := gb226) (o := .cells #[.bool t218, .slice Ao21 t219.length co21, .slice Ao22 t222.length co22] 25 (0, 0)) (by (with_reducible repeat (first | refine blk_drewN ?_ _ | refine blk_drew ?_ | refine blk_alloc ?_ _)); exact BK226.out) hb)
                          have n9_ := Aside0.mk (blk_below (g := gb228) (o := .cells #[.bool a0, .slice A2 l2.length c2, .slice Ao57 x229002_3.length co57] 25 (0, 0)) (by (with_reducible repeat (first | refine blk_drewN ?_ _ | refine blk_drew ?_ | refine blk_alloc ?_ _)); exact BK228.out) hb)
                          have n10_ := Aside0.mk (below_step (by repeat (first | (with_reducible first | exact HB.out | apply below_alloc | apply pw_below_drewN | apply below_drew1 | refine below_set ?_ GE214.out | refine below_set ?_ GE226.out | refine below_set ?_ GE228.out) | exact HB.out)) hb)
                          clear HO_215001
                          clear HO_215002
                          clear HO_227001
                          clear HO_227002
                          clear HO_229002
                          clear BK214
                          clear BK226
                          clear BK228
                          clear HB
                          have HO_215001 := n0_
                          have HO_215002 := n1_
                          have HO_227001 := n2_
                          have HO_227002 := n3_
                          have HO_229002 := n4_
                          have HO237 := n5_
                          have HO240 := n6_
                          have BK214 := n7_
                          have BK226 := n8_
                          have BK228 := n9_
                          have HB := n10_
                          clear n0_ n1_ n2_ n3_ n4_ n5_ n6_ n7_ n8_ n9_ n10_
                          (try clear hb)
                          (try clear hb2)
                          (try clear hk)
                          (try clear hi)
                          (try clear ho0)
                          (try clear ho1)
                          obtain ⟨Ao59, co59, eo59⟩ := Kd.R_slice HO237.out
                          (first | subst eo59 | (injection eo59 with f1_ f2_ f3_; have f4_ := f1_.symm; have f5_ := f3_.symm; clear f1_ f2_ f3_; subst f4_; subst f5_))
                          obtain ⟨Ao60, co60, eo60⟩ := Kd.R_slice HO240.out
                          (first | subst eo60 | (injection eo60 with f1_ f2_ f3_; have f4_ := f1_.symm; have f5_ := f3_.symm; clear f1_ f2_ f3_; subst f4_; subst f5_))
                          refine hK.out _ _ ⟨(blk_cell BK214.out 0).trans rfl, (blk_cell BK214.out 1).trans rfl, (blk_cell BK214.out 2).trans rfl, (blk_cell BK228.out 0).trans rfl, (blk_cell BK228.out 1).trans rfl, (blk_cell BK228.out 2).trans rfl⟩ (fun hHeld => ?_)
                          clear hK K
                          refine norm_ (a' := ?_) ?_ ?_
                          rotate_left
                          · show Act.put _ (some 88) _ = _
                            simp only [Act.put, List.setIfInBounds_toArray, List.set_cons_zero, List.set_cons_succ, i64_w, i32_w]
                            rfl
                          refine one_ (i := 6) (N := some 89) #[true, true, true, true, true, true, true, false, false] rfl rfl (one_of HT_.out (by kernel_rfl)) (by decide) (fun K hK => ?_)
                          refine goes_ Try.func6 (by kernel_rfl) rfl #[.agg #[.bool t206, .slice Ao12 t207.length co12, .slice Ao13 t210.length co13], .agg #[.bool t234, .slice Ao59 t235.length co59, .slice Ao60 t238.length co60]] (by rfl) rfl rfl (by (try simp only [List.map_toArray, List.map_cons, List.map_nil]); first | done | rfl | (simp only [List.length_drop, List.length_take]; rfl)) ?_
                          with_reducible refine (laws_sameGraph.calls k3 t206 _ _ t207 _ _ t210 t234 _ _ t235 _ _ t238 t241 _ ?side1 ?side2 ?side3 ?side4 ?side5 ?side6 ?side7 ?side8 A55.out).mono ?_
                          (case side1 => repeat (first | exact (Kd.R_reads' HO_215001.out).2.2 | (with_reducible refine Kd.C_alloc ?_ _) | (with_reducible refine Kd.C_drewN ?_ _) | (with_reducible refine Kd.C_drew ?_)))
                          (case side2 => exact (Kd.R_reads' HO_215001.out).2.1)
                          (case side3 => repeat (first | exact (Kd.R_reads' HO_215002.out).2.2 | (with_reducible refine Kd.C_alloc ?_ _) | (with_reducible refine Kd.C_drewN ?_ _) | (with_reducible refine Kd.C_drew ?_)))
                          (case side4 => exact (Kd.R_reads' HO_215002.out).2.1)
                          (case side5 => repeat (first | exact (Kd.R_reads' HO237.out).2.2 | (with_reducible refine Kd.C_alloc ?_ _) | (with_reducible refine Kd.C_drewN ?_ _) | (with_reducible refine Kd.C_drew ?_)))
                          (case side6 => exact (Kd.R_reads' HO237.out).2.1)
                          (case side7 => repeat (first | exact (Kd.R_reads' HO240.out).2.2 | (with_reducible refine Kd.C_alloc ?_ _) | (with_reducible refine Kd.C_drewN ?_ _) | (with_reducible refine Kd.C_drew ?_)))
                          (case side8 => exact (Kd.R_reads' HO240.out).2.1)
                          rintro e w61 ⟨rfl, hb⟩
                          refine ⟨_, rfl, ?_⟩
                          have n0_ := Aside0.mk (Kd.R_below (by (with_reducible repeat (first | apply Kd.R_alloc | apply Kd.R_drewN | apply Kd.R_drew)); exact HO_215001.out) hb)
                          have n1_ := Aside0.mk (Kd.R_below (by (with_reducible repeat (first | apply Kd.R_alloc | apply Kd.R_drewN | apply Kd.R_drew)); exact HO_215002.out) hb)
                          have n2_ := Aside0.mk (Kd.R_below (by (with_reducible repeat (first | apply Kd.R_alloc | apply Kd.R_drewN | apply Kd.R_drew)); exact HO_227001.out) hb)
                          have n3_ := Aside0.mk (Kd.R_below (by (with_reducible repeat (first | apply Kd.R_alloc | apply Kd.R_drewN | apply Kd.R_drew)); exact HO_227002.out) hb)
                          have n4_ := Aside0.mk (Kd.R_below (by (with_reducible repeat (first | apply Kd.R_alloc | apply Kd.R_drewN | apply Kd.R_drew)); exact HO_229002.out) hb)
                          have n5_ := Aside0.mk (Kd.R_below (by (with_reducible repeat (first | apply Kd.R_alloc | apply Kd.R_drewN | apply Kd.R_drew)); exact HO237.out) hb)
                          have n6_ := Aside0.mk (Kd.R_below (by (with_reducible repeat (first | apply Kd.R_alloc | apply Kd.R_drewN | apply Kd.R_drew)); exact HO240.out) hb)
                          have n7_ := Aside0.mk (blk_below (g := gb214) (o := .cells #[.bool t206, .slice Ao12 t207.length co12, .slice Ao13 t210.length co13] 25 (0, 0)) (by (with_reducible repeat (first | refine blk_drewN ?_ _ | refine blk_drew ?_ | refine blk_alloc ?_ _)); exact BK214.out) hb)
                          have n8_ := Aside0.mk (blk_below (g := gb226) (o := .cells #[.bool t218, .slice Ao21 t219.length co21, .slice Ao22 t222.length co22] 25 (0, 0)) (by (with_reducible repeat (first | refine blk_drewN ?_ _ | refine blk_drew ?_ | refine blk_alloc ?_ _)); exact BK226.out) hb)
                          have n9_ := Aside0.mk (blk_below (g := gb228) (o := .cells #[.bool a0, .slice A2 l2.length c2, .slice Ao57 x229002_3.length co57] 25 (0, 0)) (by (with_reducible repeat (first | refine blk_drewN ?_ _ | refine blk_drew ?_ | refine blk_alloc ?_ _)); exact BK228.out) hb)
                          have n10_ := Aside0.mk (below_step (by repeat (first | (with_reducible first | exact HB.out | apply below_alloc | apply pw_below_drewN | apply below_drew1 | refine below_set ?_ GE214.out | refine below_set ?_ GE226.out | refine below_set ?_ GE228.out) | exact HB.out)) hb)
                          clear HO_215001
                          clear HO_215002
                          clear HO_227001
                          clear HO_227002
                          clear HO_229002
                          clear HO237
                          clear HO240
                          clear BK214
                          clear BK226
                          clear BK228
                          clear HB
                          have HO_215001 := n0_
                          have HO_215002 := n1_
                          have HO_227001 := n2_
                          have HO_227002 := n3_
                          have HO_229002 := n4_
                          have HO237 := n5_
                          have HO240 := n6_
                          have BK214 := n7_
                          have BK226 := n8_
                          have BK228 := n9_
                          have HB := n10_
                          clear n0_ n1_ n2_ n3_ n4_ n5_ n6_ n7_ n8_ n9_ n10_
                          (try clear hb)
                          (try clear hb2)
                          (try clear hk)
                          (try clear hi)
                          refine hK.out _ _ ⟨(blk_cell BK214.out 0).trans rfl, (blk_cell BK214.out 1).trans rfl, (blk_cell BK214.out 2).trans rfl, (blk_cell BK228.out 0).trans rfl, (blk_cell BK228.out 1).trans rfl, (blk_cell BK228.out 2).trans rfl⟩ (fun hHeld => ?_)
                          clear hK K
                          refine norm_ (a' := ?_) ?_ ?_
                          rotate_left
                          · show Act.put _ (some 89) _ = _
                            simp only [Act.put, List.setIfInBounds_toArray, List.set_cons_zero, List.set_cons_succ, i64_w, i32_w]
                            rfl
                          refine pure_ (i := 7) (N := some 90) (v := ?_) (a' := ?_) #[true, true, true, true, true, true, true, true, false] rfl rfl (any_of HT_.out (by kernel_rfl)) (fun _ _ _ h => h) (Or.inl ⟨by rfl, ?_⟩) ?_ ?_
                          rotate_left
                          · intro w'
                            go_simp
                            with_reducible rfl
                          rotate_left
                          · simp only [Act.put, List.setIfInBounds_toArray, List.set_cons_zero, List.set_cons_succ, i64_w, i32_w]
                            rfl
                          refine pure_ (i := 8) (N := some 6) (v := ?_) (a' := ?_) #[true, true, true, true, true, true, true, true, true] rfl rfl (any_of HT_.out (by kernel_rfl)) (fun _ _ _ h => h) (Or.inl ⟨by rfl, ?_⟩) ?_ ?_
                          rotate_left
                          · intro w'
                            go_simp
                            with_reducible rfl
                          rotate_left
                          · simp only [Act.put, List.setIfInBounds_toArray, List.set_cons_zero, List.set_cons_succ, i64_w, i32_w]
                            rfl
                          refine done_ (done_of HT_.out (by kernel_rfl)) ?_
                          try go_wp2
                          go_ret
                          exact ⟨by first | rfl | (simp [errW_none, errW_some] <;> rfl) | (simp [*, errW_none, errW_some] <;> rfl), by repeat (first | (with_reducible first | exact HB.out | apply below_alloc | apply pw_below_drewN | apply below_drew1 | refine below_set ?_ GE214.out | refine below_set ?_ GE226.out | refine below_set ?_ GE228.out) | exact HB.out)⟩

/-- THE ONE PURE STATEMENT of laws_FnGenTree: yours. -/
def laws_FnGenTree.Pure : Prop := ∀ (a0 : Bool) (a1 : Int) (l2 : List Int), (Lit.int .i64 a1).wf = true → l2.length ≤ maxLen → l2.length * 8 ≤ 140737488351232 → (∀ x ∈ l2, (Lit.int .i64 x).wf = true) → ∃ k, laws_FnGenTree.f k a0 a1 l2 = some true
theorem laws_FnGenTree.walk (P : laws_FnGenTree.Pure) (a0 : Bool) (a1 : Int) (a2 : Option Addr) (len2 cap2 : Nat) (z2 : List Int) (w : World) (w1 : (Lit.int .i64 a1).wf = true) (w2 : (a2 = none ∧ len2 = 0 ∧ cap2 = 0 ∧ z2 = []) ∨ ∃ x, a2 = some x ∧ len2 ≤ cap2 ∧ cap2 ≤ maxLen ∧ z2.length = cap2 ∧ (∀ i, i < z2.length → w.cell? (x.add i) = some (.int .i64 (z2.getD i 0))) ∧ ∀ n ∈ z2, (Lit.int .i64 n).wf = true) (y2 : len2 * 8 ≤ 140737488351232) :
    Calls Try.prog 3 #[.bool a0, .int .i64 a1, .slice a2 len2 cap2] w fun e w' => e = .returned (.bool true) ∧ Below w.heap.size w w' := by
  obtain ⟨l2, rfl, hr2, hm2, hw2, hc2⟩ := ReadsInt.ofRowC w2
  obtain ⟨k, h⟩ := P a0 a1 l2 w1 hm2 y2 hw2
  refine (laws_FnGenTree.calls k a0 a1 _ _ l2 true w (Kd.C_of_reads (d := (0 : Int)) (h1 := fun _ => rfl) hr2) hc2 h).mono ?_
  rintro e w' ⟨rfl, hd⟩
  exact ⟨rfl, hd⟩

end Go.Proofs.Ytgiebjihceggjaa.PFnGenTree
