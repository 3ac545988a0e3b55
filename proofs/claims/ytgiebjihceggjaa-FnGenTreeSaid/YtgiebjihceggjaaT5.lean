/- Printed by a program (the kit's printer, run over contracts that were proved by hand). -/
import Derived.Test.YtgiebjihceggjaaT0
import Derived.Test.YtgiebjihceggjaaV3
namespace Go.Proofs.Ytgiebjihceggjaa.PFnGenTree
open Go.RowKit Go.Proofs.YtgiebjihceggjaaW.PrintWords Go.Proofs.YtgiebjihceggjaaW.PrintLast Go.Proofs.YtgiebjihceggjaaW.PrintMore
attribute [local go_sem] max2_int min2_int max_two min_two max_three min_three max_four min_four   -- for this text's walks alone
set_option linter.unusedVariables false
set_option linter.unusedSimpArgs false

/-! ### laws_plain: function 7 -/
mutual
def laws_plain.l0 : Nat → Int → Bool → List Int → List (S30) → List Int → List (List Bool) → List (List Int) → Bool → List Int → List (S30) → Option (Bool × List Int × (List (S30)))
  | 0, _, _, _, _, _, _, _, _, _, _ => none
  | k + 1, x5, x178000, x178001, x178002, x189000, x189001, x189002, x190000, x190001, x190002 => if x5 < (x189000.length : Int) then (laws_plain.l1 k x5 0 x178000 x178001 x178002 x189000 x189001 x189002 x190000 x190001 x190002) else (some (x190000, x190001, x190002))
def laws_plain.l1 : Nat → Int → Int → Bool → List Int → List (S30) → List Int → List (List Bool) → List (List Int) → Bool → List Int → List (S30) → Option (Bool × List Int × (List (S30)))
  | 0, _, _, _, _, _, _, _, _, _, _, _ => none
  | k + 1, x5, x6, x178000, x178001, x178002, x189000, x189001, x189002, x190000, x190001, x190002 => if x6 < (x189000.length : Int) then (if 0 ≤ x5 then (if x5 < (x189001.length : Int) then (if 0 ≤ x6 then (if x6 < ((rd_L3 x189001 x5).length : Int) then (if rdOf false (rd_L3 x189001 x5) x6 = true then (if x178000 = true then (if x5 < (x189000.length : Int) then (if x5 < (x189002.length : Int) then (if x6 < ((rd_L4 x189002 x5).length : Int) then (if x190002.length < 5864062014805 then (laws_plain.l1 k x5 (wrap64 (x6 + 1)) x178000 x178001 x178002 x189000 x189001 x189002 x190000 x190001 (x190002 ++ [(⟨rd x189000 x5, rd x189000 x6, rd (rd_L4 x189002 x5) x6⟩ : S30)])) else (none)) else (none)) else (none)) else (none)) else (if x5 < x6 then (if x5 < (x189000.length : Int) then (if x5 < (x189002.length : Int) then (if x6 < ((rd_L4 x189002 x5).length : Int) then (if x190002.length < 5864062014805 then (laws_plain.l1 k x5 (wrap64 (x6 + 1)) x178000 x178001 x178002 x189000 x189001 x189002 x190000 x190001 (x190002 ++ [(⟨rd x189000 x5, rd x189000 x6, rd (rd_L4 x189002 x5) x6⟩ : S30)])) else (none)) else (none)) else (none)) else (none)) else (laws_plain.l1 k x5 (wrap64 (x6 + 1)) x178000 x178001 x178002 x189000 x189001 x189002 x190000 x190001 x190002))) else (laws_plain.l1 k x5 (wrap64 (x6 + 1)) x178000 x178001 x178002 x189000 x189001 x189002 x190000 x190001 x190002)) else (none)) else (none)) else (none)) else (none)) else (laws_plain.l0 k (wrap64 (x5 + 1)) x178000 x178001 x178002 x189000 x189001 x189002 x190000 x190001 x190002)
end
def laws_plain.f (k : Nat) (a0_0 : Bool) (l0_1 : List Int) (l0_2 : List (S30)) : Option (Bool × List Int × (List (S30))) := (laws_tableOf.f a0_0 l0_1 l0_2).bind fun bt179 => (laws_plain.l0 k 0 a0_0 l0_1 l0_2 bt179.1 bt179.2.1 bt179.2.2 a0_0 bt179.1 ([] : List (S30)))
theorem laws_plain.mono_l : ∀ k, (∀ y0 y1 y2 y3 y4 y5 y6 y7 y8 y9, LeO (laws_plain.l0 k y0 y1 y2 y3 y4 y5 y6 y7 y8 y9) (laws_plain.l0 (k + 1) y0 y1 y2 y3 y4 y5 y6 y7 y8 y9)) ∧ (∀ y0 y1 y2 y3 y4 y5 y6 y7 y8 y9 y10, LeO (laws_plain.l1 k y0 y1 y2 y3 y4 y5 y6 y7 y8 y9 y10) (laws_plain.l1 (k + 1) y0 y1 y2 y3 y4 y5 y6 y7 y8 y9 y10))
  | 0 => ⟨fun _ _ _ _ _ _ _ _ _ _ r h => by simp [laws_plain.l0] at h, fun _ _ _ _ _ _ _ _ _ _ _ r h => by simp [laws_plain.l1] at h⟩
  | k + 1 => by
    obtain ⟨ih0, ih1⟩ := laws_plain.mono_l k
    refine ⟨?_, ?_⟩
    · intro y0 y1 y2 y3 y4 y5 y6 y7 y8 y9
      unfold laws_plain.l0
      repeat' first
      | (with_reducible exact ih0 _ _ _ _ _ _ _ _ _ _)
      | (with_reducible exact ih1 _ _ _ _ _ _ _ _ _ _ _)
      | (with_reducible exact LeO.refl _)
      | (with_reducible exact LeO.none _)
      | (with_reducible refine LeO.ite ?_ ?_)
      | (with_reducible refine LeO.bind ?_ (fun _ => ?_))
      | exact ih0 _ _ _ _ _ _ _ _ _ _
      | exact ih1 _ _ _ _ _ _ _ _ _ _ _
      | exact LeO.none _
      | refine LeO.ite ?_ ?_
      | refine LeO.bind ?_ (fun _ => ?_)
    · intro y0 y1 y2 y3 y4 y5 y6 y7 y8 y9 y10
      unfold laws_plain.l1
      repeat' first
      | (with_reducible exact ih0 _ _ _ _ _ _ _ _ _ _)
      | (with_reducible exact ih1 _ _ _ _ _ _ _ _ _ _ _)
      | (with_reducible exact LeO.refl _)
      | (with_reducible exact LeO.none _)
      | (with_reducible refine LeO.ite ?_ ?_)
      | (with_reducible refine LeO.bind ?_ (fun _ => ?_))
      | exact ih0 _ _ _ _ _ _ _ _ _ _
      | exact ih1 _ _ _ _ _ _ _ _ _ _ _
      | exact LeO.none _
      | refine LeO.ite ?_ ?_
      | refine LeO.bind ?_ (fun _ => ?_)
theorem laws_plain.mono : ∀ a0 a1 a2 k, LeO (laws_plain.f k a0 a1 a2) (laws_plain.f (k + 1) a0 a1 a2) := by
  intro a0 a1 a2 k
  obtain ⟨ih0, ih1⟩ := laws_plain.mono_l k
  unfold laws_plain.f
  repeat' first
      | (with_reducible exact ih0 _ _ _ _ _ _ _ _ _ _)
      | (with_reducible exact ih1 _ _ _ _ _ _ _ _ _ _ _)
      | (with_reducible exact LeO.refl _)
      | (with_reducible exact LeO.none _)
      | (with_reducible refine LeO.ite ?_ ?_)
      | (with_reducible refine LeO.bind ?_ (fun _ => ?_))
      | exact ih0 _ _ _ _ _ _ _ _ _ _
      | exact ih1 _ _ _ _ _ _ _ _ _ _ _
      | exact LeO.none _
      | refine LeO.ite ?_ ?_
      | refine LeO.bind ?_ (fun _ => ?_)
def laws_plain.T10 : Bool × List (List Nat × List Nat) := (true, [([], []), ([0], [0]), ([], []), ([2], [2]), ([], []), ([3, 4], [3, 4]), ([5], [5]), ([], []), ([7], [7]), ([], []), ([8, 9], [8, 9]), ([10], [10]), ([], []), ([12], [12]), ([], []), ([13, 14], [13, 14]), ([15], [15]), ([], []), ([16, 17], [16, 17]), ([18], [18]), ([6, 11, 19], [6, 11, 19]), ([20], [20]), ([1, 21], [1, 21]), ([0, 1, 2, 3, 4, 5, 6, 7, 8, 9, 10, 11, 12, 13, 14, 15, 16, 17, 18, 19, 20, 21, 22], []), ([23, 22, 22, 0, 1, 2, 3, 4, 5, 6, 7, 8, 9, 10, 11, 12, 13, 14, 15, 16, 17, 18, 19, 20, 21, 22], [22, 23])])
def laws_plain.B10 : List Nat := [0, 1, 0, 4, 0, 28, 60, 0, 128, 0, 896, 1920, 0, 4096, 0, 28672, 61440, 0, 258048, 520192, 1048572, 2097148, 4194303, 8388607, 16777215]
theorem laws_plain.tab10 : rtab .any (opsOf Try.f7 10) = laws_plain.T10 := by kernel_rfl
theorem laws_plain.bits10 : waitsOk laws_plain.T10.2 laws_plain.B10 = true := by kernel_rfl
set_option maxHeartbeats 8000000 in
set_option maxRecDepth 100000 in
theorem laws_plain.calls (k : Nat) (a0_0 : Bool) (A0_1 : Option Addr) (c0_1 : Nat) (l0_1 : List Int) (A0_2 : Option Addr) (c0_2 : Nat) (l0_2 : List (S30)) (r1 : Bool) (r2 : List Int) (r3 : List (S30)) (w : World) (hr0_1 : Kd.C (Kd.int .i64) w A0_1 l0_1.length l0_1) (hc0_1 : l0_1.length ≤ c0_1) (hr0_2 : Kd.C k30 w A0_2 l0_2.length l0_2) (hc0_2 : l0_2.length ≤ c0_2) (h : laws_plain.f k a0_0 l0_1 l0_2 = some (r1, r2, r3)) :
    Calls Try.prog 7 #[.agg #[.bool a0_0, .slice A0_1 l0_1.length c0_1, .slice A0_2 l0_2.length c0_2]] w fun e w' => ∃ v1_ v2_ : Value, e = .returned (.agg #[.bool r1, v1_, v2_]) ∧ Kd.R (Kd.int .i64) 3 w' w.heap.size (fun _ => True) v1_ r2 ∧ Kd.R k30 30 w' w.heap.size (fun _ => True) v2_ r3 ∧ Below w.heap.size w w' := by
  have hu25 := Try.underlying25
  have hu51 := Try.underlying51
  have hu30 := Try.underlying30
  have HR0_1 := Aside0.mk hr0_1
  have HC0_1 := Aside0.mk hc0_1
  clear hr0_1 hc0_1
  have HR0_2 := Aside0.mk hr0_2
  have HC0_2 := Aside0.mk hc0_2
  clear hr0_2 hc0_2
  have HB := Aside0.mk (Below.refl w.heap.size w)
  have H : ((laws_tableOf.f a0_0 l0_1 l0_2).bind fun bt179 => (laws_plain.l0 k 0 a0_0 l0_1 l0_2 bt179.1 bt179.2.1 bt179.2.2 a0_0 bt179.1 ([] : List (S30)))) = some (r1, r2, r3) := h
  clear h
  replace H := Option.bind_eq_some_iff.mp H
  obtain ⟨⟨t179, t182, t185⟩, A20, H⟩ := H
  replace H : (laws_plain.l0 k 0 a0_0 l0_1 l0_2 t179 t182 t185 a0_0 t179 ([] : List (S30))) = some (r1, r2, r3) := H
  have A2 := Aside0.mk A20
  clear A20
  have H' := Aside0.mk H
  clear H
  go_enter Try.func7, Try.ntmps7
  go_wp2_with (first | ((with_reducible refine gate_dst (N := 1) rfl ?_); refine box_event ?hg (N := 1) ?hd (cs := #[.bool a0_0, .slice A0_1 l0_1.length c0_1, .slice A0_2 l0_2.length c0_2]) (t := 25) ?hr ?_; (case hd => rfl); (case hg => rfl); (case hr => first | (go_simp; done) | (go_simp; rfl)); intro gb177 hg w3 hbox hb; have n0_ := Aside0.mk (below_step (by repeat (first | (with_reducible first | exact HB.out | apply below_alloc | apply pw_below_drewN | apply below_drew1) | exact HB.out)) hb); have n1_ := Aside0.mk (hbox); have n2_ := Aside0.mk ((by rw [hg]; exact (below_size (by repeat (first | (with_reducible first | exact HB.out | apply below_alloc | apply pw_below_drewN | apply below_drew1) | exact HB.out))) : w.heap.size ≤ gb177)); have n3_ := Aside0.mk ((by rw [hg]; exact (below_size (by repeat (first | (with_reducible first | exact HB.out | apply below_alloc | apply pw_below_drewN | apply below_drew1) | exact HB.out))) : w.heap.size ≤ gb177)); clear HB; have HB := n0_; have BK177 := n1_; have GW177 := n2_; have GE177 := n3_; clear n0_ n1_ n2_ n3_; clear hb hbox hg) | ((with_reducible refine gate_dst (N := 2) rfl ?_); refine box_event ?hg (N := 2) ?hd (cs := #[.bool false, .slice none 0 0, .slice none 0 0]) (t := 25) ?hr ?_; (case hd => rfl); (case hg => rfl); (case hr => first | (go_simp; done) | (go_simp; rfl)); intro gb178 hg w4 hbox hb; have n0_ := Aside0.mk (blk_below (g := gb177) (o := .cells #[.bool a0_0, .slice A0_1 l0_1.length c0_1, .slice A0_2 l0_2.length c0_2] 25 (0, 0)) (by (with_reducible repeat (first | refine blk_drewN ?_ _ | refine blk_drew ?_ | refine blk_alloc ?_ _)); exact BK177.out) hb); have n1_ := Aside0.mk (below_step (by repeat (first | (with_reducible first | exact HB.out | apply below_alloc | apply pw_below_drewN | apply below_drew1 | refine below_set ?_ GE177.out) | exact HB.out)) hb); have n2_ := Aside0.mk (hbox); have n3_ := Aside0.mk ((by rw [hg]; exact (below_size (by repeat (first | (with_reducible first | exact HB.out | apply below_alloc | apply pw_below_drewN | apply below_drew1 | refine below_set ?_ GE177.out) | exact HB.out))) : w.heap.size ≤ gb178)); have n4_ := Aside0.mk ((by rw [hg]; exact (below_size (by repeat (first | (with_reducible first | exact HB.out | apply below_alloc | apply pw_below_drewN | apply below_drew1 | refine below_set ?_ GE177.out) | exact HB.out))) : w.heap.size ≤ gb178)); have n5_ := Aside0.mk ((by rw [hg]; exact Nat.ne_of_lt (blk_lt (g := gb177) (o := .cells #[.bool a0_0, .slice A0_1 l0_1.length c0_1, .slice A0_2 l0_2.length c0_2] 25 (0, 0)) (by (with_reducible repeat (first | refine blk_drewN ?_ _ | refine blk_drew ?_ | refine blk_alloc ?_ _)); exact BK177.out)) : gb177 ≠ gb178)); have n6_ := Aside0.mk ((by rw [hg]; exact Nat.ne_of_gt (blk_lt (g := gb177) (o := .cells #[.bool a0_0, .slice A0_1 l0_1.length c0_1, .slice A0_2 l0_2.length c0_2] 25 (0, 0)) (by (with_reducible repeat (first | refine blk_drewN ?_ _ | refine blk_drew ?_ | refine blk_alloc ?_ _)); exact BK177.out)) : gb178 ≠ gb177)); clear BK177; clear HB; have BK177 := n0_; have HB := n1_; have BK178 := n2_; have GW178 := n3_; have GE178 := n4_; have NB177_178 := n5_; have NB178_177 := n6_; clear n0_ n1_ n2_ n3_ n4_ n5_ n6_; clear hb hbox hg; have hnb5 := NB177_178.out; have hnc5 := NB178_177.out; have hcz6_0 : w4.cell? ⟨gb177, 0, none⟩ = some (.bool a0_0) := (blk_cell BK177.out 0).trans rfl; have hcz6_1 : w4.cell? ⟨gb177, 1, none⟩ = some (.slice A0_1 l0_1.length c0_1) := (blk_cell BK177.out 1).trans rfl; have hcz6_2 : w4.cell? ⟨gb177, 2, none⟩ = some (.slice A0_2 l0_2.length c0_2) := (blk_cell BK177.out 2).trans rfl; have hfz6_0 := blk_frozen BK177.out 0; have hfz6_1 := blk_frozen BK177.out 1; have hfz6_2 := blk_frozen BK177.out 2) | ((with_reducible refine gate_callee (f := 16) rfl ?_); refine goesL_ (some 8) rfl rfl Try.func16 (by kernel_rfl) rfl #[.agg #[.bool a0_0, .slice A0_1 l0_1.length c0_1, .slice A0_2 l0_2.length c0_2]] rfl (by (try simp only [List.map_toArray, List.map_cons, List.map_nil]); first | done | rfl | (simp only [List.length_drop, List.length_take]; rfl)) ?_; (with_reducible refine (laws_tableOf.calls a0_0 _ _ l0_1 _ _ l0_2 t179 t182 t185 _ ?side1 ?side2 ?side3 ?side4 A2.out).mono ?_); (case side1 => repeat (first | exact (Kd.C_below HR0_1.out HB.out) | (with_reducible refine Kd.C_alloc ?_ _) | (with_reducible refine Kd.C_drewN ?_ _) | (with_reducible refine Kd.C_drew ?_))); (case side2 => exact HC0_1.out); (case side3 => repeat (first | exact (Kd.C_below HR0_2.out HB.out) | (with_reducible refine Kd.C_alloc ?_ _) | (with_reducible refine Kd.C_drewN ?_ _) | (with_reducible refine Kd.C_drew ?_))); (case side4 => exact HC0_2.out); rintro e w7 ⟨v180, v183, v186, rfl, ho0, ho1, ho2, hb⟩; refine ⟨_, rfl, ?_⟩; have n0_ := Aside0.mk (Kd.R_lower ho0 (below_size (by repeat (first | (with_reducible first | exact HB.out | apply below_alloc | apply pw_below_drewN | apply below_drew1 | refine below_set ?_ GE177.out | refine below_set ?_ GE178.out) | exact HB.out)))); have n1_ := Aside0.mk (Kd.S_lower ho1 (below_size (by repeat (first | (with_reducible first | exact HB.out | apply below_alloc | apply pw_below_drewN | apply below_drew1 | refine below_set ?_ GE177.out | refine below_set ?_ GE178.out) | exact HB.out)))); have n2_ := Aside0.mk (Kd.S_lower ho2 (below_size (by repeat (first | (with_reducible first | exact HB.out | apply below_alloc | apply pw_below_drewN | apply below_drew1 | refine below_set ?_ GE177.out | refine below_set ?_ GE178.out) | exact HB.out)))); have n3_ := Aside0.mk (blk_below (g := gb177) (o := .cells #[.bool a0_0, .slice A0_1 l0_1.length c0_1, .slice A0_2 l0_2.length c0_2] 25 (0, 0)) (by (with_reducible repeat (first | refine blk_drewN ?_ _ | refine blk_drew ?_ | refine blk_alloc ?_ _)); exact BK177.out) hb); have n4_ := Aside0.mk (blk_below (g := gb178) (o := .cells #[.bool false, .slice none 0 0, .slice none 0 0] 25 (0, 0)) (by (with_reducible repeat (first | refine blk_drewN ?_ _ | refine blk_drew ?_ | refine blk_alloc ?_ _)); exact BK178.out) hb); have n5_ := Aside0.mk (below_step (by repeat (first | (with_reducible first | exact HB.out | apply below_alloc | apply pw_below_drewN | apply below_drew1 | refine below_set ?_ GE177.out | refine below_set ?_ GE178.out) | exact HB.out)) hb); clear BK177; clear BK178; clear HB; have HO181 := n0_; have HO184 := n1_; have HO187 := n2_; have BK177 := n3_; have BK178 := n4_; have HB := n5_; clear n0_ n1_ n2_ n3_ n4_ n5_; (try clear hb); (try clear hb2); (try clear hk); (try clear hi); (try clear ho0); (try clear ho1); (try clear ho2)) | ((with_reducible refine gate_dst (N := 3) rfl ?_); refine box_event ?hg (N := 3) ?hd (cs := #[.slice none 0 0, .slice none 0 0, .slice none 0 0]) (t := 51) ?hr ?_; (case hd => rfl); (case hg => rfl); (case hr => first | (go_simp; done) | (go_simp; rfl)); intro gb188 hg w8 hbox hb; have n0_ := Aside0.mk (Kd.R_below (by (with_reducible repeat (first | apply Kd.R_alloc | apply Kd.R_drewN | apply Kd.R_drew)); exact HO181.out) hb); have n1_ := Aside0.mk (Kd.S_below (by (with_reducible repeat (first | apply Kd.S_alloc | apply Kd.S_drewN | apply Kd.S_drew)); exact HO184.out) hb); have n2_ := Aside0.mk (Kd.S_below (by (with_reducible repeat (first | apply Kd.S_alloc | apply Kd.S_drewN | apply Kd.S_drew)); exact HO187.out) hb); have n3_ := Aside0.mk (blk_below (g := gb177) (o := .cells #[.bool a0_0, .slice A0_1 l0_1.length c0_1, .slice A0_2 l0_2.length c0_2] 25 (0, 0)) (by (with_reducible repeat (first | refine blk_drewN ?_ _ | refine blk_drew ?_ | refine blk_alloc ?_ _)); exact BK177.out) hb); have n4_ := Aside0.mk (blk_below (g := gb178) (o := .cells #[.bool false, .slice none 0 0, .slice none 0 0] 25 (0, 0)) (by (with_reducible repeat (first | refine blk_drewN ?_ _ | refine blk_drew ?_ | refine blk_alloc ?_ _)); exact BK178.out) hb); have n5_ := Aside0.mk (below_step (by repeat (first | (with_reducible first | exact HB.out | apply below_alloc | apply pw_below_drewN | apply below_drew1 | refine below_set ?_ GE177.out | refine below_set ?_ GE178.out) | exact HB.out)) hb); have n6_ := Aside0.mk (hbox); have n7_ := Aside0.mk ((by rw [hg]; exact (below_size (by repeat (first | (with_reducible first | exact HB.out | apply below_alloc | apply pw_below_drewN | apply below_drew1 | refine below_set ?_ GE177.out | refine below_set ?_ GE178.out) | exact HB.out))) : w.heap.size ≤ gb188)); have n8_ := Aside0.mk ((by rw [hg]; exact (below_size (by repeat (first | (with_reducible first | exact HB.out | apply below_alloc | apply pw_below_drewN | apply below_drew1 | refine below_set ?_ GE177.out | refine below_set ?_ GE178.out) | exact HB.out))) : w.heap.size ≤ gb188)); have n9_ := Aside0.mk ((by rw [hg]; exact Nat.ne_of_lt (blk_lt (g := gb177) (o := .cells #[.bool a0_0, .slice A0_1 l0_1.length c0_1, .slice A0_2 l0_2.length c0_2] 25 (0, 0)) (by (with_reducible repeat (first | refine blk_drewN ?_ _ | refine blk_drew ?_ | refine blk_alloc ?_ _)); exact BK177.out)) : gb177 ≠ gb188)); have n10_ := Aside0.mk ((by rw [hg]; exact Nat.ne_of_gt (blk_lt (g := gb177) (o := .cells #[.bool a0_0, .slice A0_1 l0_1.length c0_1, .slice A0_2 l0_2.length c0_2] 25 (0, 0)) (by (with_reducible repeat (first | refine blk_drewN ?_ _ | refine blk_drew ?_ | refine blk_alloc ?_ _)); exact BK177.out)) : gb188 ≠ gb177)); have n11_ := Aside0.mk ((by rw [hg]; exact Nat.ne_of_lt (blk_lt (g := gb178) (o := .cells #[.bool false, .slice none 0 0, .slice none 0 0] 25 (0, 0)) (by (with_reducible repeat (first | refine blk_drewN ?_ _ | refine blk_drew ?_ | refine blk_alloc ?_ _)); exact BK178.out)) : gb178 ≠ gb188)); have n12_ := Aside0.mk ((by rw [hg]; exact Nat.ne_of_gt (blk_lt (g := gb178) (o := .cells #[.bool false, .slice none 0 0, .slice none 0 0] 25 (0, 0)) (by (with_reducible repeat (first | refine blk_drewN ?_ _ | refine blk_drew ?_ | refine blk_alloc ?_ _)); exact BK178.out)) : gb188 ≠ gb178)); clear HO181; clear HO184; clear HO187; clear BK177; clear BK178; clear HB; have HO181 := n0_; have HO184 := n1_; have HO187 := n2_; have BK177 := n3_; have BK178 := n4_; have HB := n5_; have BK188 := n6_; have GW188 := n7_; have GE188 := n8_; have NB177_188 := n9_; have NB188_177 := n10_; have NB178_188 := n11_; have NB188_178 := n12_; clear n0_ n1_ n2_ n3_ n4_ n5_ n6_ n7_ n8_ n9_ n10_ n11_ n12_; clear hb hbox hg; obtain ⟨Ao9, co9, eo9⟩ := Kd.R_slice HO181.out; subst eo9; have hnb10 := NB188_177.out; have hnc10 := NB177_188.out; have hnb11 := NB188_178.out; have hnc11 := NB178_188.out; have hcz12_0 : w8.cell? ⟨gb188, 0, none⟩ = some (.slice none 0 0) := (blk_cell BK188.out 0).trans rfl; have hcz12_1 : w8.cell? ⟨gb188, 1, none⟩ = some (.slice none 0 0) := (blk_cell BK188.out 1).trans rfl; have hcz12_2 : w8.cell? ⟨gb188, 2, none⟩ = some (.slice none 0 0) := (blk_cell BK188.out 2).trans rfl; have hfz12_0 := blk_frozen BK188.out 0; have hfz12_1 := blk_frozen BK188.out 1; have hfz12_2 := blk_frozen BK188.out 2; obtain ⟨Ao13, co13, eo13⟩ := Kd.S_slice HO184.out; subst eo13; obtain ⟨Ao14, co14, eo14⟩ := Kd.S_slice HO187.out; subst eo14; have hcz15_0 : w8.cell? ⟨gb177, 0, none⟩ = some (.bool a0_0) := (blk_cell BK177.out 0).trans rfl; have hcz15_1 : w8.cell? ⟨gb177, 1, none⟩ = some (.slice A0_1 l0_1.length c0_1) := (blk_cell BK177.out 1).trans rfl; have hcz15_2 : w8.cell? ⟨gb177, 2, none⟩ = some (.slice A0_2 l0_2.length c0_2) := (blk_cell BK177.out 2).trans rfl; have hfz15_0 := blk_frozen BK177.out 0; have hfz15_1 := blk_frozen BK177.out 1; have hfz15_2 := blk_frozen BK177.out 2) | ((with_reducible refine gate_dst (N := 4) rfl ?_); refine box_event ?hg (N := 4) ?hd (cs := #[.bool false, .slice none 0 0, .slice none 0 0]) (t := 25) ?hr ?_; (case hd => rfl); (case hg => rfl); (case hr => first | (go_simp; done) | (go_simp; rfl)); intro gb189 hg w16 hbox hb; have n0_ := Aside0.mk (Kd.R_below (by (with_reducible repeat (first | apply Kd.R_alloc | apply Kd.R_drewN | apply Kd.R_drew)); exact (Kd.R_mono (Kd.R_far (p := ⟨gb188, 2, none⟩) (Kd.R_far (p := ⟨gb188, 1, none⟩) (Kd.R_far (p := ⟨gb188, 0, none⟩) (Kd.R_types HO181.out BK188.out (by decide)) (fun _ hk => hk.2) (.slice Ao9 t179.length co9)) (fun _ hk => hk.2) (.slice Ao13 t182.length co13)) (fun _ hk => hk.2) (.slice Ao14 t185.length co14)) (fun _ h_ => h_.1))) hb); have n1_ := Aside0.mk (Kd.S_below (by (with_reducible repeat (first | apply Kd.S_alloc | apply Kd.S_drewN | apply Kd.S_drew)); exact (Kd.S_mono (Kd.S_far (p := ⟨gb188, 2, none⟩) (Kd.S_far (p := ⟨gb188, 1, none⟩) (Kd.S_far (p := ⟨gb188, 0, none⟩) (Kd.S_types HO184.out BK188.out (by decide)) (fun _ hk => hk.2) (.slice Ao9 t179.length co9)) (fun _ hk => hk.2) (.slice Ao13 t182.length co13)) (fun _ hk => hk.2) (.slice Ao14 t185.length co14)) (fun _ h_ => h_.1))) hb); have n2_ := Aside0.mk (Kd.S_below (by (with_reducible repeat (first | apply Kd.S_alloc | apply Kd.S_drewN | apply Kd.S_drew)); exact (Kd.S_mono (Kd.S_far (p := ⟨gb188, 2, none⟩) (Kd.S_far (p := ⟨gb188, 1, none⟩) (Kd.S_far (p := ⟨gb188, 0, none⟩) (Kd.S_types HO187.out BK188.out (by decide)) (fun _ hk => hk.2) (.slice Ao9 t179.length co9)) (fun _ hk => hk.2) (.slice Ao13 t182.length co13)) (fun _ hk => hk.2) (.slice Ao14 t185.length co14)) (fun _ h_ => h_.1))) hb); have n3_ := Aside0.mk (blk_below (g := gb177) (o := .cells #[.bool a0_0, .slice A0_1 l0_1.length c0_1, .slice A0_2 l0_2.length c0_2] 25 (0, 0)) (by (with_reducible repeat (first | refine blk_drewN ?_ _ | refine blk_drew ?_ | refine blk_alloc ?_ _)); refine blk_far ?_ NB177_188.out _; (with_reducible repeat (first | refine blk_drewN ?_ _ | refine blk_drew ?_ | refine blk_alloc ?_ _)); refine blk_far ?_ NB177_188.out _; (with_reducible repeat (first | refine blk_drewN ?_ _ | refine blk_drew ?_ | refine blk_alloc ?_ _)); refine blk_far ?_ NB177_188.out _; (with_reducible repeat (first | refine blk_drewN ?_ _ | refine blk_drew ?_ | refine blk_alloc ?_ _)); exact BK177.out) hb); have n4_ := Aside0.mk (blk_below (g := gb178) (o := .cells #[.bool false, .slice none 0 0, .slice none 0 0] 25 (0, 0)) (by (with_reducible repeat (first | refine blk_drewN ?_ _ | refine blk_drew ?_ | refine blk_alloc ?_ _)); refine blk_far ?_ NB178_188.out _; (with_reducible repeat (first | refine blk_drewN ?_ _ | refine blk_drew ?_ | refine blk_alloc ?_ _)); refine blk_far ?_ NB178_188.out _; (with_reducible repeat (first | refine blk_drewN ?_ _ | refine blk_drew ?_ | refine blk_alloc ?_ _)); refine blk_far ?_ NB178_188.out _; (with_reducible repeat (first | refine blk_drewN ?_ _ | refine blk_drew ?_ | refine blk_alloc ?_ _)); exact BK178.out) hb); have n5_ := Aside0.mk (blk_below (g := gb188) (o := .cells #[.slice Ao9 t179.length co9, .slice Ao13 t182.length co13, .slice Ao14 t185.length co14] 51 (0, 0)) (by (with_reducible repeat (first | refine blk_drewN ?_ _ | refine blk_drew ?_ | refine blk_alloc ?_ _)); refine blk_put (cs := #[.slice Ao9 t179.length co9, .slice Ao13 t182.length co13, .slice none 0 0]) ?_ 2 _ rfl; (with_reducible repeat (first | refine blk_drewN ?_ _ | refine blk_drew ?_ | refine blk_alloc ?_ _)); refine blk_put (cs := #[.slice Ao9 t179.length co9, .slice none 0 0, .slice none 0 0]) ?_ 1 _ rfl; (with_reducible repeat (first | refine blk_drewN ?_ _ | refine blk_drew ?_ | refine blk_alloc ?_ _)); refine blk_put (cs := #[.slice none 0 0, .slice none 0 0, .slice none 0 0]) ?_ 0 _ rfl; (with_reducible repeat (first | refine blk_drewN ?_ _ | refine blk_drew ?_ | refine blk_alloc ?_ _)); exact BK188.out) hb); have n6_ := Aside0.mk (below_step (by repeat (first | (with_reducible first | exact HB.out | apply below_alloc | apply pw_below_drewN | apply below_drew1 | refine below_set ?_ GE177.out | refine below_set ?_ GE178.out | refine below_set ?_ GE188.out) | exact HB.out)) hb); have n7_ := Aside0.mk (hbox); have n8_ := Aside0.mk ((by rw [hg]; exact (below_size (by repeat (first | (with_reducible first | exact HB.out | apply below_alloc | apply pw_below_drewN | apply below_drew1 | refine below_set ?_ GE177.out | refine below_set ?_ GE178.out | refine below_set ?_ GE188.out) | exact HB.out))) : w.heap.size ≤ gb189)); have n9_ := Aside0.mk ((by rw [hg]; exact (below_size (by repeat (first | (with_reducible first | exact HB.out | apply below_alloc | apply pw_below_drewN | apply below_drew1 | refine below_set ?_ GE177.out | refine below_set ?_ GE178.out | refine below_set ?_ GE188.out) | exact HB.out))) : w.heap.size ≤ gb189)); have n10_ := Aside0.mk ((by rw [hg]; exact Nat.ne_of_lt (blk_lt (g := gb177) (o := .cells #[.bool a0_0, .slice A0_1 l0_1.length c0_1, .slice A0_2 l0_2.length c0_2] 25 (0, 0)) (by (with_reducible repeat (first | refine blk_drewN ?_ _ | refine blk_drew ?_ | refine blk_alloc ?_ _)); refine blk_far ?_ NB177_188.out _; (with_reducible repeat (first | refine blk_drewN ?_ _ | refine blk_drew ?_ | refine blk_alloc ?_ _)); refine blk_far ?_ NB177_188.out _; (with_reducible repeat (first | refine blk_drewN ?_ _ | refine blk_drew ?_ | refine blk_alloc ?_ _)); refine blk_far ?_ NB177_188.out _; (with_reducible repeat (first | refine blk_drewN ?_ _ | refine blk_drew ?_ | refine blk_alloc ?_ _)); exact BK177.out)) : gb177 ≠ gb189)); have n11_ := Aside0.mk ((by rw [hg]; exact Nat.ne_of_gt (blk_lt (g := gb177) (o := .cells #[.bool a0_0, .slice A0_1 l0_1.length c0_1, .slice A0_2 l0_2.length c0_2] 25 (0, 0)) (by (with_reducible repeat (first | refine blk_drewN ?_ _ | refine blk_drew ?_ | refine blk_alloc ?_ _)); refine blk_far ?_ NB177_188.out _; (with_reducible repeat (first | refine blk_drewN ?_ _ | refine blk_drew ?_ | refine blk_alloc ?_ _)); refine blk_far ?_ NB177_188.out _; (with_reducible repeat (first | refine blk_drewN ?_ _ | refine blk_drew ?_ | refine blk_alloc ?_ _)); refine blk_far ?_ NB177_188.out _; (with_reducible repeat (first | refine blk_drewN ?_ _ | refine blk_drew ?_ | refine blk_alloc ?_ _)); exact BK177.out)) : gb189 ≠ gb177)); have n12_ := Aside0.mk ((by rw [hg]; exact Nat.ne_of_lt (blk_lt (g := gb178) (o := .cells #[.bool false, .slice none 0 0, .slice none 0 0] 25 (0, 0)) (by (with_reducible repeat (first | refine blk_drewN ?_ _ | refine blk_drew ?_ | refine blk_alloc ?_ _)); refine blk_far ?_ NB178_188.out _; (with_reducible repeat (first | refine blk_drewN ?_ _ | refine blk_drew ?_ | refine blk_alloc ?_ _)); refine blk_far ?_ NB178_188.out _; (with_reducible repeat (first | refine blk_drewN ?_ _ | refine blk_drew ?_ | refine blk_alloc ?_ _)); refine blk_far ?_ NB178_188.out _; (with_reducible repeat (first | refine blk_drewN ?_ _ | refine blk_drew ?_ | refine blk_alloc ?_ _)); exact BK178.out)) : gb178 ≠ gb189)); have n13_ := Aside0.mk ((by rw [hg]; exact Nat.ne_of_gt (blk_lt (g := gb178) (o := .cells #[.bool false, .slice none 0 0, .slice none 0 0] 25 (0, 0)) (by (with_reducible repeat (first | refine blk_drewN ?_ _ | refine blk_drew ?_ | refine blk_alloc ?_ _)); refine blk_far ?_ NB178_188.out _; (with_reducible repeat (first | refine blk_drewN ?_ _ | refine blk_drew ?_ | refine blk_alloc ?_ _)); refine blk_far ?_ NB178_188.out _; (with_reducible repeat (first | refine blk_drewN ?_ _ | refine blk_drew ?_ | refine blk_alloc ?_ _)); refine blk_far ?_ NB178_188.out _; (with_reducible repeat (first | refine blk_drewN ?_ _ | refine blk_drew ?_ | refine blk_alloc ?_ _)); exact BK178.out)) : gb189 ≠ gb178)); have n14_ := Aside0.mk ((by rw [hg]; exact Nat.ne_of_lt (blk_lt (g := gb188) (o := .cells #[.slice Ao9 t179.length co9, .slice Ao13 t182.length co13, .slice Ao14 t185.length co14] 51 (0, 0)) (by (with_reducible repeat (first | refine blk_drewN ?_ _ | refine blk_drew ?_ | refine blk_alloc ?_ _)); refine blk_put (cs := #[.slice Ao9 t179.length co9, .slice Ao13 t182.length co13, .slice none 0 0]) ?_ 2 _ rfl; (with_reducible repeat (first | refine blk_drewN ?_ _ | refine blk_drew ?_ | refine blk_alloc ?_ _)); refine blk_put (cs := #[.slice Ao9 t179.length co9, .slice none 0 0, .slice none 0 0]) ?_ 1 _ rfl; (with_reducible repeat (first | refine blk_drewN ?_ _ | refine blk_drew ?_ | refine blk_alloc ?_ _)); refine blk_put (cs := #[.slice none 0 0, .slice none 0 0, .slice none 0 0]) ?_ 0 _ rfl; (with_reducible repeat (first | refine blk_drewN ?_ _ | refine blk_drew ?_ | refine blk_alloc ?_ _)); exact BK188.out)) : gb188 ≠ gb189)); have n15_ := Aside0.mk ((by rw [hg]; exact Nat.ne_of_gt (blk_lt (g := gb188) (o := .cells #[.slice Ao9 t179.length co9, .slice Ao13 t182.length co13, .slice Ao14 t185.length co14] 51 (0, 0)) (by (with_reducible repeat (first | refine blk_drewN ?_ _ | refine blk_drew ?_ | refine blk_alloc ?_ _)); refine blk_put (cs := #[.slice Ao9 t179.length co9, .slice Ao13 t182.length co13, .slice none 0 0]) ?_ 2 _ rfl; (with_reducible repeat (first | refine blk_drewN ?_ _ | refine blk_drew ?_ | refine blk_alloc ?_ _)); refine blk_put (cs := #[.slice Ao9 t179.length co9, .slice none 0 0, .slice none 0 0]) ?_ 1 _ rfl; (with_reducible repeat (first | refine blk_drewN ?_ _ | refine blk_drew ?_ | refine blk_alloc ?_ _)); refine blk_put (cs := #[.slice none 0 0, .slice none 0 0, .slice none 0 0]) ?_ 0 _ rfl; (with_reducible repeat (first | refine blk_drewN ?_ _ | refine blk_drew ?_ | refine blk_alloc ?_ _)); exact BK188.out)) : gb189 ≠ gb188)); clear HO181; clear HO184; clear HO187; clear BK177; clear BK178; clear BK188; clear HB; have HO181 := n0_; have HO184 := n1_; have HO187 := n2_; have BK177 := n3_; have BK178 := n4_; have BK188 := n5_; have HB := n6_; have BK189 := n7_; have GW189 := n8_; have GE189 := n9_; have NB177_189 := n10_; have NB189_177 := n11_; have NB178_189 := n12_; have NB189_178 := n13_; have NB188_189 := n14_; have NB189_188 := n15_; clear n0_ n1_ n2_ n3_ n4_ n5_ n6_ n7_ n8_ n9_ n10_ n11_ n12_ n13_ n14_ n15_; clear hb hbox hg; have hnb17 := NB189_177.out; have hnc17 := NB177_189.out; have hnb18 := NB189_178.out; have hnc18 := NB178_189.out; have hnb19 := NB189_188.out; have hnc19 := NB188_189.out; have hcz20_0 : w16.cell? ⟨gb189, 0, none⟩ = some (.bool false) := (blk_cell BK189.out 0).trans rfl; have hcz20_1 : w16.cell? ⟨gb189, 1, none⟩ = some (.slice none 0 0) := (blk_cell BK189.out 1).trans rfl; have hcz20_2 : w16.cell? ⟨gb189, 2, none⟩ = some (.slice none 0 0) := (blk_cell BK189.out 2).trans rfl; have hfz20_0 := blk_frozen BK189.out 0; have hfz20_1 := blk_frozen BK189.out 1; have hfz20_2 := blk_frozen BK189.out 2))
  go_loopg [5] k (fun kq v5 w' => ∃ (x5_1 : Int) (x190002_1 : List (S30)) (u190002 : Value), v5 = .int .i64 x5_1 ∧ Aside0 (laws_plain.l0 kq x5_1 a0_0 l0_1 l0_2 t179 t182 t185 a0_0 t179 x190002_1 = some (r1, r2, r3)) ∧ Aside0 (kq ≤ k) ∧ Aside0 (Kd.R (Kd.int .i64) 3 w' w.heap.size (fun _ => True) (.slice Ao9 t179.length co9) t179) ∧ Aside0 (Kd.S (Kd.slice 4 Kd.bool) 53 w' w.heap.size (fun _ => True) (.slice Ao13 t182.length co13) t182) ∧ Aside0 (Kd.S (Kd.slice 3 (Kd.int .i64)) 22 w' w.heap.size (fun k_ => some k_ ≠ ((.slice Ao9 t179.length co9) : Value).ownBlock ∧ some k_ ≠ ((.slice Ao9 t179.length co9) : Value).ownBlock) (.slice Ao14 t185.length co14) t185) ∧ Aside0 (Kd.R (Kd.int .i64) 3 w' w.heap.size (fun _ => True) (.slice Ao9 t179.length co9) t179) ∧ Aside0 (Kd.R k30 30 w' w.heap.size (fun _ => True) u190002 x190002_1) ∧ Aside0 (w'.heap[gb177]? = some (.cells #[.bool a0_0, (.slice A0_1 l0_1.length c0_1), (.slice A0_2 l0_2.length c0_2)] 25 (0, 0))) ∧ Aside0 (w'.heap[gb178]? = some (.cells #[.bool false, (.slice none 0 0), (.slice none 0 0)] 25 (0, 0))) ∧ Aside0 (w'.heap[gb188]? = some (.cells #[(.slice Ao9 t179.length co9), (.slice Ao13 t182.length co13), (.slice Ao14 t185.length co14)] 51 (0, 0))) ∧ Aside0 (w'.heap[gb189]? = some (.cells #[.bool a0_0, (.slice Ao9 t179.length co9), u190002] 25 (0, 0))) ∧ Aside0 (Below w.heap.size w w'))
  case atStart => exact ⟨(0), (([] : List (S30))), (.slice none 0 0), (by first | rfl | (simp; done) | (simp [*]; done)), H', ⟨Nat.le_refl _⟩, ⟨by (with_reducible repeat (first | apply Kd.R_alloc | apply Kd.R_drewN | apply Kd.R_drew)); exact Kd.R_mono (Kd.R_far (p := ⟨gb189, 2, none⟩) (Kd.R_far (p := ⟨gb189, 1, none⟩) (Kd.R_far (p := ⟨gb189, 0, none⟩) (Kd.R_types HO181.out BK189.out (by decide)) (fun _ hk => hk.2) (.bool a0_0)) (fun _ hk => hk.2) (.slice Ao9 t179.length co9)) (fun _ hk => hk.2) (.slice none 0 0)) (fun _ hk => trivial)⟩, ⟨by (with_reducible repeat (first | apply Kd.S_alloc | apply Kd.S_drewN | apply Kd.S_drew)); exact Kd.S_mono (Kd.S_far (p := ⟨gb189, 2, none⟩) (Kd.S_far (p := ⟨gb189, 1, none⟩) (Kd.S_far (p := ⟨gb189, 0, none⟩) (Kd.S_types HO184.out BK189.out (by decide)) (fun _ hk => hk.2) (.bool a0_0)) (fun _ hk => hk.2) (.slice Ao9 t179.length co9)) (fun _ hk => hk.2) (.slice none 0 0)) (fun _ hk => trivial)⟩, ⟨by (with_reducible repeat (first | apply Kd.S_alloc | apply Kd.S_drewN | apply Kd.S_drew)); exact Kd.S_mono (Kd.S_far (p := ⟨gb189, 2, none⟩) (Kd.S_far (p := ⟨gb189, 1, none⟩) (Kd.S_far (p := ⟨gb189, 0, none⟩) (Kd.S_types HO187.out BK189.out (by decide)) (fun _ hk => hk.2) (.bool a0_0)) (fun _ hk => hk.2) (.slice Ao9 t179.length co9)) (fun _ hk => hk.2) (.slice none 0 0)) (fun _ hk => ⟨hk.1, hk.1⟩)⟩, ⟨by (with_reducible repeat (first | apply Kd.R_alloc | apply Kd.R_drewN | apply Kd.R_drew)); exact Kd.R_mono (Kd.R_far (p := ⟨gb189, 2, none⟩) (Kd.R_far (p := ⟨gb189, 1, none⟩) (Kd.R_far (p := ⟨gb189, 0, none⟩) (Kd.R_types HO181.out BK189.out (by decide)) (fun _ hk => hk.2) (.bool a0_0)) (fun _ hk => hk.2) (.slice Ao9 t179.length co9)) (fun _ hk => hk.2) (.slice none 0 0)) (fun _ hk => trivial)⟩, ⟨by first | exact Kd.R_nil _ _ _ _ _ | exact Kd.N_nil _ _ _ _ _ | exact Kd.V_nil _ _ _ _ _ | exact Kd.Q_nil _ _ _ _ _ | exact Kd.S_nil _ _ _ _ _⟩, ⟨by (with_reducible repeat (first | refine blk_drewN ?_ _ | refine blk_drew ?_ | refine blk_alloc ?_ _)); refine blk_far ?_ NB177_189.out _; (with_reducible repeat (first | refine blk_drewN ?_ _ | refine blk_drew ?_ | refine blk_alloc ?_ _)); refine blk_far ?_ NB177_189.out _; (with_reducible repeat (first | refine blk_drewN ?_ _ | refine blk_drew ?_ | refine blk_alloc ?_ _)); refine blk_far ?_ NB177_189.out _; (with_reducible repeat (first | refine blk_drewN ?_ _ | refine blk_drew ?_ | refine blk_alloc ?_ _)); exact BK177.out⟩, ⟨by (with_reducible repeat (first | refine blk_drewN ?_ _ | refine blk_drew ?_ | refine blk_alloc ?_ _)); refine blk_far ?_ NB178_189.out _; (with_reducible repeat (first | refine blk_drewN ?_ _ | refine blk_drew ?_ | refine blk_alloc ?_ _)); refine blk_far ?_ NB178_189.out _; (with_reducible repeat (first | refine blk_drewN ?_ _ | refine blk_drew ?_ | refine blk_alloc ?_ _)); refine blk_far ?_ NB178_189.out _; (with_reducible repeat (first | refine blk_drewN ?_ _ | refine blk_drew ?_ | refine blk_alloc ?_ _)); exact BK178.out⟩, ⟨by (with_reducible repeat (first | refine blk_drewN ?_ _ | refine blk_drew ?_ | refine blk_alloc ?_ _)); refine blk_far ?_ NB188_189.out _; (with_reducible repeat (first | refine blk_drewN ?_ _ | refine blk_drew ?_ | refine blk_alloc ?_ _)); refine blk_far ?_ NB188_189.out _; (with_reducible repeat (first | refine blk_drewN ?_ _ | refine blk_drew ?_ | refine blk_alloc ?_ _)); refine blk_far ?_ NB188_189.out _; (with_reducible repeat (first | refine blk_drewN ?_ _ | refine blk_drew ?_ | refine blk_alloc ?_ _)); exact BK188.out⟩, ⟨by (with_reducible repeat (first | refine blk_drewN ?_ _ | refine blk_drew ?_ | refine blk_alloc ?_ _)); refine blk_put (cs := #[.bool a0_0, .slice Ao9 t179.length co9, .slice none 0 0]) ?_ 2 _ rfl; (with_reducible repeat (first | refine blk_drewN ?_ _ | refine blk_drew ?_ | refine blk_alloc ?_ _)); refine blk_put (cs := #[.bool a0_0, .slice none 0 0, .slice none 0 0]) ?_ 1 _ rfl; (with_reducible repeat (first | refine blk_drewN ?_ _ | refine blk_drew ?_ | refine blk_alloc ?_ _)); refine blk_put (cs := #[.bool false, .slice none 0 0, .slice none 0 0]) ?_ 0 _ rfl; (with_reducible repeat (first | refine blk_drewN ?_ _ | refine blk_drew ?_ | refine blk_alloc ?_ _)); exact BK189.out⟩, ⟨by repeat (first | (with_reducible first | exact HB.out | apply below_alloc | apply pw_below_drewN | apply below_drew1 | refine below_set ?_ GE177.out | refine below_set ?_ GE178.out | refine below_set ?_ GE188.out | refine below_set ?_ GE189.out) | exact HB.out)⟩⟩
  case round =>
    clear H'
    try clear c1
    try clear p2
    try clear c5
    try clear c7
    try clear c10
    try clear c11
    try clear c16
    try clear c17
    try clear c18
    try clear c19
    try clear hcz12_0
    try clear hcz12_1
    try clear hcz12_2
    try clear hcz15_0
    try clear hcz15_1
    try clear hcz15_2
    try clear hcz20_0
    try clear hcz20_1
    try clear hcz20_2
    try clear hcz6_0
    try clear hcz6_1
    try clear hcz6_2
    try clear hfz12_0
    try clear hfz12_1
    try clear hfz12_2
    try clear hfz15_0
    try clear hfz15_1
    try clear hfz15_2
    try clear hfz20_0
    try clear hfz20_1
    try clear hfz20_2
    try clear hfz6_0
    try clear hfz6_1
    try clear hfz6_2
    obtain ⟨x5_1, x190002_1, u190002, rfl, HA, HK1, HO_189000, HO_189001, HO_189002, HO_190001, HO_190002, BK177, BK178, BK188, BK189, HB⟩ := hrel
    cases gk with
    | zero => exact absurd HA.out (by simp [laws_plain.l0])
    | succ k1 =>
      have H := HA.out
      clear HA
      simp only [laws_plain.l0] at H
      by_cases c21 : x5_1 < (t179.length : Int)
      · rw [if_pos c21] at H
        have c21b0 : decide (x5_1 < (t179.length : Int)) = true := decide_eq_true c21
        clear c21
        have H' := Aside0.mk H
        clear H
        have hnb22 := NB188_177.out
        have hnc22 := NB177_188.out
        have hnb23 := NB188_178.out
        have hnc23 := NB178_188.out
        have hnb24 := NB188_189.out
        have hnc24 := NB189_188.out
        have hcz25_0 : wr.cell? ⟨gb188, 0, none⟩ = some (.slice Ao9 t179.length co9) := (blk_cell BK188.out 0).trans rfl
        have hcz25_1 : wr.cell? ⟨gb188, 1, none⟩ = some (.slice Ao13 t182.length co13) := (blk_cell BK188.out 1).trans rfl
        have hcz25_2 : wr.cell? ⟨gb188, 2, none⟩ = some (.slice Ao14 t185.length co14) := (blk_cell BK188.out 2).trans rfl
        have hfz25_0 := blk_frozen BK188.out 0
        have hfz25_1 := blk_frozen BK188.out 1
        have hfz25_2 := blk_frozen BK188.out 2
        go_wp2
        go_loopg [6] k1 (fun kq v6 w' => ∃ (x6_2 : Int) (x190002_2 : List (S30)) (u190002 : Value), v6 = .int .i64 x6_2 ∧ Aside0 (laws_plain.l1 kq x5_1 x6_2 a0_0 l0_1 l0_2 t179 t182 t185 a0_0 t179 x190002_2 = some (r1, r2, r3)) ∧ Aside0 (kq ≤ k1) ∧ Aside0 (Kd.R (Kd.int .i64) 3 w' w.heap.size (fun _ => True) (.slice Ao9 t179.length co9) t179) ∧ Aside0 (Kd.S (Kd.slice 4 Kd.bool) 53 w' w.heap.size (fun _ => True) (.slice Ao13 t182.length co13) t182) ∧ Aside0 (Kd.S (Kd.slice 3 (Kd.int .i64)) 22 w' w.heap.size (fun k_ => some k_ ≠ ((.slice Ao9 t179.length co9) : Value).ownBlock ∧ some k_ ≠ ((.slice Ao9 t179.length co9) : Value).ownBlock) (.slice Ao14 t185.length co14) t185) ∧ Aside0 (Kd.R (Kd.int .i64) 3 w' w.heap.size (fun _ => True) (.slice Ao9 t179.length co9) t179) ∧ Aside0 (Kd.R k30 30 w' w.heap.size (fun _ => True) u190002 x190002_2) ∧ Aside0 (w'.heap[gb177]? = some (.cells #[.bool a0_0, (.slice A0_1 l0_1.length c0_1), (.slice A0_2 l0_2.length c0_2)] 25 (0, 0))) ∧ Aside0 (w'.heap[gb178]? = some (.cells #[.bool false, (.slice none 0 0), (.slice none 0 0)] 25 (0, 0))) ∧ Aside0 (w'.heap[gb188]? = some (.cells #[(.slice Ao9 t179.length co9), (.slice Ao13 t182.length co13), (.slice Ao14 t185.length co14)] 51 (0, 0))) ∧ Aside0 (w'.heap[gb189]? = some (.cells #[.bool a0_0, (.slice Ao9 t179.length co9), u190002] 25 (0, 0))) ∧ Aside0 (Below w.heap.size w w'))
        case atStart => exact ⟨(0), (x190002_1), (u190002), (by first | rfl | (simp; done) | (simp [*]; done)), H', ⟨Nat.le_refl _⟩, ⟨by (with_reducible repeat (first | apply Kd.R_alloc | apply Kd.R_drewN | apply Kd.R_drew)); exact HO_189000.out⟩, ⟨by (with_reducible repeat (first | apply Kd.S_alloc | apply Kd.S_drewN | apply Kd.S_drew)); exact HO_189001.out⟩, ⟨by (with_reducible repeat (first | apply Kd.S_alloc | apply Kd.S_drewN | apply Kd.S_drew)); exact HO_189002.out⟩, ⟨by (with_reducible repeat (first | apply Kd.R_alloc | apply Kd.R_drewN | apply Kd.R_drew)); exact HO_190001.out⟩, ⟨by (with_reducible repeat (first | apply Kd.R_alloc | apply Kd.R_drewN | apply Kd.R_drew)); exact HO_190002.out⟩, ⟨by (with_reducible repeat (first | refine blk_drewN ?_ _ | refine blk_drew ?_ | refine blk_alloc ?_ _)); exact BK177.out⟩, ⟨by (with_reducible repeat (first | refine blk_drewN ?_ _ | refine blk_drew ?_ | refine blk_alloc ?_ _)); exact BK178.out⟩, ⟨by (with_reducible repeat (first | refine blk_drewN ?_ _ | refine blk_drew ?_ | refine blk_alloc ?_ _)); exact BK188.out⟩, ⟨by (with_reducible repeat (first | refine blk_drewN ?_ _ | refine blk_drew ?_ | refine blk_alloc ?_ _)); exact BK189.out⟩, ⟨by repeat (first | (with_reducible first | exact HB.out | apply below_alloc | apply pw_below_drewN | apply below_drew1 | refine below_set ?_ GE177.out | refine below_set ?_ GE178.out | refine below_set ?_ GE188.out | refine below_set ?_ GE189.out) | exact HB.out)⟩⟩
        case round =>
          clear H'
          try clear c1
          try clear c2
          try clear p2
          try clear c5
          try clear c7
          try clear c10
          try clear c11
          try clear c16
          try clear c17
          try clear c18
          try clear c19
          try clear c21
          try clear c21b0
          try clear c22
          try clear c23
          try clear c24
          try clear hcz12_0
          try clear hcz12_1
          try clear hcz12_2
          try clear hcz15_0
          try clear hcz15_1
          try clear hcz15_2
          try clear hcz20_0
          try clear hcz20_1
          try clear hcz20_2
          try clear hcz25_0
          try clear hcz25_1
          try clear hcz25_2
          try clear hcz6_0
          try clear hcz6_1
          try clear hcz6_2
          try clear hfz12_0
          try clear hfz12_1
          try clear hfz12_2
          try clear hfz15_0
          try clear hfz15_1
          try clear hfz15_2
          try clear hfz20_0
          try clear hfz20_1
          try clear hfz20_2
          try clear hfz25_0
          try clear hfz25_1
          try clear hfz25_2
          try clear hfz6_0
          try clear hfz6_1
          try clear hfz6_2
          try clear p2
          obtain ⟨x6_2, x190002_2, u190002, rfl, HA, HK2, HO_189000, HO_189001, HO_189002, HO_190001, HO_190002, BK177, BK178, BK188, BK189, HB⟩ := hrel
          cases gk with
          | zero => exact absurd HA.out (by simp [laws_plain.l1])
          | succ k2 =>
            have H := HA.out
            clear HA
            simp only [laws_plain.l1] at H
            by_cases c26 : x6_2 < (t179.length : Int)
            · rw [if_pos c26] at H
              have c26b0 : decide (x6_2 < (t179.length : Int)) = true := decide_eq_true c26
              clear c26
              by_cases c27 : 0 ≤ x5_1
              · rw [if_pos c27] at H
                have c27b0 : decide (0 ≤ x5_1) = true := decide_eq_true c27
                clear c27
                by_cases c28 : x5_1 < (t182.length : Int)
                · rw [if_pos c28] at H
                  have c28b0 : decide (x5_1 < (t182.length : Int)) = true := decide_eq_true c28
                  clear c28
                  by_cases c29 : 0 ≤ x6_2
                  · rw [if_pos c29] at H
                    have c29b0 : decide (0 ≤ x6_2) = true := decide_eq_true c29
                    clear c29
                    by_cases c30 : x6_2 < ((rd_L3 t182 x5_1).length : Int)
                    · rw [if_pos c30] at H
                      have c30b0 : decide (x6_2 < ((rd_L3 t182 x5_1).length : Int)) = true := decide_eq_true c30
                      clear c30
                      obtain ⟨bq31, hbq31⟩ : ∃ b_ : Bool, b_ = (rdOf false (rd_L3 t182 x5_1) x6_2) := ⟨_, rfl⟩
                      replace H : (if bq31 = true then (if a0_0 = true then (if x5_1 < (t179.length : Int) then (if x5_1 < (t185.length : Int) then (if x6_2 < ((rd_L4 t185 x5_1).length : Int) then (if x190002_2.length < 5864062014805 then (laws_plain.l1 k2 x5_1 (wrap64 (x6_2 + 1)) a0_0 l0_1 l0_2 t179 t182 t185 a0_0 t179 (x190002_2 ++ [(⟨rd t179 x5_1, rd t179 x6_2, rd (rd_L4 t185 x5_1) x6_2⟩ : S30)])) else (none)) else (none)) else (none)) else (none)) else (if x5_1 < x6_2 then (if x5_1 < (t179.length : Int) then (if x5_1 < (t185.length : Int) then (if x6_2 < ((rd_L4 t185 x5_1).length : Int) then (if x190002_2.length < 5864062014805 then (laws_plain.l1 k2 x5_1 (wrap64 (x6_2 + 1)) a0_0 l0_1 l0_2 t179 t182 t185 a0_0 t179 (x190002_2 ++ [(⟨rd t179 x5_1, rd t179 x6_2, rd (rd_L4 t185 x5_1) x6_2⟩ : S30)])) else (none)) else (none)) else (none)) else (none)) else (laws_plain.l1 k2 x5_1 (wrap64 (x6_2 + 1)) a0_0 l0_1 l0_2 t179 t182 t185 a0_0 t179 x190002_2))) else (laws_plain.l1 k2 x5_1 (wrap64 (x6_2 + 1)) a0_0 l0_1 l0_2 t179 t182 t185 a0_0 t179 x190002_2)) = some (r1, r2, r3) := by rw [← hbq31] at H; exact H
                      have Nbq31 := Aside0.mk hbq31
                      clear hbq31
                      by_cases c32 : bq31 = true
                      · subst c32
                        have H1 : (if a0_0 = true then (if x5_1 < (t179.length : Int) then (if x5_1 < (t185.length : Int) then (if x6_2 < ((rd_L4 t185 x5_1).length : Int) then (if x190002_2.length < 5864062014805 then (laws_plain.l1 k2 x5_1 (wrap64 (x6_2 + 1)) a0_0 l0_1 l0_2 t179 t182 t185 a0_0 t179 (x190002_2 ++ [(⟨rd t179 x5_1, rd t179 x6_2, rd (rd_L4 t185 x5_1) x6_2⟩ : S30)])) else (none)) else (none)) else (none)) else (none)) else (if x5_1 < x6_2 then (if x5_1 < (t179.length : Int) then (if x5_1 < (t185.length : Int) then (if x6_2 < ((rd_L4 t185 x5_1).length : Int) then (if x190002_2.length < 5864062014805 then (laws_plain.l1 k2 x5_1 (wrap64 (x6_2 + 1)) a0_0 l0_1 l0_2 t179 t182 t185 a0_0 t179 (x190002_2 ++ [(⟨rd t179 x5_1, rd t179 x6_2, rd (rd_L4 t185 x5_1) x6_2⟩ : S30)])) else (none)) else (none)) else (none)) else (none)) else (laws_plain.l1 k2 x5_1 (wrap64 (x6_2 + 1)) a0_0 l0_1 l0_2 t179 t182 t185 a0_0 t179 x190002_2))) = some (r1, r2, r3) := by rw [if_pos rfl] at H; exact H
                        clear H
                        have H := H1
                        clear H1
                        by_cases c33 : a0_0 = true
                        · subst c33
                          have H1 : (if x5_1 < (t179.length : Int) then (if x5_1 < (t185.length : Int) then (if x6_2 < ((rd_L4 t185 x5_1).length : Int) then (if x190002_2.length < 5864062014805 then (laws_plain.l1 k2 x5_1 (wrap64 (x6_2 + 1)) true l0_1 l0_2 t179 t182 t185 true t179 (x190002_2 ++ [(⟨rd t179 x5_1, rd t179 x6_2, rd (rd_L4 t185 x5_1) x6_2⟩ : S30)])) else (none)) else (none)) else (none)) else (none)) = some (r1, r2, r3) := by rw [if_pos rfl] at H; exact H
                          clear H
                          have H := H1
                          clear H1
                          by_cases c34 : x5_1 < (t179.length : Int)
                          · rw [if_pos c34] at H
                            have c34b0 : decide (x5_1 < (t179.length : Int)) = true := decide_eq_true c34
                            clear c34
                            by_cases c35 : x5_1 < (t185.length : Int)
                            · rw [if_pos c35] at H
                              have c35b0 : decide (x5_1 < (t185.length : Int)) = true := decide_eq_true c35
                              clear c35
                              by_cases c36 : x6_2 < ((rd_L4 t185 x5_1).length : Int)
                              · rw [if_pos c36] at H
                                have c36b0 : decide (x6_2 < ((rd_L4 t185 x5_1).length : Int)) = true := decide_eq_true c36
                                clear c36
                                by_cases c37 : x190002_2.length < 5864062014805
                                · rw [if_pos c37] at H
                                  have LMc37 := Aside0.mk c37
                                  clear c37
                                  obtain ⟨y196, hy196⟩ : ∃ y_ : List (S30), y_ = (x190002_2 ++ [(⟨rd t179 x5_1, rd t179 x6_2, rd (rd_L4 t185 x5_1) x6_2⟩ : S30)]) := ⟨_, rfl⟩
                                  replace H : (laws_plain.l1 k2 x5_1 (wrap64 (x6_2 + 1)) true l0_1 l0_2 t179 t182 t185 true t179 y196) = some (r1, r2, r3) := by first | (rw [hy196]; with_reducible exact H) | (have H2_ := (Option.bind_some _ _).symm.trans H; rw [hy196]; with_reducible exact H2_) | (have H2_ := (Option.bind_some _ _).symm.trans H; with_reducible exact H2_) | with_reducible exact H | (rw [hy196]; exact H) | exact H
                                  have Ny196 := Aside0.mk hy196
                                  clear hy196
                                  have H' := Aside0.mk H
                                  clear H
                                  have hnb38 := NB188_177.out
                                  have hnc38 := NB177_188.out
                                  have hnb39 := NB188_178.out
                                  have hnc39 := NB178_188.out
                                  have hnb40 := NB188_189.out
                                  have hnc40 := NB189_188.out
                                  have hcz41_0 : wr.cell? ⟨gb188, 0, none⟩ = some (.slice Ao9 t179.length co9) := (blk_cell BK188.out 0).trans rfl
                                  have hcz41_1 : wr.cell? ⟨gb188, 1, none⟩ = some (.slice Ao13 t182.length co13) := (blk_cell BK188.out 1).trans rfl
                                  have hcz41_2 : wr.cell? ⟨gb188, 2, none⟩ = some (.slice Ao14 t185.length co14) := (blk_cell BK188.out 2).trans rfl
                                  have hfz41_0 := blk_frozen BK188.out 0
                                  have hfz41_1 := blk_frozen BK188.out 1
                                  have hfz41_2 := blk_frozen BK188.out 2
                                  have p190 : 0 ≤ (x5_1 : Int) := of_decide_eq_true (by first | (with_reducible assumption) | assumption)
                                  have q190 : x5_1 < (t182.length : Int) := of_decide_eq_true (by first | (with_reducible assumption) | assumption)
                                  obtain ⟨ad190, A190_0, c190_0, e190, hx190_0, hl190_0, hi190_0⟩ := at_L3 (Kd.S_reads' HO_189001.out).2.2 x5_1 p190 q190
                                  cases e190
                                  obtain ⟨ce190, hce190, hMe190, hcc190⟩ := Kd.S_get HO_189001.out [] x5_1 p190 (by first | exact q190 | exact of_decide_eq_true (by first | (with_reducible assumption) | assumption) | (have e_ := (Kd.S_reads' HO_189001.out).1; omega))
                                  obtain ⟨ve190_0, rfl, ge190_0⟩ := hMe190
                                  have hv190_0 := hcc190 0 _ rfl
                                  rw [Nat.add_zero, show ((Kd.slice 4 Kd.bool)).sz = 1 from rfl, Nat.mul_one] at hv190_0
                                  replace hv190_0 := Option.some.inj (hv190_0.symm.trans hx190_0)
                                  rw [hv190_0] at ge190_0
                                  have HL190_0 := Aside0.mk (show Kd.R Kd.bool 4 _ _ _ _ (rd_L3 t182 x5_1) from ge190_0)
                                  clear hv190_0 ge190_0
                                  clear hcc190 hce190
                                  have HR190_0 := Aside0.mk hi190_0
                                  have HC190_0 := Aside0.mk hl190_0
                                  clear hi190_0 hl190_0
                                  replace p190 := eq_true p190
                                  replace q190 := eq_true q190
                                  have p191 : 0 ≤ (x6_2 : Int) := of_decide_eq_true (by first | (with_reducible assumption) | assumption)
                                  have q191 : x6_2 < ((rd_L3 t182 x5_1).length : Int) := of_decide_eq_true (by first | (with_reducible assumption) | assumption)
                                  obtain ⟨ad191, e191, hx191_0⟩ := Kd.at_bool (by repeat (first | (with_reducible exact HR190_0.out) | (with_reducible refine Kd.C_alloc ?_ _) | (with_reducible refine Kd.C_drewN ?_ _) | (with_reducible refine Kd.C_drew ?_) | exact HR190_0.out)) x6_2 p191 q191
                                  (try rw [← Nbq31.out] at hx191_0)
                                  cases e191
                                  replace p191 := eq_true p191
                                  replace q191 := eq_true q191
                                  have hnb42 := NB177_178.out
                                  have hnc42 := NB178_177.out
                                  have hnb43 := NB177_189.out
                                  have hnc43 := NB189_177.out
                                  have hcz44_0 : wr.cell? ⟨gb177, 0, none⟩ = some (.bool true) := (blk_cell BK177.out 0).trans rfl
                                  have hcz44_1 : wr.cell? ⟨gb177, 1, none⟩ = some (.slice A0_1 l0_1.length c0_1) := (blk_cell BK177.out 1).trans rfl
                                  have hcz44_2 : wr.cell? ⟨gb177, 2, none⟩ = some (.slice A0_2 l0_2.length c0_2) := (blk_cell BK177.out 2).trans rfl
                                  have hfz44_0 := blk_frozen BK177.out 0
                                  have hfz44_1 := blk_frozen BK177.out 1
                                  have hfz44_2 := blk_frozen BK177.out 2
                                  try go_wp2
                                  have n0_ := Aside0.mk (Kd.R_drew HO_189000.out)
                                  have n1_ := Aside0.mk (Kd.S_drew HO_189001.out)
                                  have n2_ := Aside0.mk (Kd.S_drew HO_189002.out)
                                  have n3_ := Aside0.mk (Kd.R_drew HO_190001.out)
                                  have n4_ := Aside0.mk (Kd.R_drew HO_190002.out)
                                  have n5_ := Aside0.mk (Kd.R_drew HL190_0.out)
                                  have n6_ := Aside0.mk (blk_drew BK177.out)
                                  have n7_ := Aside0.mk (blk_drew BK178.out)
                                  have n8_ := Aside0.mk (blk_drew BK188.out)
                                  have n9_ := Aside0.mk (blk_drew BK189.out)
                                  have n10_ := Aside0.mk (Kd.C_drew HR190_0.out)
                                  have n11_ := Aside0.mk (below_drew1 HB.out)
                                  clear HO_189000
                                  clear HO_189001
                                  clear HO_189002
                                  clear HO_190001
                                  clear HO_190002
                                  clear HL190_0
                                  clear BK177
                                  clear BK178
                                  clear BK188
                                  clear BK189
                                  clear HR190_0
                                  clear HB
                                  have HO_189000 := n0_
                                  have HO_189001 := n1_
                                  have HO_189002 := n2_
                                  have HO_190001 := n3_
                                  have HO_190002 := n4_
                                  have HL190_0 := n5_
                                  have BK177 := n6_
                                  have BK178 := n7_
                                  have BK188 := n8_
                                  have BK189 := n9_
                                  have HR190_0 := n10_
                                  have HB := n11_
                                  clear n0_ n1_ n2_ n3_ n4_ n5_ n6_ n7_ n8_ n9_ n10_ n11_
                                  have p192 : 0 ≤ (x5_1 : Int) := of_decide_eq_true (by first | (with_reducible assumption) | assumption)
                                  have q192 : x5_1 < (t179.length : Int) := of_decide_eq_true (by first | (with_reducible assumption) | assumption)
                                  obtain ⟨ad192, e192, hx192_0⟩ := Kd.at_int (Kd.R_reads' HO_189000.out).2.2 x5_1 p192 q192
                                  cases e192
                                  replace p192 := eq_true p192
                                  replace q192 := eq_true q192
                                  have p193 : 0 ≤ (x6_2 : Int) := of_decide_eq_true (by first | (with_reducible assumption) | assumption)
                                  have q193 : x6_2 < (t179.length : Int) := of_decide_eq_true (by first | (with_reducible assumption) | assumption)
                                  obtain ⟨ad193, e193, hx193_0⟩ := Kd.at_int (Kd.R_reads' HO_189000.out).2.2 x6_2 p193 q193
                                  obtain rfl : ad192 = ad193 := (by injection e193)
                                  replace p193 := eq_true p193
                                  replace q193 := eq_true q193
                                  have p194 : 0 ≤ (x5_1 : Int) := of_decide_eq_true (by first | (with_reducible assumption) | assumption)
                                  have q194 : x5_1 < (t185.length : Int) := of_decide_eq_true (by first | (with_reducible assumption) | assumption)
                                  obtain ⟨ad194, A194_0, c194_0, e194, hx194_0, hl194_0, hi194_0⟩ := at_L4 (Kd.S_reads' HO_189002.out).2.2 x5_1 p194 q194
                                  cases e194
                                  obtain ⟨ce194, hce194, hMe194, hcc194⟩ := Kd.S_get HO_189002.out [] x5_1 p194 (by first | exact q194 | exact of_decide_eq_true (by first | (with_reducible assumption) | assumption) | (have e_ := (Kd.S_reads' HO_189002.out).1; omega))
                                  obtain ⟨ve194_0, rfl, ge194_0⟩ := hMe194
                                  have hv194_0 := hcc194 0 _ rfl
                                  rw [Nat.add_zero, show ((Kd.slice 3 (Kd.int .i64))).sz = 1 from rfl, Nat.mul_one] at hv194_0
                                  replace hv194_0 := Option.some.inj (hv194_0.symm.trans hx194_0)
                                  rw [hv194_0] at ge194_0
                                  have HL194_0 := Aside0.mk (show Kd.R (Kd.int .i64) 3 _ _ _ _ (rd_L4 t185 x5_1) from ge194_0)
                                  clear hv194_0 ge194_0
                                  clear hcc194 hce194
                                  have HR194_0 := Aside0.mk hi194_0
                                  have HC194_0 := Aside0.mk hl194_0
                                  clear hi194_0 hl194_0
                                  replace p194 := eq_true p194
                                  replace q194 := eq_true q194
                                  have p195 : 0 ≤ (x6_2 : Int) := of_decide_eq_true (by first | (with_reducible assumption) | assumption)
                                  have q195 : x6_2 < ((rd_L4 t185 x5_1).length : Int) := of_decide_eq_true (by first | (with_reducible assumption) | assumption)
                                  obtain ⟨ad195, e195, hx195_0⟩ := Kd.at_int (by repeat (first | (with_reducible exact HR194_0.out) | (with_reducible refine Kd.C_alloc ?_ _) | (with_reducible refine Kd.C_drewN ?_ _) | (with_reducible refine Kd.C_drew ?_) | exact HR194_0.out)) x6_2 p195 q195
                                  cases e195
                                  replace p195 := eq_true p195
                                  replace q195 := eq_true q195
                                  refine start_ (n := 25) (S := fun w' => w'.cell? ⟨gb189, 0, none⟩ = some (.bool true) ∧ w'.cell? ⟨gb189, 1, none⟩ = some (.slice (some ad192) t179.length co9) ∧ w'.cell? ⟨gb189, 2, none⟩ = some (u190002) ∧ w'.cell? ⟨gb188, 0, none⟩ = some (.slice (some ad192) t179.length co9) ∧ w'.cell? ⟨gb188, 1, none⟩ = some (.slice (some ad190) t182.length co13) ∧ w'.cell? ⟨gb188, 2, none⟩ = some (.slice (some ad194) t185.length co14) ∧ w'.cell? (ad192.add (x5_1).toNat) = some (.int .i64 (rd t179 x5_1)) ∧ w'.cell? (ad192.add (x6_2).toNat) = some (.int .i64 (rd t179 x6_2)) ∧ w'.cell? (ad194.add (x5_1).toNat) = some (.slice (some ad195) (rd_L4 t185 x5_1).length c194_0) ∧ w'.cell? (ad195.add (x6_2).toNat) = some (.int .i64 (rd (rd_L4 t185 x5_1) x6_2))) (ds := [22, 24]) #[false, false, false, false, false, false, false, false, false, false, false, false, false, false, false, false, false, false, false, false, false, false, false, false, false] (by kernel_rfl) rfl rfl ⟨(blk_cell BK189.out 0).trans rfl, (blk_cell BK189.out 1).trans rfl, (blk_cell BK189.out 2).trans rfl, (blk_cell BK188.out 0).trans rfl, (blk_cell BK188.out 1).trans rfl, (blk_cell BK188.out 2).trans rfl, hx192_0, hx193_0, hx194_0, hx195_0⟩ (fun hHeld => ?_); refine with_tabW laws_plain.tab10 laws_plain.bits10 (fun HT_ HW_ => ?_)
                                  generalize wr.drew = w45 at HO_189000 HO_189001 HO_189002 HO_190001 HO_190002 HL190_0 BK177 BK178 BK188 BK189 HR190_0 HB HL194_0 HR194_0 hx192_0 hx193_0 hx194_0 hx195_0 hHeld ⊢
                                  refine pure_ (i := 0) (N := some 45) (v := ?_) (a' := ?_) #[true, false, false, false, false, false, false, false, false, false, false, false, false, false, false, false, false, false, false, false, false, false, false, false, false] rfl rfl (any_of HT_.out (by kernel_rfl)) (fun _ _ _ h => h) (Or.inl ⟨by rfl, ?_⟩) ?_ ?_
                                  rotate_left
                                  · intro w'
                                    go_simp
                                    with_reducible rfl
                                  rotate_left
                                  · simp only [Act.put, List.setIfInBounds_toArray, List.set_cons_zero, List.set_cons_succ, i64_w, i32_w]
                                    rfl
                                  refine pure_ (i := 2) (N := some 47) (v := ?_) (a' := ?_) #[true, false, true, false, false, false, false, false, false, false, false, false, false, false, false, false, false, false, false, false, false, false, false, false, false] rfl rfl (any_of HT_.out (by kernel_rfl)) (fun _ _ _ h => h) (Or.inl ⟨by rfl, ?_⟩) ?_ ?_
                                  rotate_left
                                  · intro w'
                                    go_simp
                                    with_reducible rfl
                                  rotate_left
                                  · simp only [Act.put, List.setIfInBounds_toArray, List.set_cons_zero, List.set_cons_succ, i64_w, i32_w]
                                    rfl
                                  refine pure_ (i := 4) (N := some 49) (v := ?_) (a' := ?_) #[true, false, true, false, true, false, false, false, false, false, false, false, false, false, false, false, false, false, false, false, false, false, false, false, false] rfl rfl (any_of HT_.out (by kernel_rfl)) (fun _ _ _ h => h) (Or.inl ⟨by rfl, ?_⟩) ?_ ?_
                                  rotate_left
                                  · intro w'
                                    go_simp
                                    with_reducible rfl
                                  rotate_left
                                  · simp only [Act.put, List.setIfInBounds_toArray, List.set_cons_zero, List.set_cons_succ, i64_w, i32_w]
                                    rfl
                                  refine pure_ (i := 7) (N := some 52) (v := ?_) (a' := ?_) #[true, false, true, false, true, false, false, true, false, false, false, false, false, false, false, false, false, false, false, false, false, false, false, false, false] rfl rfl (any_of HT_.out (by kernel_rfl)) (fun _ _ _ h => h) (Or.inl ⟨by rfl, ?_⟩) ?_ ?_
                                  rotate_left
                                  · intro w'
                                    go_simp
                                    with_reducible rfl
                                  rotate_left
                                  · simp only [Act.put, List.setIfInBounds_toArray, List.set_cons_zero, List.set_cons_succ, i64_w, i32_w]
                                    rfl
                                  refine pure_ (i := 9) (N := some 54) (v := ?_) (a' := ?_) #[true, false, true, false, true, false, false, true, false, true, false, false, false, false, false, false, false, false, false, false, false, false, false, false, false] rfl rfl (any_of HT_.out (by kernel_rfl)) (fun _ _ _ h => h) (Or.inl ⟨by rfl, ?_⟩) ?_ ?_
                                  rotate_left
                                  · intro w'
                                    go_simp
                                    with_reducible rfl
                                  rotate_left
                                  · simp only [Act.put, List.setIfInBounds_toArray, List.set_cons_zero, List.set_cons_succ, i64_w, i32_w]
                                    rfl
                                  refine pure_ (i := 12) (N := some 57) (v := ?_) (a' := ?_) #[true, false, true, false, true, false, false, true, false, true, false, false, true, false, false, false, false, false, false, false, false, false, false, false, false] rfl rfl (any_of HT_.out (by kernel_rfl)) (fun _ _ _ h => h) (Or.inl ⟨by rfl, ?_⟩) ?_ ?_
                                  rotate_left
                                  · intro w'
                                    go_simp
                                    with_reducible rfl
                                  rotate_left
                                  · simp only [Act.put, List.setIfInBounds_toArray, List.set_cons_zero, List.set_cons_succ, i64_w, i32_w]
                                    rfl
                                  refine pure_ (i := 14) (N := some 59) (v := ?_) (a' := ?_) #[true, false, true, false, true, false, false, true, false, true, false, false, true, false, true, false, false, false, false, false, false, false, false, false, false] rfl rfl (any_of HT_.out (by kernel_rfl)) (fun _ _ _ h => h) (Or.inl ⟨by rfl, ?_⟩) ?_ ?_
                                  rotate_left
                                  · intro w'
                                    go_simp
                                    with_reducible rfl
                                  rotate_left
                                  · simp only [Act.put, List.setIfInBounds_toArray, List.set_cons_zero, List.set_cons_succ, i64_w, i32_w]
                                    rfl
                                  refine pure_ (i := 17) (N := some 62) (v := ?_) (a' := ?_) #[true, false, true, false, true, false, false, true, false, true, false, false, true, false, true, false, false, true, false, false, false, false, false, false, false] rfl rfl (any_of HT_.out (by kernel_rfl)) (fun _ _ _ h => h) (Or.inl ⟨by rfl, ?_⟩) ?_ ?_
                                  rotate_left
                                  · intro w'
                                    go_simp
                                    with_reducible rfl
                                  rotate_left
                                  · simp only [Act.put, List.setIfInBounds_toArray, List.set_cons_zero, List.set_cons_succ, i64_w, i32_w]
                                    rfl
                                  refine take_ (i := 1) (N := some 46) (v := ?_) (a' := ?_) #[true, true, true, false, true, false, false, true, false, true, false, false, true, false, true, false, false, true, false, false, false, false, false, false, false] rfl rfl (take_ofW HT_.out HW_.out (by kernel_rfl)) (fun _ _ _ h => h) (Or.inl ⟨by rfl, ?_⟩) hHeld ?_ ?_
                                  rotate_left
                                  · rintro w' ⟨s0, s1, s2, s3, s4, s5, s6, s7, s8, s9⟩
                                    go_simp
                                    with_reducible rfl
                                  rotate_left
                                  · simp only [Act.put, List.setIfInBounds_toArray, List.set_cons_zero, List.set_cons_succ, i64_w, i32_w]
                                    rfl
                                  refine take_ (i := 3) (N := some 48) (v := ?_) (a' := ?_) #[true, true, true, true, true, false, false, true, false, true, false, false, true, false, true, false, false, true, false, false, false, false, false, false, false] rfl rfl (take_ofW HT_.out HW_.out (by kernel_rfl)) (fun _ _ _ h => h) (Or.inl ⟨by rfl, ?_⟩) hHeld ?_ ?_
                                  rotate_left
                                  · rintro w' ⟨s0, s1, s2, s3, s4, s5, s6, s7, s8, s9⟩
                                    go_simp
                                    with_reducible rfl
                                  rotate_left
                                  · simp only [Act.put, List.setIfInBounds_toArray, List.set_cons_zero, List.set_cons_succ, i64_w, i32_w]
                                    rfl
                                  refine pure_ (i := 5) (N := some 50) (v := ?_) (a' := ?_) #[true, true, true, true, true, true, false, true, false, true, false, false, true, false, true, false, false, true, false, false, false, false, false, false, false] rfl rfl (any_of HT_.out (by kernel_rfl)) (fun _ _ _ h => h) (Or.inl ⟨by rfl, ?_⟩) ?_ ?_
                                  rotate_left
                                  · intro w'
                                    go_simp
                                    with_reducible rfl
                                  rotate_left
                                  · simp only [Act.put, List.setIfInBounds_toArray, List.set_cons_zero, List.set_cons_succ, i64_w, i32_w]
                                    rfl
                                  refine take_ (i := 6) (N := some 51) (v := ?_) (a' := ?_) #[true, true, true, true, true, true, true, true, false, true, false, false, true, false, true, false, false, true, false, false, false, false, false, false, false] rfl rfl (take_ofW HT_.out HW_.out (by kernel_rfl)) (fun _ _ _ h => h) (Or.inl ⟨by rfl, ?_⟩) hHeld ?_ ?_
                                  rotate_left
                                  · rintro w' ⟨s0, s1, s2, s3, s4, s5, s6, s7, s8, s9⟩
                                    go_simp
                                    with_reducible rfl
                                  rotate_left
                                  · simp only [Act.put, List.setIfInBounds_toArray, List.set_cons_zero, List.set_cons_succ, i64_w, i32_w]
                                    rfl
                                  refine take_ (i := 8) (N := some 53) (v := ?_) (a' := ?_) #[true, true, true, true, true, true, true, true, true, true, false, false, true, false, true, false, false, true, false, false, false, false, false, false, false] rfl rfl (take_ofW HT_.out HW_.out (by kernel_rfl)) (fun _ _ _ h => h) (Or.inl ⟨by rfl, ?_⟩) hHeld ?_ ?_
                                  rotate_left
                                  · rintro w' ⟨s0, s1, s2, s3, s4, s5, s6, s7, s8, s9⟩
                                    go_simp
                                    with_reducible rfl
                                  rotate_left
                                  · simp only [Act.put, List.setIfInBounds_toArray, List.set_cons_zero, List.set_cons_succ, i64_w, i32_w]
                                    rfl
                                  refine pure_ (i := 10) (N := some 55) (v := ?_) (a' := ?_) #[true, true, true, true, true, true, true, true, true, true, true, false, true, false, true, false, false, true, false, false, false, false, false, false, false] rfl rfl (any_of HT_.out (by kernel_rfl)) (fun _ _ _ h => h) (Or.inl ⟨by rfl, ?_⟩) ?_ ?_
                                  rotate_left
                                  · intro w'
                                    go_simp
                                    with_reducible rfl
                                  rotate_left
                                  · simp only [Act.put, List.setIfInBounds_toArray, List.set_cons_zero, List.set_cons_succ, i64_w, i32_w]
                                    rfl
                                  refine take_ (i := 11) (N := some 56) (v := ?_) (a' := ?_) #[true, true, true, true, true, true, true, true, true, true, true, true, true, false, true, false, false, true, false, false, false, false, false, false, false] rfl rfl (take_ofW HT_.out HW_.out (by kernel_rfl)) (fun _ _ _ h => h) (Or.inl ⟨by rfl, ?_⟩) hHeld ?_ ?_
                                  rotate_left
                                  · rintro w' ⟨s0, s1, s2, s3, s4, s5, s6, s7, s8, s9⟩
                                    go_simp
                                    with_reducible rfl
                                  rotate_left
                                  · simp only [Act.put, List.setIfInBounds_toArray, List.set_cons_zero, List.set_cons_succ, i64_w, i32_w]
                                    rfl
                                  refine take_ (i := 13) (N := some 58) (v := ?_) (a' := ?_) #[true, true, true, true, true, true, true, true, true, true, true, true, true, true, true, false, false, true, false, false, false, false, false, false, false] rfl rfl (take_ofW HT_.out HW_.out (by kernel_rfl)) (fun _ _ _ h => h) (Or.inl ⟨by rfl, ?_⟩) hHeld ?_ ?_
                                  rotate_left
                                  · rintro w' ⟨s0, s1, s2, s3, s4, s5, s6, s7, s8, s9⟩
                                    go_simp
                                    with_reducible rfl
                                  rotate_left
                                  · simp only [Act.put, List.setIfInBounds_toArray, List.set_cons_zero, List.set_cons_succ, i64_w, i32_w]
                                    rfl
                                  refine pure_ (i := 15) (N := some 60) (v := ?_) (a' := ?_) #[true, true, true, true, true, true, true, true, true, true, true, true, true, true, true, true, false, true, false, false, false, false, false, false, false] rfl rfl (any_of HT_.out (by kernel_rfl)) (fun _ _ _ h => h) (Or.inl ⟨by rfl, ?_⟩) ?_ ?_
                                  rotate_left
                                  · intro w'
                                    go_simp
                                    with_reducible rfl
                                  rotate_left
                                  · simp only [Act.put, List.setIfInBounds_toArray, List.set_cons_zero, List.set_cons_succ, i64_w, i32_w]
                                    rfl
                                  refine take_ (i := 16) (N := some 61) (v := ?_) (a' := ?_) #[true, true, true, true, true, true, true, true, true, true, true, true, true, true, true, true, true, true, false, false, false, false, false, false, false] rfl rfl (take_ofW HT_.out HW_.out (by kernel_rfl)) (fun _ _ _ h => h) (Or.inl ⟨by rfl, ?_⟩) hHeld ?_ ?_
                                  rotate_left
                                  · rintro w' ⟨s0, s1, s2, s3, s4, s5, s6, s7, s8, s9⟩
                                    go_simp
                                    with_reducible rfl
                                  rotate_left
                                  · simp only [Act.put, List.setIfInBounds_toArray, List.set_cons_zero, List.set_cons_succ, i64_w, i32_w]
                                    rfl
                                  refine pure_ (i := 18) (N := some 63) (v := ?_) (a' := ?_) #[true, true, true, true, true, true, true, true, true, true, true, true, true, true, true, true, true, true, true, false, false, false, false, false, false] rfl rfl (any_of HT_.out (by kernel_rfl)) (fun _ _ _ h => h) (Or.inl ⟨by rfl, ?_⟩) ?_ ?_
                                  rotate_left
                                  · intro w'
                                    go_simp
                                    with_reducible rfl
                                  rotate_left
                                  · simp only [Act.put, List.setIfInBounds_toArray, List.set_cons_zero, List.set_cons_succ, i64_w, i32_w]
                                    rfl
                                  refine take_ (i := 19) (N := some 64) (v := ?_) (a' := ?_) #[true, true, true, true, true, true, true, true, true, true, true, true, true, true, true, true, true, true, true, true, false, false, false, false, false] rfl rfl (take_ofW HT_.out HW_.out (by kernel_rfl)) (fun _ _ _ h => h) (Or.inl ⟨by rfl, ?_⟩) hHeld ?_ ?_
                                  rotate_left
                                  · rintro w' ⟨s0, s1, s2, s3, s4, s5, s6, s7, s8, s9⟩
                                    go_simp
                                    with_reducible rfl
                                  rotate_left
                                  · simp only [Act.put, List.setIfInBounds_toArray, List.set_cons_zero, List.set_cons_succ, i64_w, i32_w]
                                    rfl
                                  refine pure_ (i := 20) (N := some 65) (v := ?_) (a' := ?_) #[true, true, true, true, true, true, true, true, true, true, true, true, true, true, true, true, true, true, true, true, true, false, false, false, false] rfl rfl (any_of HT_.out (by kernel_rfl)) (fun _ _ _ h => h) (Or.inl ⟨by rfl, ?_⟩) ?_ ?_
                                  rotate_left
                                  · intro w'
                                    go_simp
                                    with_reducible rfl
                                  rotate_left
                                  · simp only [Act.put, List.setIfInBounds_toArray, List.set_cons_zero, List.set_cons_succ, i64_w, i32_w]
                                    rfl
                                  refine one_ (i := 21) (N := some 66) #[true, true, true, true, true, true, true, true, true, true, true, true, true, true, true, true, true, true, true, true, true, true, false, false, false] rfl rfl (one_of HT_.out (by kernel_rfl)) (by decide) (fun K hK => ?_)
                                  refine value_ (w1 := ?_) (v := ?_) (by rfl) rfl ?_ ?_
                                  rotate_left 2
                                  · go_simp
                                    constructor
                                    · rfl
                                    · rfl
                                  refine hK.out _ _ ⟨(blk_cell (blk_alloc BK189.out _) 0).trans rfl, (blk_cell (blk_alloc BK189.out _) 1).trans rfl, (blk_cell (blk_alloc BK189.out _) 2).trans rfl, (blk_cell (blk_alloc BK188.out _) 0).trans rfl, (blk_cell (blk_alloc BK188.out _) 1).trans rfl, (blk_cell (blk_alloc BK188.out _) 2).trans rfl, (World.cell?_alloc_lt _ _ _ (World.block_lt_of_cell? _ _ (hHeld.2.2.2.2.2.2.1))).trans (hHeld.2.2.2.2.2.2.1), (World.cell?_alloc_lt _ _ _ (World.block_lt_of_cell? _ _ (hHeld.2.2.2.2.2.2.2.1))).trans (hHeld.2.2.2.2.2.2.2.1), (World.cell?_alloc_lt _ _ _ (World.block_lt_of_cell? _ _ (hHeld.2.2.2.2.2.2.2.2.1))).trans (hHeld.2.2.2.2.2.2.2.2.1), (World.cell?_alloc_lt _ _ _ (World.block_lt_of_cell? _ _ (hHeld.2.2.2.2.2.2.2.2.2))).trans (hHeld.2.2.2.2.2.2.2.2.2)⟩ (fun hHeld => ?_)
                                  clear hK K
                                  refine norm_ (a' := ?_) ?_ ?_
                                  rotate_left
                                  · show Act.put _ (some 66) _ = _
                                    simp only [Act.put, List.setIfInBounds_toArray, List.set_cons_zero, List.set_cons_succ, i64_w, i32_w]
                                    rfl
                                  refine last_ (i := 22) (N := some 67) #[true, true, true, true, true, true, true, true, true, true, true, true, true, true, true, true, true, true, true, true, true, true, true, false, false] rfl rfl (one_of HT_.out (by kernel_rfl)) (by decide) (fun K hK => ?_)
                                  refine Kd.R_append_step k30 (w0 := w) w.heap.size (by rfl) (.tmp 46) (.tmp 66) 23 30 (.agg #[(.int .i64 0), (.int .i64 0), (.int .i64 0)]) 24 rfl Try.underlying23 info30 rfl (by decide) (by omega) u190002 x190002_2 (⟨rd t179 x5_1, rd t179 x6_2, rd (rd_L4 t185 x5_1) x6_2⟩ : S30) [.int .i64 (rd t179 x5_1), .int .i64 (rd t179 x6_2), .int .i64 (rd (rd_L4 t185 x5_1) x6_2)] (fun _ => True) (fun _ => False) rfl rfl ?aP (fun _ hk => hk.elim) ?aF ?aO ?aB ?aS ?aL ?_
                                  (case aP => exact k30_mkM _ _ _ (⟨rd t179 x5_1, rd t179 x6_2, rd (rd_L4 t185 x5_1) x6_2⟩ : S30))
                                  (case aB => exact (by repeat (first | (with_reducible first | exact HB.out | apply below_alloc | apply pw_below_drewN | apply below_drew1 | refine below_set ?_ GE177.out | refine below_set ?_ GE178.out | refine below_set ?_ GE188.out | refine below_set ?_ GE189.out) | exact HB.out)))
                                  (case aF => exact (fun _ _ => trivial))
                                  (case aO => exact (by (with_reducible repeat (first | apply Kd.R_alloc | apply Kd.R_drewN | apply Kd.R_drew)); exact HO_190002.out))
                                  (case aS => exact (below_size (by repeat (first | (with_reducible first | exact HB.out | apply below_alloc | apply pw_below_drewN | apply below_drew1 | refine below_set ?_ GE177.out | refine below_set ?_ GE178.out | refine below_set ?_ GE188.out | refine below_set ?_ GE189.out) | exact HB.out))))
                                  (case aL => have := LMc37.out; omega)
                                  intro v197 w46 ho hb hg hat
                                  rw [← Ny196.out] at ho
                                  have n0_ := Aside0.mk (Kd.R_over' (by (with_reducible repeat (first | apply Kd.R_alloc | apply Kd.R_drewN | apply Kd.R_drew)); exact HO_189000.out) (Kd.R_typed (by (with_reducible repeat (first | apply Kd.R_alloc | apply Kd.R_drewN | apply Kd.R_drew)); exact HO_190002.out)) (by decide) hg)
                                  have n1_ := Aside0.mk (Kd.S_over' (by (with_reducible repeat (first | apply Kd.S_alloc | apply Kd.S_drewN | apply Kd.S_drew)); exact HO_189001.out) (Kd.R_typed (by (with_reducible repeat (first | apply Kd.R_alloc | apply Kd.R_drewN | apply Kd.R_drew)); exact HO_190002.out)) (by decide) hg)
                                  have n2_ := Aside0.mk (Kd.S_over' (by (with_reducible repeat (first | apply Kd.S_alloc | apply Kd.S_drewN | apply Kd.S_drew)); exact HO_189002.out) (Kd.R_typed (by (with_reducible repeat (first | apply Kd.R_alloc | apply Kd.R_drewN | apply Kd.R_drew)); exact HO_190002.out)) (by decide) hg)
                                  have n3_ := Aside0.mk (Kd.R_over' (by (with_reducible repeat (first | apply Kd.R_alloc | apply Kd.R_drewN | apply Kd.R_drew)); exact HO_190001.out) (Kd.R_typed (by (with_reducible repeat (first | apply Kd.R_alloc | apply Kd.R_drewN | apply Kd.R_drew)); exact HO_190002.out)) (by decide) hg)
                                  have n4_ := Aside0.mk (blk_grown (g := gb177) (o := .cells #[.bool true, .slice A0_1 l0_1.length c0_1, .slice A0_2 l0_2.length c0_2] 25 (0, 0)) (by (with_reducible repeat (first | refine blk_drewN ?_ _ | refine blk_drew ?_ | refine blk_alloc ?_ _)); exact BK177.out) hg (Kd.R_ne HO_190002.out BK177.out (by decide)))
                                  have n5_ := Aside0.mk (blk_grown (g := gb178) (o := .cells #[.bool false, .slice none 0 0, .slice none 0 0] 25 (0, 0)) (by (with_reducible repeat (first | refine blk_drewN ?_ _ | refine blk_drew ?_ | refine blk_alloc ?_ _)); exact BK178.out) hg (Kd.R_ne HO_190002.out BK178.out (by decide)))
                                  have n6_ := Aside0.mk (blk_grown (g := gb188) (o := .cells #[.slice (some ad192) t179.length co9, .slice (some ad190) t182.length co13, .slice (some ad194) t185.length co14] 51 (0, 0)) (by (with_reducible repeat (first | refine blk_drewN ?_ _ | refine blk_drew ?_ | refine blk_alloc ?_ _)); exact BK188.out) hg (Kd.R_ne HO_190002.out BK188.out (by decide)))
                                  have n7_ := Aside0.mk (blk_grown (g := gb189) (o := .cells #[.bool true, .slice (some ad192) t179.length co9, u190002] 25 (0, 0)) (by (with_reducible repeat (first | refine blk_drewN ?_ _ | refine blk_drew ?_ | refine blk_alloc ?_ _)); exact BK189.out) hg (Kd.R_ne HO_190002.out BK189.out (by decide)))
                                  have n8_ := Aside0.mk (Kd.R_over' (by (with_reducible repeat (first | apply Kd.R_alloc | apply Kd.R_drewN | apply Kd.R_drew)); exact HL190_0.out) (Kd.R_typed (by (with_reducible repeat (first | apply Kd.R_alloc | apply Kd.R_drewN | apply Kd.R_drew)); exact HO_190002.out)) (by decide) hg)
                                  have n9_ := Aside0.mk (Kd.R_over' (by (with_reducible repeat (first | apply Kd.R_alloc | apply Kd.R_drewN | apply Kd.R_drew)); exact HL194_0.out) (Kd.R_typed (by (with_reducible repeat (first | apply Kd.R_alloc | apply Kd.R_drewN | apply Kd.R_drew)); exact HO_190002.out)) (by decide) hg)
                                  have n10_ := Aside0.mk (hb)
                                  have n11_ := Aside0.mk (ho)
                                  clear HO_189000
                                  clear HO_189001
                                  clear HO_189002
                                  clear HO_190001
                                  clear BK177
                                  clear BK178
                                  clear BK188
                                  clear BK189
                                  clear HL190_0
                                  clear HL194_0
                                  clear HB
                                  clear HO_190002
                                  have HO_189000 := n0_
                                  have HO_189001 := n1_
                                  have HO_189002 := n2_
                                  have HO_190001 := n3_
                                  have BK177 := n4_
                                  have BK178 := n5_
                                  have BK188 := n6_
                                  have BK189 := n7_
                                  have HL190_0 := n8_
                                  have HL194_0 := n9_
                                  have HB := n10_
                                  have HO198 := n11_
                                  clear n0_ n1_ n2_ n3_ n4_ n5_ n6_ n7_ n8_ n9_ n10_ n11_
                                  clear ho hb hg hat
                                  obtain ⟨Ao47, co47, eo47⟩ := Kd.R_slice HO198.out
                                  (first | subst eo47 | (injection eo47 with f1_ f2_ f3_; have f4_ := f1_.symm; have f5_ := f3_.symm; clear f1_ f2_ f3_; subst f4_; subst f5_))
                                  refine hK.out _ _ ?_
                                  clear hK K
                                  refine norm_ (a' := ?_) ?_ ?_
                                  rotate_left
                                  · show Act.put _ (some 67) _ = _
                                    simp only [Act.put, List.setIfInBounds_toArray, List.set_cons_zero, List.set_cons_succ, i64_w, i32_w]
                                    rfl
                                  refine pure_ (i := 23) (N := some 68) (v := ?_) (a' := ?_) #[true, true, true, true, true, true, true, true, true, true, true, true, true, true, true, true, true, true, true, true, true, true, true, true, false] rfl rfl (any_of HT_.out (by kernel_rfl)) (fun _ _ _ h => h) (Or.inl ⟨by rfl, ?_⟩) ?_ ?_
                                  rotate_left
                                  · intro w'
                                    go_simp
                                    with_reducible rfl
                                  rotate_left
                                  · simp only [Act.put, List.setIfInBounds_toArray, List.set_cons_zero, List.set_cons_succ, i64_w, i32_w]
                                    rfl
                                  refine last_ (i := 24) (N := none) #[true, true, true, true, true, true, true, true, true, true, true, true, true, true, true, true, true, true, true, true, true, true, true, true, true] rfl rfl (one_of HT_.out (by kernel_rfl)) (by decide) (fun K hK => ?_)
                                  have hs48 : w46.cell? ⟨gb189, 2, none⟩ = some (u190002) := (blk_cell BK189.out 2).trans rfl
                                  have hfs48 := blk_frozen BK189.out 2
                                  have hns48_0 := NB177_189.out
                                  have hns48_1 := NB178_189.out
                                  have hns48_2 := NB188_189.out
                                  have hms48_0 := NB189_177.out
                                  have hms48_1 := NB189_178.out
                                  have hms48_2 := NB189_188.out
                                  refine skip_ (w1 := ?_) (by rfl) rfl ?_ ?_
                                  rotate_left
                                  · go_simp
                                    rfl
                                  refine hK.out _ _ ?_
                                  clear hK K
                                  refine done_ (done_of HT_.out (by kernel_rfl)) ?_
                                  try go_wp2
                                  go_roundg k2
                                  case measure => have := HK1.out; have := HK2.out; omega
                                  case rel => exact ⟨(wrap64 (x6_2 + 1)), (y196), (.slice Ao47 y196.length co47), (by first | rfl | (simp; done) | (simp [*]; done)), H', ⟨by have := HK1.out; have := HK2.out; omega⟩, ⟨by (with_reducible repeat (first | apply Kd.R_alloc | apply Kd.R_drewN | apply Kd.R_drew)); exact Kd.R_mono (Kd.R_far (p := ⟨gb189, 2, none⟩) (Kd.R_types HO_189000.out BK189.out (by decide)) (fun _ hk => hk.2) (.slice Ao47 y196.length co47)) (fun _ hk => trivial)⟩, ⟨by (with_reducible repeat (first | apply Kd.S_alloc | apply Kd.S_drewN | apply Kd.S_drew)); exact Kd.S_mono (Kd.S_far (p := ⟨gb189, 2, none⟩) (Kd.S_types HO_189001.out BK189.out (by decide)) (fun _ hk => hk.2) (.slice Ao47 y196.length co47)) (fun _ hk => trivial)⟩, ⟨by (with_reducible repeat (first | apply Kd.S_alloc | apply Kd.S_drewN | apply Kd.S_drew)); exact Kd.S_mono (Kd.S_far (p := ⟨gb189, 2, none⟩) (Kd.S_types HO_189002.out BK189.out (by decide)) (fun _ hk => hk.2) (.slice Ao47 y196.length co47)) (fun _ hk => ⟨hk.1.1, hk.1.2⟩)⟩, ⟨by (with_reducible repeat (first | apply Kd.R_alloc | apply Kd.R_drewN | apply Kd.R_drew)); exact Kd.R_mono (Kd.R_far (p := ⟨gb189, 2, none⟩) (Kd.R_types HO_190001.out BK189.out (by decide)) (fun _ hk => hk.2) (.slice Ao47 y196.length co47)) (fun _ hk => trivial)⟩, ⟨by (with_reducible repeat (first | apply Kd.R_alloc | apply Kd.R_drewN | apply Kd.R_drew)); exact Kd.R_mono (Kd.R_far (p := ⟨gb189, 2, none⟩) (Kd.R_types HO198.out BK189.out (by decide)) (fun _ hk => hk.2) (.slice Ao47 y196.length co47)) (fun _ hk => trivial)⟩, ⟨by (with_reducible repeat (first | refine blk_drewN ?_ _ | refine blk_drew ?_ | refine blk_alloc ?_ _)); refine blk_far ?_ NB177_189.out _; (with_reducible repeat (first | refine blk_drewN ?_ _ | refine blk_drew ?_ | refine blk_alloc ?_ _)); exact BK177.out⟩, ⟨by (with_reducible repeat (first | refine blk_drewN ?_ _ | refine blk_drew ?_ | refine blk_alloc ?_ _)); refine blk_far ?_ NB178_189.out _; (with_reducible repeat (first | refine blk_drewN ?_ _ | refine blk_drew ?_ | refine blk_alloc ?_ _)); exact BK178.out⟩, ⟨by (with_reducible repeat (first | refine blk_drewN ?_ _ | refine blk_drew ?_ | refine blk_alloc ?_ _)); refine blk_far ?_ NB188_189.out _; (with_reducible repeat (first | refine blk_drewN ?_ _ | refine blk_drew ?_ | refine blk_alloc ?_ _)); exact BK188.out⟩, ⟨by (with_reducible repeat (first | refine blk_drewN ?_ _ | refine blk_drew ?_ | refine blk_alloc ?_ _)); refine blk_put (cs := #[.bool true, .slice (some ad192) t179.length co9, u190002]) ?_ 2 _ rfl; (with_reducible repeat (first | refine blk_drewN ?_ _ | refine blk_drew ?_ | refine blk_alloc ?_ _)); exact BK189.out⟩, ⟨by repeat (first | (with_reducible first | exact HB.out | apply below_alloc | apply pw_below_drewN | apply below_drew1 | refine below_set ?_ GE177.out | refine below_set ?_ GE178.out | refine below_set ?_ GE188.out | refine below_set ?_ GE189.out) | exact HB.out)⟩⟩
                                · rw [if_neg c37] at H
                                  exact absurd H (by simp)
                              · rw [if_neg c36] at H
                                exact absurd H (by simp)
                            · rw [if_neg c35] at H
                              exact absurd H (by simp)
                          · rw [if_neg c34] at H
                            exact absurd H (by simp)
                        · replace c33 := Bool.eq_false_iff.mpr c33
                          subst c33
                          have H1 : (if x5_1 < x6_2 then (if x5_1 < (t179.length : Int) then (if x5_1 < (t185.length : Int) then (if x6_2 < ((rd_L4 t185 x5_1).length : Int) then (if x190002_2.length < 5864062014805 then (laws_plain.l1 k2 x5_1 (wrap64 (x6_2 + 1)) false l0_1 l0_2 t179 t182 t185 false t179 (x190002_2 ++ [(⟨rd t179 x5_1, rd t179 x6_2, rd (rd_L4 t185 x5_1) x6_2⟩ : S30)])) else (none)) else (none)) else (none)) else (none)) else (laws_plain.l1 k2 x5_1 (wrap64 (x6_2 + 1)) false l0_1 l0_2 t179 t182 t185 false t179 x190002_2)) = some (r1, r2, r3) := by rw [if_neg (show ¬ (false = true) by decide)] at H; exact H
                          clear H
                          have H := H1
                          clear H1
                          by_cases c49 : x5_1 < x6_2
                          · rw [if_pos c49] at H
                            have c49b0 : decide (x5_1 < x6_2) = true := decide_eq_true c49
                            clear c49
                            by_cases c50 : x5_1 < (t179.length : Int)
                            · rw [if_pos c50] at H
                              have c50b0 : decide (x5_1 < (t179.length : Int)) = true := decide_eq_true c50
                              clear c50
                              by_cases c51 : x5_1 < (t185.length : Int)
                              · rw [if_pos c51] at H
                                have c51b0 : decide (x5_1 < (t185.length : Int)) = true := decide_eq_true c51
                                clear c51
                                by_cases c52 : x6_2 < ((rd_L4 t185 x5_1).length : Int)
                                · rw [if_pos c52] at H
                                  have c52b0 : decide (x6_2 < ((rd_L4 t185 x5_1).length : Int)) = true := decide_eq_true c52
                                  clear c52
                                  by_cases c53 : x190002_2.length < 5864062014805
                                  · rw [if_pos c53] at H
                                    have LMc53 := Aside0.mk c53
                                    clear c53
                                    obtain ⟨y203, hy203⟩ : ∃ y_ : List (S30), y_ = (x190002_2 ++ [(⟨rd t179 x5_1, rd t179 x6_2, rd (rd_L4 t185 x5_1) x6_2⟩ : S30)]) := ⟨_, rfl⟩
                                    replace H : (laws_plain.l1 k2 x5_1 (wrap64 (x6_2 + 1)) false l0_1 l0_2 t179 t182 t185 false t179 y203) = some (r1, r2, r3) := by first | (rw [hy203]; with_reducible exact H) | (have H2_ := (Option.bind_some _ _).symm.trans H; rw [hy203]; with_reducible exact H2_) | (have H2_ := (Option.bind_some _ _).symm.trans H; with_reducible exact H2_) | with_reducible exact H | (rw [hy203]; exact H) | exact H
                                    have Ny203 := Aside0.mk hy203
                                    clear hy203
                                    have H' := Aside0.mk H
                                    clear H
                                    have hnb54 := NB188_177.out
                                    have hnc54 := NB177_188.out
                                    have hnb55 := NB188_178.out
                                    have hnc55 := NB178_188.out
                                    have hnb56 := NB188_189.out
                                    have hnc56 := NB189_188.out
                                    have hcz57_0 : wr.cell? ⟨gb188, 0, none⟩ = some (.slice Ao9 t179.length co9) := (blk_cell BK188.out 0).trans rfl
                                    have hcz57_1 : wr.cell? ⟨gb188, 1, none⟩ = some (.slice Ao13 t182.length co13) := (blk_cell BK188.out 1).trans rfl
                                    have hcz57_2 : wr.cell? ⟨gb188, 2, none⟩ = some (.slice Ao14 t185.length co14) := (blk_cell BK188.out 2).trans rfl
                                    have hfz57_0 := blk_frozen BK188.out 0
                                    have hfz57_1 := blk_frozen BK188.out 1
                                    have hfz57_2 := blk_frozen BK188.out 2
                                    have p190 : 0 ≤ (x5_1 : Int) := of_decide_eq_true (by first | (with_reducible assumption) | assumption)
                                    have q190 : x5_1 < (t182.length : Int) := of_decide_eq_true (by first | (with_reducible assumption) | assumption)
                                    obtain ⟨ad190, A190_0, c190_0, e190, hx190_0, hl190_0, hi190_0⟩ := at_L3 (Kd.S_reads' HO_189001.out).2.2 x5_1 p190 q190
                                    cases e190
                                    obtain ⟨ce190, hce190, hMe190, hcc190⟩ := Kd.S_get HO_189001.out [] x5_1 p190 (by first | exact q190 | exact of_decide_eq_true (by first | (with_reducible assumption) | assumption) | (have e_ := (Kd.S_reads' HO_189001.out).1; omega))
                                    obtain ⟨ve190_0, rfl, ge190_0⟩ := hMe190
                                    have hv190_0 := hcc190 0 _ rfl
                                    rw [Nat.add_zero, show ((Kd.slice 4 Kd.bool)).sz = 1 from rfl, Nat.mul_one] at hv190_0
                                    replace hv190_0 := Option.some.inj (hv190_0.symm.trans hx190_0)
                                    rw [hv190_0] at ge190_0
                                    have HL190_0 := Aside0.mk (show Kd.R Kd.bool 4 _ _ _ _ (rd_L3 t182 x5_1) from ge190_0)
                                    clear hv190_0 ge190_0
                                    clear hcc190 hce190
                                    have HR190_0 := Aside0.mk hi190_0
                                    have HC190_0 := Aside0.mk hl190_0
                                    clear hi190_0 hl190_0
                                    replace p190 := eq_true p190
                                    replace q190 := eq_true q190
                                    have p191 : 0 ≤ (x6_2 : Int) := of_decide_eq_true (by first | (with_reducible assumption) | assumption)
                                    have q191 : x6_2 < ((rd_L3 t182 x5_1).length : Int) := of_decide_eq_true (by first | (with_reducible assumption) | assumption)
                                    obtain ⟨ad191, e191, hx191_0⟩ := Kd.at_bool (by repeat (first | (with_reducible exact HR190_0.out) | (with_reducible refine Kd.C_alloc ?_ _) | (with_reducible refine Kd.C_drewN ?_ _) | (with_reducible refine Kd.C_drew ?_) | exact HR190_0.out)) x6_2 p191 q191
                                    (try rw [← Nbq31.out] at hx191_0)
                                    cases e191
                                    replace p191 := eq_true p191
                                    replace q191 := eq_true q191
                                    have hnb58 := NB177_178.out
                                    have hnc58 := NB178_177.out
                                    have hnb59 := NB177_189.out
                                    have hnc59 := NB189_177.out
                                    have hcz60_0 : wr.cell? ⟨gb177, 0, none⟩ = some (.bool false) := (blk_cell BK177.out 0).trans rfl
                                    have hcz60_1 : wr.cell? ⟨gb177, 1, none⟩ = some (.slice A0_1 l0_1.length c0_1) := (blk_cell BK177.out 1).trans rfl
                                    have hcz60_2 : wr.cell? ⟨gb177, 2, none⟩ = some (.slice A0_2 l0_2.length c0_2) := (blk_cell BK177.out 2).trans rfl
                                    have hfz60_0 := blk_frozen BK177.out 0
                                    have hfz60_1 := blk_frozen BK177.out 1
                                    have hfz60_2 := blk_frozen BK177.out 2
                                    try go_wp2
                                    have n0_ := Aside0.mk (Kd.R_drew HO_189000.out)
                                    have n1_ := Aside0.mk (Kd.S_drew HO_189001.out)
                                    have n2_ := Aside0.mk (Kd.S_drew HO_189002.out)
                                    have n3_ := Aside0.mk (Kd.R_drew HO_190001.out)
                                    have n4_ := Aside0.mk (Kd.R_drew HO_190002.out)
                                    have n5_ := Aside0.mk (Kd.R_drew HL190_0.out)
                                    have n6_ := Aside0.mk (blk_drew BK177.out)
                                    have n7_ := Aside0.mk (blk_drew BK178.out)
                                    have n8_ := Aside0.mk (blk_drew BK188.out)
                                    have n9_ := Aside0.mk (blk_drew BK189.out)
                                    have n10_ := Aside0.mk (Kd.C_drew HR190_0.out)
                                    have n11_ := Aside0.mk (below_drew1 HB.out)
                                    clear HO_189000
                                    clear HO_189001
                                    clear HO_189002
                                    clear HO_190001
                                    clear HO_190002
                                    clear HL190_0
                                    clear BK177
                                    clear BK178
                                    clear BK188
                                    clear BK189
                                    clear HR190_0
                                    clear HB
                                    have HO_189000 := n0_
                                    have HO_189001 := n1_
                                    have HO_189002 := n2_
                                    have HO_190001 := n3_
                                    have HO_190002 := n4_
                                    have HL190_0 := n5_
                                    have BK177 := n6_
                                    have BK178 := n7_
                                    have BK188 := n8_
                                    have BK189 := n9_
                                    have HR190_0 := n10_
                                    have HB := n11_
                                    clear n0_ n1_ n2_ n3_ n4_ n5_ n6_ n7_ n8_ n9_ n10_ n11_
                                    have p199 : 0 ≤ (x5_1 : Int) := of_decide_eq_true (by first | (with_reducible assumption) | assumption)
                                    have q199 : x5_1 < (t179.length : Int) := of_decide_eq_true (by first | (with_reducible assumption) | assumption)
                                    obtain ⟨ad199, e199, hx199_0⟩ := Kd.at_int (Kd.R_reads' HO_189000.out).2.2 x5_1 p199 q199
                                    cases e199
                                    replace p199 := eq_true p199
                                    replace q199 := eq_true q199
                                    have p200 : 0 ≤ (x6_2 : Int) := of_decide_eq_true (by first | (with_reducible assumption) | assumption)
                                    have q200 : x6_2 < (t179.length : Int) := of_decide_eq_true (by first | (with_reducible assumption) | assumption)
                                    obtain ⟨ad200, e200, hx200_0⟩ := Kd.at_int (Kd.R_reads' HO_189000.out).2.2 x6_2 p200 q200
                                    obtain rfl : ad199 = ad200 := (by injection e200)
                                    replace p200 := eq_true p200
                                    replace q200 := eq_true q200
                                    have p201 : 0 ≤ (x5_1 : Int) := of_decide_eq_true (by first | (with_reducible assumption) | assumption)
                                    have q201 : x5_1 < (t185.length : Int) := of_decide_eq_true (by first | (with_reducible assumption) | assumption)
                                    obtain ⟨ad201, A201_0, c201_0, e201, hx201_0, hl201_0, hi201_0⟩ := at_L4 (Kd.S_reads' HO_189002.out).2.2 x5_1 p201 q201
                                    cases e201
                                    obtain ⟨ce201, hce201, hMe201, hcc201⟩ := Kd.S_get HO_189002.out [] x5_1 p201 (by first | exact q201 | exact of_decide_eq_true (by first | (with_reducible assumption) | assumption) | (have e_ := (Kd.S_reads' HO_189002.out).1; omega))
                                    obtain ⟨ve201_0, rfl, ge201_0⟩ := hMe201
                                    have hv201_0 := hcc201 0 _ rfl
                                    rw [Nat.add_zero, show ((Kd.slice 3 (Kd.int .i64))).sz = 1 from rfl, Nat.mul_one] at hv201_0
                                    replace hv201_0 := Option.some.inj (hv201_0.symm.trans hx201_0)
                                    rw [hv201_0] at ge201_0
                                    have HL201_0 := Aside0.mk (show Kd.R (Kd.int .i64) 3 _ _ _ _ (rd_L4 t185 x5_1) from ge201_0)
                                    clear hv201_0 ge201_0
                                    clear hcc201 hce201
                                    have HR201_0 := Aside0.mk hi201_0
                                    have HC201_0 := Aside0.mk hl201_0
                                    clear hi201_0 hl201_0
                                    replace p201 := eq_true p201
                                    replace q201 := eq_true q201
                                    have p202 : 0 ≤ (x6_2 : Int) := of_decide_eq_true (by first | (with_reducible assumption) | assumption)
                                    have q202 : x6_2 < ((rd_L4 t185 x5_1).length : Int) := of_decide_eq_true (by first | (with_reducible assumption) | assumption)
                                    obtain ⟨ad202, e202, hx202_0⟩ := Kd.at_int (by repeat (first | (with_reducible exact HR201_0.out) | (with_reducible refine Kd.C_alloc ?_ _) | (with_reducible refine Kd.C_drewN ?_ _) | (with_reducible refine Kd.C_drew ?_) | exact HR201_0.out)) x6_2 p202 q202
                                    cases e202
                                    replace p202 := eq_true p202
                                    replace q202 := eq_true q202
                                    refine start_ (n := 25) (S := fun w' => w'.cell? ⟨gb189, 0, none⟩ = some (.bool false) ∧ w'.cell? ⟨gb189, 1, none⟩ = some (.slice (some ad199) t179.length co9) ∧ w'.cell? ⟨gb189, 2, none⟩ = some (u190002) ∧ w'.cell? ⟨gb188, 0, none⟩ = some (.slice (some ad199) t179.length co9) ∧ w'.cell? ⟨gb188, 1, none⟩ = some (.slice (some ad190) t182.length co13) ∧ w'.cell? ⟨gb188, 2, none⟩ = some (.slice (some ad201) t185.length co14) ∧ w'.cell? (ad199.add (x5_1).toNat) = some (.int .i64 (rd t179 x5_1)) ∧ w'.cell? (ad199.add (x6_2).toNat) = some (.int .i64 (rd t179 x6_2)) ∧ w'.cell? (ad201.add (x5_1).toNat) = some (.slice (some ad202) (rd_L4 t185 x5_1).length c201_0) ∧ w'.cell? (ad202.add (x6_2).toNat) = some (.int .i64 (rd (rd_L4 t185 x5_1) x6_2))) (ds := [22, 24]) #[false, false, false, false, false, false, false, false, false, false, false, false, false, false, false, false, false, false, false, false, false, false, false, false, false] (by kernel_rfl) rfl rfl ⟨(blk_cell BK189.out 0).trans rfl, (blk_cell BK189.out 1).trans rfl, (blk_cell BK189.out 2).trans rfl, (blk_cell BK188.out 0).trans rfl, (blk_cell BK188.out 1).trans rfl, (blk_cell BK188.out 2).trans rfl, hx199_0, hx200_0, hx201_0, hx202_0⟩ (fun hHeld => ?_); refine with_tabW laws_plain.tab10 laws_plain.bits10 (fun HT_ HW_ => ?_)
                                    generalize wr.drew = w61 at HO_189000 HO_189001 HO_189002 HO_190001 HO_190002 HL190_0 BK177 BK178 BK188 BK189 HR190_0 HB HL201_0 HR201_0 hx199_0 hx200_0 hx201_0 hx202_0 hHeld ⊢
                                    refine pure_ (i := 0) (N := some 45) (v := ?_) (a' := ?_) #[true, false, false, false, false, false, false, false, false, false, false, false, false, false, false, false, false, false, false, false, false, false, false, false, false] rfl rfl (any_of HT_.out (by kernel_rfl)) (fun _ _ _ h => h) (Or.inl ⟨by rfl, ?_⟩) ?_ ?_
                                    rotate_left
                                    · intro w'
                                      go_simp
                                      with_reducible rfl
                                    rotate_left
                                    · simp only [Act.put, List.setIfInBounds_toArray, List.set_cons_zero, List.set_cons_succ, i64_w, i32_w]
                                      rfl
                                    refine pure_ (i := 2) (N := some 47) (v := ?_) (a' := ?_) #[true, false, true, false, false, false, false, false, false, false, false, false, false, false, false, false, false, false, false, false, false, false, false, false, false] rfl rfl (any_of HT_.out (by kernel_rfl)) (fun _ _ _ h => h) (Or.inl ⟨by rfl, ?_⟩) ?_ ?_
                                    rotate_left
                                    · intro w'
                                      go_simp
                                      with_reducible rfl
                                    rotate_left
                                    · simp only [Act.put, List.setIfInBounds_toArray, List.set_cons_zero, List.set_cons_succ, i64_w, i32_w]
                                      rfl
                                    refine pure_ (i := 4) (N := some 49) (v := ?_) (a' := ?_) #[true, false, true, false, true, false, false, false, false, false, false, false, false, false, false, false, false, false, false, false, false, false, false, false, false] rfl rfl (any_of HT_.out (by kernel_rfl)) (fun _ _ _ h => h) (Or.inl ⟨by rfl, ?_⟩) ?_ ?_
                                    rotate_left
                                    · intro w'
                                      go_simp
                                      with_reducible rfl
                                    rotate_left
                                    · simp only [Act.put, List.setIfInBounds_toArray, List.set_cons_zero, List.set_cons_succ, i64_w, i32_w]
                                      rfl
                                    refine pure_ (i := 7) (N := some 52) (v := ?_) (a' := ?_) #[true, false, true, false, true, false, false, true, false, false, false, false, false, false, false, false, false, false, false, false, false, false, false, false, false] rfl rfl (any_of HT_.out (by kernel_rfl)) (fun _ _ _ h => h) (Or.inl ⟨by rfl, ?_⟩) ?_ ?_
                                    rotate_left
                                    · intro w'
                                      go_simp
                                      with_reducible rfl
                                    rotate_left
                                    · simp only [Act.put, List.setIfInBounds_toArray, List.set_cons_zero, List.set_cons_succ, i64_w, i32_w]
                                      rfl
                                    refine pure_ (i := 9) (N := some 54) (v := ?_) (a' := ?_) #[true, false, true, false, true, false, false, true, false, true, false, false, false, false, false, false, false, false, false, false, false, false, false, false, false] rfl rfl (any_of HT_.out (by kernel_rfl)) (fun _ _ _ h => h) (Or.inl ⟨by rfl, ?_⟩) ?_ ?_
                                    rotate_left
                                    · intro w'
                                      go_simp
                                      with_reducible rfl
                                    rotate_left
                                    · simp only [Act.put, List.setIfInBounds_toArray, List.set_cons_zero, List.set_cons_succ, i64_w, i32_w]
                                      rfl
                                    refine pure_ (i := 12) (N := some 57) (v := ?_) (a' := ?_) #[true, false, true, false, true, false, false, true, false, true, false, false, true, false, false, false, false, false, false, false, false, false, false, false, false] rfl rfl (any_of HT_.out (by kernel_rfl)) (fun _ _ _ h => h) (Or.inl ⟨by rfl, ?_⟩) ?_ ?_
                                    rotate_left
                                    · intro w'
                                      go_simp
                                      with_reducible rfl
                                    rotate_left
                                    · simp only [Act.put, List.setIfInBounds_toArray, List.set_cons_zero, List.set_cons_succ, i64_w, i32_w]
                                      rfl
                                    refine pure_ (i := 14) (N := some 59) (v := ?_) (a' := ?_) #[true, false, true, false, true, false, false, true, false, true, false, false, true, false, true, false, false, false, false, false, false, false, false, false, false] rfl rfl (any_of HT_.out (by kernel_rfl)) (fun _ _ _ h => h) (Or.inl ⟨by rfl, ?_⟩) ?_ ?_
                                    rotate_left
                                    · intro w'
                                      go_simp
                                      with_reducible rfl
                                    rotate_left
                                    · simp only [Act.put, List.setIfInBounds_toArray, List.set_cons_zero, List.set_cons_succ, i64_w, i32_w]
                                      rfl
                                    refine pure_ (i := 17) (N := some 62) (v := ?_) (a' := ?_) #[true, false, true, false, true, false, false, true, false, true, false, false, true, false, true, false, false, true, false, false, false, false, false, false, false] rfl rfl (any_of HT_.out (by kernel_rfl)) (fun _ _ _ h => h) (Or.inl ⟨by rfl, ?_⟩) ?_ ?_
                                    rotate_left
                                    · intro w'
                                      go_simp
                                      with_reducible rfl
                                    rotate_left
                                    · simp only [Act.put, List.setIfInBounds_toArray, List.set_cons_zero, List.set_cons_succ, i64_w, i32_w]
                                      rfl
                                    refine take_ (i := 1) (N := some 46) (v := ?_) (a' := ?_) #[true, true, true, false, true, false, false, true, false, true, false, false, true, false, true, false, false, true, false, false, false, false, false, false, false] rfl rfl (take_ofW HT_.out HW_.out (by kernel_rfl)) (fun _ _ _ h => h) (Or.inl ⟨by rfl, ?_⟩) hHeld ?_ ?_
                                    rotate_left
                                    · rintro w' ⟨s0, s1, s2, s3, s4, s5, s6, s7, s8, s9⟩
                                      go_simp
                                      with_reducible rfl
                                    rotate_left
                                    · simp only [Act.put, List.setIfInBounds_toArray, List.set_cons_zero, List.set_cons_succ, i64_w, i32_w]
                                      rfl
                                    refine take_ (i := 3) (N := some 48) (v := ?_) (a' := ?_) #[true, true, true, true, true, false, false, true, false, true, false, false, true, false, true, false, false, true, false, false, false, false, false, false, false] rfl rfl (take_ofW HT_.out HW_.out (by kernel_rfl)) (fun _ _ _ h => h) (Or.inl ⟨by rfl, ?_⟩) hHeld ?_ ?_
                                    rotate_left
                                    · rintro w' ⟨s0, s1, s2, s3, s4, s5, s6, s7, s8, s9⟩
                                      go_simp
                                      with_reducible rfl
                                    rotate_left
                                    · simp only [Act.put, List.setIfInBounds_toArray, List.set_cons_zero, List.set_cons_succ, i64_w, i32_w]
                                      rfl
                                    refine pure_ (i := 5) (N := some 50) (v := ?_) (a' := ?_) #[true, true, true, true, true, true, false, true, false, true, false, false, true, false, true, false, false, true, false, false, false, false, false, false, false] rfl rfl (any_of HT_.out (by kernel_rfl)) (fun _ _ _ h => h) (Or.inl ⟨by rfl, ?_⟩) ?_ ?_
                                    rotate_left
                                    · intro w'
                                      go_simp
                                      with_reducible rfl
                                    rotate_left
                                    · simp only [Act.put, List.setIfInBounds_toArray, List.set_cons_zero, List.set_cons_succ, i64_w, i32_w]
                                      rfl
                                    refine take_ (i := 6) (N := some 51) (v := ?_) (a' := ?_) #[true, true, true, true, true, true, true, true, false, true, false, false, true, false, true, false, false, true, false, false, false, false, false, false, false] rfl rfl (take_ofW HT_.out HW_.out (by kernel_rfl)) (fun _ _ _ h => h) (Or.inl ⟨by rfl, ?_⟩) hHeld ?_ ?_
                                    rotate_left
                                    · rintro w' ⟨s0, s1, s2, s3, s4, s5, s6, s7, s8, s9⟩
                                      go_simp
                                      with_reducible rfl
                                    rotate_left
                                    · simp only [Act.put, List.setIfInBounds_toArray, List.set_cons_zero, List.set_cons_succ, i64_w, i32_w]
                                      rfl
                                    refine take_ (i := 8) (N := some 53) (v := ?_) (a' := ?_) #[true, true, true, true, true, true, true, true, true, true, false, false, true, false, true, false, false, true, false, false, false, false, false, false, false] rfl rfl (take_ofW HT_.out HW_.out (by kernel_rfl)) (fun _ _ _ h => h) (Or.inl ⟨by rfl, ?_⟩) hHeld ?_ ?_
                                    rotate_left
                                    · rintro w' ⟨s0, s1, s2, s3, s4, s5, s6, s7, s8, s9⟩
                                      go_simp
                                      with_reducible rfl
                                    rotate_left
                                    · simp only [Act.put, List.setIfInBounds_toArray, List.set_cons_zero, List.set_cons_succ, i64_w, i32_w]
                                      rfl
                                    refine pure_ (i := 10) (N := some 55) (v := ?_) (a' := ?_) #[true, true, true, true, true, true, true, true, true, true, true, false, true, false, true, false, false, true, false, false, false, false, false, false, false] rfl rfl (any_of HT_.out (by kernel_rfl)) (fun _ _ _ h => h) (Or.inl ⟨by rfl, ?_⟩) ?_ ?_
                                    rotate_left
                                    · intro w'
                                      go_simp
                                      with_reducible rfl
                                    rotate_left
                                    · simp only [Act.put, List.setIfInBounds_toArray, List.set_cons_zero, List.set_cons_succ, i64_w, i32_w]
                                      rfl
                                    refine take_ (i := 11) (N := some 56) (v := ?_) (a' := ?_) #[true, true, true, true, true, true, true, true, true, true, true, true, true, false, true, false, false, true, false, false, false, false, false, false, false] rfl rfl (take_ofW HT_.out HW_.out (by kernel_rfl)) (fun _ _ _ h => h) (Or.inl ⟨by rfl, ?_⟩) hHeld ?_ ?_
                                    rotate_left
                                    · rintro w' ⟨s0, s1, s2, s3, s4, s5, s6, s7, s8, s9⟩
                                      go_simp
                                      with_reducible rfl
                                    rotate_left
                                    · simp only [Act.put, List.setIfInBounds_toArray, List.set_cons_zero, List.set_cons_succ, i64_w, i32_w]
                                      rfl
                                    refine take_ (i := 13) (N := some 58) (v := ?_) (a' := ?_) #[true, true, true, true, true, true, true, true, true, true, true, true, true, true, true, false, false, true, false, false, false, false, false, false, false] rfl rfl (take_ofW HT_.out HW_.out (by kernel_rfl)) (fun _ _ _ h => h) (Or.inl ⟨by rfl, ?_⟩) hHeld ?_ ?_
                                    rotate_left
                                    · rintro w' ⟨s0, s1, s2, s3, s4, s5, s6, s7, s8, s9⟩
                                      go_simp
                                      with_reducible rfl
                                    rotate_left
                                    · simp only [Act.put, List.setIfInBounds_toArray, List.set_cons_zero, List.set_cons_succ, i64_w, i32_w]
                                      rfl
                                    refine pure_ (i := 15) (N := some 60) (v := ?_) (a' := ?_) #[true, true, true, true, true, true, true, true, true, true, true, true, true, true, true, true, false, true, false, false, false, false, false, false, false] rfl rfl (any_of HT_.out (by kernel_rfl)) (fun _ _ _ h => h) (Or.inl ⟨by rfl, ?_⟩) ?_ ?_
                                    rotate_left
                                    · intro w'
                                      go_simp
                                      with_reducible rfl
                                    rotate_left
                                    · simp only [Act.put, List.setIfInBounds_toArray, List.set_cons_zero, List.set_cons_succ, i64_w, i32_w]
                                      rfl
                                    refine take_ (i := 16) (N := some 61) (v := ?_) (a' := ?_) #[true, true, true, true, true, true, true, true, true, true, true, true, true, true, true, true, true, true, false, false, false, false, false, false, false] rfl rfl (take_ofW HT_.out HW_.out (by kernel_rfl)) (fun _ _ _ h => h) (Or.inl ⟨by rfl, ?_⟩) hHeld ?_ ?_
                                    rotate_left
                                    · rintro w' ⟨s0, s1, s2, s3, s4, s5, s6, s7, s8, s9⟩
                                      go_simp
                                      with_reducible rfl
                                    rotate_left
                                    · simp only [Act.put, List.setIfInBounds_toArray, List.set_cons_zero, List.set_cons_succ, i64_w, i32_w]
                                      rfl
                                    refine pure_ (i := 18) (N := some 63) (v := ?_) (a' := ?_) #[true, true, true, true, true, true, true, true, true, true, true, true, true, true, true, true, true, true, true, false, false, false, false, false, false] rfl rfl (any_of HT_.out (by kernel_rfl)) (fun _ _ _ h => h) (Or.inl ⟨by rfl, ?_⟩) ?_ ?_
                                    rotate_left
                                    · intro w'
                                      go_simp
                                      with_reducible rfl
                                    rotate_left
                                    · simp only [Act.put, List.setIfInBounds_toArray, List.set_cons_zero, List.set_cons_succ, i64_w, i32_w]
                                      rfl
                                    refine take_ (i := 19) (N := some 64) (v := ?_) (a' := ?_) #[true, true, true, true, true, true, true, true, true, true, true, true, true, true, true, true, true, true, true, true, false, false, false, false, false] rfl rfl (take_ofW HT_.out HW_.out (by kernel_rfl)) (fun _ _ _ h => h) (Or.inl ⟨by rfl, ?_⟩) hHeld ?_ ?_
                                    rotate_left
                                    · rintro w' ⟨s0, s1, s2, s3, s4, s5, s6, s7, s8, s9⟩
                                      go_simp
                                      with_reducible rfl
                                    rotate_left
                                    · simp only [Act.put, List.setIfInBounds_toArray, List.set_cons_zero, List.set_cons_succ, i64_w, i32_w]
                                      rfl
                                    refine pure_ (i := 20) (N := some 65) (v := ?_) (a' := ?_) #[true, true, true, true, true, true, true, true, true, true, true, true, true, true, true, true, true, true, true, true, true, false, false, false, false] rfl rfl (any_of HT_.out (by kernel_rfl)) (fun _ _ _ h => h) (Or.inl ⟨by rfl, ?_⟩) ?_ ?_
                                    rotate_left
                                    · intro w'
                                      go_simp
                                      with_reducible rfl
                                    rotate_left
                                    · simp only [Act.put, List.setIfInBounds_toArray, List.set_cons_zero, List.set_cons_succ, i64_w, i32_w]
                                      rfl
                                    refine one_ (i := 21) (N := some 66) #[true, true, true, true, true, true, true, true, true, true, true, true, true, true, true, true, true, true, true, true, true, true, false, false, false] rfl rfl (one_of HT_.out (by kernel_rfl)) (by decide) (fun K hK => ?_)
                                    refine value_ (w1 := ?_) (v := ?_) (by rfl) rfl ?_ ?_
                                    rotate_left 2
                                    · go_simp
                                      constructor
                                      · rfl
                                      · rfl
                                    refine hK.out _ _ ⟨(blk_cell (blk_alloc BK189.out _) 0).trans rfl, (blk_cell (blk_alloc BK189.out _) 1).trans rfl, (blk_cell (blk_alloc BK189.out _) 2).trans rfl, (blk_cell (blk_alloc BK188.out _) 0).trans rfl, (blk_cell (blk_alloc BK188.out _) 1).trans rfl, (blk_cell (blk_alloc BK188.out _) 2).trans rfl, (World.cell?_alloc_lt _ _ _ (World.block_lt_of_cell? _ _ (hHeld.2.2.2.2.2.2.1))).trans (hHeld.2.2.2.2.2.2.1), (World.cell?_alloc_lt _ _ _ (World.block_lt_of_cell? _ _ (hHeld.2.2.2.2.2.2.2.1))).trans (hHeld.2.2.2.2.2.2.2.1), (World.cell?_alloc_lt _ _ _ (World.block_lt_of_cell? _ _ (hHeld.2.2.2.2.2.2.2.2.1))).trans (hHeld.2.2.2.2.2.2.2.2.1), (World.cell?_alloc_lt _ _ _ (World.block_lt_of_cell? _ _ (hHeld.2.2.2.2.2.2.2.2.2))).trans (hHeld.2.2.2.2.2.2.2.2.2)⟩ (fun hHeld => ?_)
                                    clear hK K
                                    refine norm_ (a' := ?_) ?_ ?_
                                    rotate_left
                                    · show Act.put _ (some 66) _ = _
                                      simp only [Act.put, List.setIfInBounds_toArray, List.set_cons_zero, List.set_cons_succ, i64_w, i32_w]
                                      rfl
                                    refine last_ (i := 22) (N := some 67) #[true, true, true, true, true, true, true, true, true, true, true, true, true, true, true, true, true, true, true, true, true, true, true, false, false] rfl rfl (one_of HT_.out (by kernel_rfl)) (by decide) (fun K hK => ?_)
                                    refine Kd.R_append_step k30 (w0 := w) w.heap.size (by rfl) (.tmp 46) (.tmp 66) 23 30 (.agg #[(.int .i64 0), (.int .i64 0), (.int .i64 0)]) 24 rfl Try.underlying23 info30 rfl (by decide) (by omega) u190002 x190002_2 (⟨rd t179 x5_1, rd t179 x6_2, rd (rd_L4 t185 x5_1) x6_2⟩ : S30) [.int .i64 (rd t179 x5_1), .int .i64 (rd t179 x6_2), .int .i64 (rd (rd_L4 t185 x5_1) x6_2)] (fun _ => True) (fun _ => False) rfl rfl ?aP (fun _ hk => hk.elim) ?aF ?aO ?aB ?aS ?aL ?_
                                    (case aP => exact k30_mkM _ _ _ (⟨rd t179 x5_1, rd t179 x6_2, rd (rd_L4 t185 x5_1) x6_2⟩ : S30))
                                    (case aB => exact (by repeat (first | (with_reducible first | exact HB.out | apply below_alloc | apply pw_below_drewN | apply below_drew1 | refine below_set ?_ GE177.out | refine below_set ?_ GE178.out | refine below_set ?_ GE188.out | refine below_set ?_ GE189.out) | exact HB.out)))
                                    (case aF => exact (fun _ _ => trivial))
                                    (case aO => exact (by (with_reducible repeat (first | apply Kd.R_alloc | apply Kd.R_drewN | apply Kd.R_drew)); exact HO_190002.out))
                                    (case aS => exact (below_size (by repeat (first | (with_reducible first | exact HB.out | apply below_alloc | apply pw_below_drewN | apply below_drew1 | refine below_set ?_ GE177.out | refine below_set ?_ GE178.out | refine below_set ?_ GE188.out | refine below_set ?_ GE189.out) | exact HB.out))))
                                    (case aL => have := LMc53.out; omega)
                                    intro v204 w62 ho hb hg hat
                                    rw [← Ny203.out] at ho
                                    have n0_ := Aside0.mk (Kd.R_over' (by (with_reducible repeat (first | apply Kd.R_alloc | apply Kd.R_drewN | apply Kd.R_drew)); exact HO_189000.out) (Kd.R_typed (by (with_reducible repeat (first | apply Kd.R_alloc | apply Kd.R_drewN | apply Kd.R_drew)); exact HO_190002.out)) (by decide) hg)
                                    have n1_ := Aside0.mk (Kd.S_over' (by (with_reducible repeat (first | apply Kd.S_alloc | apply Kd.S_drewN | apply Kd.S_drew)); exact HO_189001.out) (Kd.R_typed (by (with_reducible repeat (first | apply Kd.R_alloc | apply Kd.R_drewN | apply Kd.R_drew)); exact HO_190002.out)) (by decide) hg)
                                    have n2_ := Aside0.mk (Kd.S_over' (by (with_reducible repeat (first | apply Kd.S_alloc | apply Kd.S_drewN | apply Kd.S_drew)); exact HO_189002.out) (Kd.R_typed (by (with_reducible repeat (first | apply Kd.R_alloc | apply Kd.R_drewN | apply Kd.R_drew)); exact HO_190002.out)) (by decide) hg)
                                    have n3_ := Aside0.mk (Kd.R_over' (by (with_reducible repeat (first | apply Kd.R_alloc | apply Kd.R_drewN | apply Kd.R_drew)); exact HO_190001.out) (Kd.R_typed (by (with_reducible repeat (first | apply Kd.R_alloc | apply Kd.R_drewN | apply Kd.R_drew)); exact HO_190002.out)) (by decide) hg)
                                    have n4_ := Aside0.mk (blk_grown (g := gb177) (o := .cells #[.bool false, .slice A0_1 l0_1.length c0_1, .slice A0_2 l0_2.length c0_2] 25 (0, 0)) (by (with_reducible repeat (first | refine blk_drewN ?_ _ | refine blk_drew ?_ | refine blk_alloc ?_ _)); exact BK177.out) hg (Kd.R_ne HO_190002.out BK177.out (by decide)))
                                    have n5_ := Aside0.mk (blk_grown (g := gb178) (o := .cells #[.bool false, .slice none 0 0, .slice none 0 0] 25 (0, 0)) (by (with_reducible repeat (first | refine blk_drewN ?_ _ | refine blk_drew ?_ | refine blk_alloc ?_ _)); exact BK178.out) hg (Kd.R_ne HO_190002.out BK178.out (by decide)))
                                    have n6_ := Aside0.mk (blk_grown (g := gb188) (o := .cells #[.slice (some ad199) t179.length co9, .slice (some ad190) t182.length co13, .slice (some ad201) t185.length co14] 51 (0, 0)) (by (with_reducible repeat (first | refine blk_drewN ?_ _ | refine blk_drew ?_ | refine blk_alloc ?_ _)); exact BK188.out) hg (Kd.R_ne HO_190002.out BK188.out (by decide)))
                                    have n7_ := Aside0.mk (blk_grown (g := gb189) (o := .cells #[.bool false, .slice (some ad199) t179.length co9, u190002] 25 (0, 0)) (by (with_reducible repeat (first | refine blk_drewN ?_ _ | refine blk_drew ?_ | refine blk_alloc ?_ _)); exact BK189.out) hg (Kd.R_ne HO_190002.out BK189.out (by decide)))
                                    have n8_ := Aside0.mk (Kd.R_over' (by (with_reducible repeat (first | apply Kd.R_alloc | apply Kd.R_drewN | apply Kd.R_drew)); exact HL190_0.out) (Kd.R_typed (by (with_reducible repeat (first | apply Kd.R_alloc | apply Kd.R_drewN | apply Kd.R_drew)); exact HO_190002.out)) (by decide) hg)
                                    have n9_ := Aside0.mk (Kd.R_over' (by (with_reducible repeat (first | apply Kd.R_alloc | apply Kd.R_drewN | apply Kd.R_drew)); exact HL201_0.out) (Kd.R_typed (by (with_reducible repeat (first | apply Kd.R_alloc | apply Kd.R_drewN | apply Kd.R_drew)); exact HO_190002.out)) (by decide) hg)
                                    have n10_ := Aside0.mk (hb)
                                    have n11_ := Aside0.mk (ho)
                                    clear HO_189000
                                    clear HO_189001
                                    clear HO_189002
                                    clear HO_190001
                                    clear BK177
                                    clear BK178
                                    clear BK188
                                    clear BK189
                                    clear HL190_0
                                    clear HL201_0
                                    clear HB
                                    clear HO_190002
                                    have HO_189000 := n0_
                                    have HO_189001 := n1_
                                    have HO_189002 := n2_
                                    have HO_190001 := n3_
                                    have BK177 := n4_
                                    have BK178 := n5_
                                    have BK188 := n6_
                                    have BK189 := n7_
                                    have HL190_0 := n8_
                                    have HL201_0 := n9_
                                    have HB := n10_
                                    have HO205 := n11_
                                    clear n0_ n1_ n2_ n3_ n4_ n5_ n6_ n7_ n8_ n9_ n10_ n11_
                                    clear ho hb hg hat
                                    obtain ⟨Ao63, co63, eo63⟩ := Kd.R_slice HO205.out
                                    (first | subst eo63 | (injection eo63 with f1_ f2_ f3_; have f4_ := f1_.symm; have f5_ := f3_.symm; clear f1_ f2_ f3_; subst f4_; subst f5_))
                                    refine hK.out _ _ ?_
                                    clear hK K
                                    refine norm_ (a' := ?_) ?_ ?_
                                    rotate_left
                                    · show Act.put _ (some 67) _ = _
                                      simp only [Act.put, List.setIfInBounds_toArray, List.set_cons_zero, List.set_cons_succ, i64_w, i32_w]
                                      rfl
                                    refine pure_ (i := 23) (N := some 68) (v := ?_) (a' := ?_) #[true, true, true, true, true, true, true, true, true, true, true, true, true, true, true, true, true, true, true, true, true, true, true, true, false] rfl rfl (any_of HT_.out (by kernel_rfl)) (fun _ _ _ h => h) (Or.inl ⟨by rfl, ?_⟩) ?_ ?_
                                    rotate_left
                                    · intro w'
                                      go_simp
                                      with_reducible rfl
                                    rotate_left
                                    · simp only [Act.put, List.setIfInBounds_toArray, List.set_cons_zero, List.set_cons_succ, i64_w, i32_w]
                                      rfl
                                    refine last_ (i := 24) (N := none) #[true, true, true, true, true, true, true, true, true, true, true, true, true, true, true, true, true, true, true, true, true, true, true, true, true] rfl rfl (one_of HT_.out (by kernel_rfl)) (by decide) (fun K hK => ?_)
                                    have hs64 : w62.cell? ⟨gb189, 2, none⟩ = some (u190002) := (blk_cell BK189.out 2).trans rfl
                                    have hfs64 := blk_frozen BK189.out 2
                                    have hns64_0 := NB177_189.out
                                    have hns64_1 := NB178_189.out
                                    have hns64_2 := NB188_189.out
                                    have hms64_0 := NB189_177.out
                                    have hms64_1 := NB189_178.out
                                    have hms64_2 := NB189_188.out
                                    refine skip_ (w1 := ?_) (by rfl) rfl ?_ ?_
                                    rotate_left
                                    · go_simp
                                      rfl
                                    refine hK.out _ _ ?_
                                    clear hK K
                                    refine done_ (done_of HT_.out (by kernel_rfl)) ?_
                                    try go_wp2
                                    go_roundg k2
                                    case measure => have := HK1.out; have := HK2.out; omega
                                    case rel => exact ⟨(wrap64 (x6_2 + 1)), (y203), (.slice Ao63 y203.length co63), (by first | rfl | (simp; done) | (simp [*]; done)), H', ⟨by have := HK1.out; have := HK2.out; omega⟩, ⟨by (with_reducible repeat (first | apply Kd.R_alloc | apply Kd.R_drewN | apply Kd.R_drew)); exact Kd.R_mono (Kd.R_far (p := ⟨gb189, 2, none⟩) (Kd.R_types HO_189000.out BK189.out (by decide)) (fun _ hk => hk.2) (.slice Ao63 y203.length co63)) (fun _ hk => trivial)⟩, ⟨by (with_reducible repeat (first | apply Kd.S_alloc | apply Kd.S_drewN | apply Kd.S_drew)); exact Kd.S_mono (Kd.S_far (p := ⟨gb189, 2, none⟩) (Kd.S_types HO_189001.out BK189.out (by decide)) (fun _ hk => hk.2) (.slice Ao63 y203.length co63)) (fun _ hk => trivial)⟩, ⟨by (with_reducible repeat (first | apply Kd.S_alloc | apply Kd.S_drewN | apply Kd.S_drew)); exact Kd.S_mono (Kd.S_far (p := ⟨gb189, 2, none⟩) (Kd.S_types HO_189002.out BK189.out (by decide)) (fun _ hk => hk.2) (.slice Ao63 y203.length co63)) (fun _ hk => ⟨hk.1.1, hk.1.2⟩)⟩, ⟨by (with_reducible repeat (first | apply Kd.R_alloc | apply Kd.R_drewN | apply Kd.R_drew)); exact Kd.R_mono (Kd.R_far (p := ⟨gb189, 2, none⟩) (Kd.R_types HO_190001.out BK189.out (by decide)) (fun _ hk => hk.2) (.slice Ao63 y203.length co63)) (fun _ hk => trivial)⟩, ⟨by (with_reducible repeat (first | apply Kd.R_alloc | apply Kd.R_drewN | apply Kd.R_drew)); exact Kd.R_mono (Kd.R_far (p := ⟨gb189, 2, none⟩) (Kd.R_types HO205.out BK189.out (by decide)) (fun _ hk => hk.2) (.slice Ao63 y203.length co63)) (fun _ hk => trivial)⟩, ⟨by (with_reducible repeat (first | refine blk_drewN ?_ _ | refine blk_drew ?_ | refine blk_alloc ?_ _)); refine blk_far ?_ NB177_189.out _; (with_reducible repeat (first | refine blk_drewN ?_ _ | refine blk_drew ?_ | refine blk_alloc ?_ _)); exact BK177.out⟩, ⟨by (with_reducible repeat (first | refine blk_drewN ?_ _ | refine blk_drew ?_ | refine blk_alloc ?_ _)); refine blk_far ?_ NB178_189.out _; (with_reducible repeat (first | refine blk_drewN ?_ _ | refine blk_drew ?_ | refine blk_alloc ?_ _)); exact BK178.out⟩, ⟨by (with_reducible repeat (first | refine blk_drewN ?_ _ | refine blk_drew ?_ | refine blk_alloc ?_ _)); refine blk_far ?_ NB188_189.out _; (with_reducible repeat (first | refine blk_drewN ?_ _ | refine blk_drew ?_ | refine blk_alloc ?_ _)); exact BK188.out⟩, ⟨by (with_reducible repeat (first | refine blk_drewN ?_ _ | refine blk_drew ?_ | refine blk_alloc ?_ _)); refine blk_put (cs := #[.bool false, .slice (some ad199) t179.length co9, u190002]) ?_ 2 _ rfl; (with_reducible repeat (first | refine blk_drewN ?_ _ | refine blk_drew ?_ | refine blk_alloc ?_ _)); exact BK189.out⟩, ⟨by repeat (first | (with_reducible first | exact HB.out | apply below_alloc | apply pw_below_drewN | apply below_drew1 | refine below_set ?_ GE177.out | refine below_set ?_ GE178.out | refine below_set ?_ GE188.out | refine below_set ?_ GE189.out) | exact HB.out)⟩⟩
                                  · rw [if_neg c53] at H
                                    exact absurd H (by simp)
                                · rw [if_neg c52] at H
                                  exact absurd H (by simp)
                              · rw [if_neg c51] at H
                                exact absurd H (by simp)
                            · rw [if_neg c50] at H
                              exact absurd H (by simp)
                          · rw [if_neg c49] at H
                            have c49b0 : decide (x5_1 < x6_2) = false := decide_eq_false c49
                            clear c49
                            have H' := Aside0.mk H
                            clear H
                            have hnb65 := NB188_177.out
                            have hnc65 := NB177_188.out
                            have hnb66 := NB188_178.out
                            have hnc66 := NB178_188.out
                            have hnb67 := NB188_189.out
                            have hnc67 := NB189_188.out
                            have hcz68_0 : wr.cell? ⟨gb188, 0, none⟩ = some (.slice Ao9 t179.length co9) := (blk_cell BK188.out 0).trans rfl
                            have hcz68_1 : wr.cell? ⟨gb188, 1, none⟩ = some (.slice Ao13 t182.length co13) := (blk_cell BK188.out 1).trans rfl
                            have hcz68_2 : wr.cell? ⟨gb188, 2, none⟩ = some (.slice Ao14 t185.length co14) := (blk_cell BK188.out 2).trans rfl
                            have hfz68_0 := blk_frozen BK188.out 0
                            have hfz68_1 := blk_frozen BK188.out 1
                            have hfz68_2 := blk_frozen BK188.out 2
                            have p190 : 0 ≤ (x5_1 : Int) := of_decide_eq_true (by first | (with_reducible assumption) | assumption)
                            have q190 : x5_1 < (t182.length : Int) := of_decide_eq_true (by first | (with_reducible assumption) | assumption)
                            obtain ⟨ad190, A190_0, c190_0, e190, hx190_0, hl190_0, hi190_0⟩ := at_L3 (Kd.S_reads' HO_189001.out).2.2 x5_1 p190 q190
                            cases e190
                            obtain ⟨ce190, hce190, hMe190, hcc190⟩ := Kd.S_get HO_189001.out [] x5_1 p190 (by first | exact q190 | exact of_decide_eq_true (by first | (with_reducible assumption) | assumption) | (have e_ := (Kd.S_reads' HO_189001.out).1; omega))
                            obtain ⟨ve190_0, rfl, ge190_0⟩ := hMe190
                            have hv190_0 := hcc190 0 _ rfl
                            rw [Nat.add_zero, show ((Kd.slice 4 Kd.bool)).sz = 1 from rfl, Nat.mul_one] at hv190_0
                            replace hv190_0 := Option.some.inj (hv190_0.symm.trans hx190_0)
                            rw [hv190_0] at ge190_0
                            have HL190_0 := Aside0.mk (show Kd.R Kd.bool 4 _ _ _ _ (rd_L3 t182 x5_1) from ge190_0)
                            clear hv190_0 ge190_0
                            clear hcc190 hce190
                            have HR190_0 := Aside0.mk hi190_0
                            have HC190_0 := Aside0.mk hl190_0
                            clear hi190_0 hl190_0
                            replace p190 := eq_true p190
                            replace q190 := eq_true q190
                            have p191 : 0 ≤ (x6_2 : Int) := of_decide_eq_true (by first | (with_reducible assumption) | assumption)
                            have q191 : x6_2 < ((rd_L3 t182 x5_1).length : Int) := of_decide_eq_true (by first | (with_reducible assumption) | assumption)
                            obtain ⟨ad191, e191, hx191_0⟩ := Kd.at_bool (by repeat (first | (with_reducible exact HR190_0.out) | (with_reducible refine Kd.C_alloc ?_ _) | (with_reducible refine Kd.C_drewN ?_ _) | (with_reducible refine Kd.C_drew ?_) | exact HR190_0.out)) x6_2 p191 q191
                            (try rw [← Nbq31.out] at hx191_0)
                            cases e191
                            replace p191 := eq_true p191
                            replace q191 := eq_true q191
                            have hnb69 := NB177_178.out
                            have hnc69 := NB178_177.out
                            have hnb70 := NB177_189.out
                            have hnc70 := NB189_177.out
                            have hcz71_0 : wr.cell? ⟨gb177, 0, none⟩ = some (.bool false) := (blk_cell BK177.out 0).trans rfl
                            have hcz71_1 : wr.cell? ⟨gb177, 1, none⟩ = some (.slice A0_1 l0_1.length c0_1) := (blk_cell BK177.out 1).trans rfl
                            have hcz71_2 : wr.cell? ⟨gb177, 2, none⟩ = some (.slice A0_2 l0_2.length c0_2) := (blk_cell BK177.out 2).trans rfl
                            have hfz71_0 := blk_frozen BK177.out 0
                            have hfz71_1 := blk_frozen BK177.out 1
                            have hfz71_2 := blk_frozen BK177.out 2
                            go_wp2
                            go_roundg k2
                            case measure => have := HK1.out; have := HK2.out; omega
                            case rel => exact ⟨(wrap64 (x6_2 + 1)), (x190002_2), (u190002), (by first | rfl | (simp; done) | (simp [*]; done)), H', ⟨by have := HK1.out; have := HK2.out; omega⟩, ⟨by (with_reducible repeat (first | apply Kd.R_alloc | apply Kd.R_drewN | apply Kd.R_drew)); exact HO_189000.out⟩, ⟨by (with_reducible repeat (first | apply Kd.S_alloc | apply Kd.S_drewN | apply Kd.S_drew)); exact HO_189001.out⟩, ⟨by (with_reducible repeat (first | apply Kd.S_alloc | apply Kd.S_drewN | apply Kd.S_drew)); exact HO_189002.out⟩, ⟨by (with_reducible repeat (first | apply Kd.R_alloc | apply Kd.R_drewN | apply Kd.R_drew)); exact HO_190001.out⟩, ⟨by (with_reducible repeat (first | apply Kd.R_alloc | apply Kd.R_drewN | apply Kd.R_drew)); exact HO_190002.out⟩, ⟨by (with_reducible repeat (first | refine blk_drewN ?_ _ | refine blk_drew ?_ | refine blk_alloc ?_ _)); exact BK177.out⟩, ⟨by (with_reducible repeat (first | refine blk_drewN ?_ _ | refine blk_drew ?_ | refine blk_alloc ?_ _)); exact BK178.out⟩, ⟨by (with_reducible repeat (first | refine blk_drewN ?_ _ | refine blk_drew ?_ | refine blk_alloc ?_ _)); exact BK188.out⟩, ⟨by (with_reducible repeat (first | refine blk_drewN ?_ _ | refine blk_drew ?_ | refine blk_alloc ?_ _)); exact BK189.out⟩, ⟨by repeat (first | (with_reducible first | exact HB.out | apply below_alloc | apply pw_below_drewN | apply below_drew1 | refine below_set ?_ GE177.out | refine below_set ?_ GE178.out | refine below_set ?_ GE188.out | refine below_set ?_ GE189.out) | exact HB.out)⟩⟩
                      · replace c32 := Bool.eq_false_iff.mpr c32
                        subst c32
                        have H1 : (laws_plain.l1 k2 x5_1 (wrap64 (x6_2 + 1)) a0_0 l0_1 l0_2 t179 t182 t185 a0_0 t179 x190002_2) = some (r1, r2, r3) := by rw [if_neg (show ¬ (false = true) by decide)] at H; exact H
                        clear H
                        have H := H1
                        clear H1
                        have H' := Aside0.mk H
                        clear H
                        have hnb72 := NB188_177.out
                        have hnc72 := NB177_188.out
                        have hnb73 := NB188_178.out
                        have hnc73 := NB178_188.out
                        have hnb74 := NB188_189.out
                        have hnc74 := NB189_188.out
                        have hcz75_0 : wr.cell? ⟨gb188, 0, none⟩ = some (.slice Ao9 t179.length co9) := (blk_cell BK188.out 0).trans rfl
                        have hcz75_1 : wr.cell? ⟨gb188, 1, none⟩ = some (.slice Ao13 t182.length co13) := (blk_cell BK188.out 1).trans rfl
                        have hcz75_2 : wr.cell? ⟨gb188, 2, none⟩ = some (.slice Ao14 t185.length co14) := (blk_cell BK188.out 2).trans rfl
                        have hfz75_0 := blk_frozen BK188.out 0
                        have hfz75_1 := blk_frozen BK188.out 1
                        have hfz75_2 := blk_frozen BK188.out 2
                        have p190 : 0 ≤ (x5_1 : Int) := of_decide_eq_true (by first | (with_reducible assumption) | assumption)
                        have q190 : x5_1 < (t182.length : Int) := of_decide_eq_true (by first | (with_reducible assumption) | assumption)
                        obtain ⟨ad190, A190_0, c190_0, e190, hx190_0, hl190_0, hi190_0⟩ := at_L3 (Kd.S_reads' HO_189001.out).2.2 x5_1 p190 q190
                        cases e190
                        obtain ⟨ce190, hce190, hMe190, hcc190⟩ := Kd.S_get HO_189001.out [] x5_1 p190 (by first | exact q190 | exact of_decide_eq_true (by first | (with_reducible assumption) | assumption) | (have e_ := (Kd.S_reads' HO_189001.out).1; omega))
                        obtain ⟨ve190_0, rfl, ge190_0⟩ := hMe190
                        have hv190_0 := hcc190 0 _ rfl
                        rw [Nat.add_zero, show ((Kd.slice 4 Kd.bool)).sz = 1 from rfl, Nat.mul_one] at hv190_0
                        replace hv190_0 := Option.some.inj (hv190_0.symm.trans hx190_0)
                        rw [hv190_0] at ge190_0
                        have HL190_0 := Aside0.mk (show Kd.R Kd.bool 4 _ _ _ _ (rd_L3 t182 x5_1) from ge190_0)
                        clear hv190_0 ge190_0
                        clear hcc190 hce190
                        have HR190_0 := Aside0.mk hi190_0
                        have HC190_0 := Aside0.mk hl190_0
                        clear hi190_0 hl190_0
                        replace p190 := eq_true p190
                        replace q190 := eq_true q190
                        have p191 : 0 ≤ (x6_2 : Int) := of_decide_eq_true (by first | (with_reducible assumption) | assumption)
                        have q191 : x6_2 < ((rd_L3 t182 x5_1).length : Int) := of_decide_eq_true (by first | (with_reducible assumption) | assumption)
                        obtain ⟨ad191, e191, hx191_0⟩ := Kd.at_bool (by repeat (first | (with_reducible exact HR190_0.out) | (with_reducible refine Kd.C_alloc ?_ _) | (with_reducible refine Kd.C_drewN ?_ _) | (with_reducible refine Kd.C_drew ?_) | exact HR190_0.out)) x6_2 p191 q191
                        (try rw [← Nbq31.out] at hx191_0)
                        cases e191
                        replace p191 := eq_true p191
                        replace q191 := eq_true q191
                        go_wp2
                        go_roundg k2
                        case measure => have := HK1.out; have := HK2.out; omega
                        case rel => exact ⟨(wrap64 (x6_2 + 1)), (x190002_2), (u190002), (by first | rfl | (simp; done) | (simp [*]; done)), H', ⟨by have := HK1.out; have := HK2.out; omega⟩, ⟨by (with_reducible repeat (first | apply Kd.R_alloc | apply Kd.R_drewN | apply Kd.R_drew)); exact HO_189000.out⟩, ⟨by (with_reducible repeat (first | apply Kd.S_alloc | apply Kd.S_drewN | apply Kd.S_drew)); exact HO_189001.out⟩, ⟨by (with_reducible repeat (first | apply Kd.S_alloc | apply Kd.S_drewN | apply Kd.S_drew)); exact HO_189002.out⟩, ⟨by (with_reducible repeat (first | apply Kd.R_alloc | apply Kd.R_drewN | apply Kd.R_drew)); exact HO_190001.out⟩, ⟨by (with_reducible repeat (first | apply Kd.R_alloc | apply Kd.R_drewN | apply Kd.R_drew)); exact HO_190002.out⟩, ⟨by (with_reducible repeat (first | refine blk_drewN ?_ _ | refine blk_drew ?_ | refine blk_alloc ?_ _)); exact BK177.out⟩, ⟨by (with_reducible repeat (first | refine blk_drewN ?_ _ | refine blk_drew ?_ | refine blk_alloc ?_ _)); exact BK178.out⟩, ⟨by (with_reducible repeat (first | refine blk_drewN ?_ _ | refine blk_drew ?_ | refine blk_alloc ?_ _)); exact BK188.out⟩, ⟨by (with_reducible repeat (first | refine blk_drewN ?_ _ | refine blk_drew ?_ | refine blk_alloc ?_ _)); exact BK189.out⟩, ⟨by repeat (first | (with_reducible first | exact HB.out | apply below_alloc | apply pw_below_drewN | apply below_drew1 | refine below_set ?_ GE177.out | refine below_set ?_ GE178.out | refine below_set ?_ GE188.out | refine below_set ?_ GE189.out) | exact HB.out)⟩⟩
                    · rw [if_neg c30] at H
                      exact absurd H (by simp)
                  · rw [if_neg c29] at H
                    exact absurd H (by simp)
                · rw [if_neg c28] at H
                  exact absurd H (by simp)
              · rw [if_neg c27] at H
                exact absurd H (by simp)
            · rw [if_neg c26] at H
              have c26b0 : decide (x6_2 < (t179.length : Int)) = false := decide_eq_false c26
              clear c26
              have H' := Aside0.mk H
              clear H
              have hnb76 := NB188_177.out
              have hnc76 := NB177_188.out
              have hnb77 := NB188_178.out
              have hnc77 := NB178_188.out
              have hnb78 := NB188_189.out
              have hnc78 := NB189_188.out
              have hcz79_0 : wr.cell? ⟨gb188, 0, none⟩ = some (.slice Ao9 t179.length co9) := (blk_cell BK188.out 0).trans rfl
              have hcz79_1 : wr.cell? ⟨gb188, 1, none⟩ = some (.slice Ao13 t182.length co13) := (blk_cell BK188.out 1).trans rfl
              have hcz79_2 : wr.cell? ⟨gb188, 2, none⟩ = some (.slice Ao14 t185.length co14) := (blk_cell BK188.out 2).trans rfl
              have hfz79_0 := blk_frozen BK188.out 0
              have hfz79_1 := blk_frozen BK188.out 1
              have hfz79_2 := blk_frozen BK188.out 2
              go_wp2
              go_roundg k2
              case measure => have := HK1.out; have := HK2.out; omega
              case rel => exact ⟨(wrap64 (x5_1 + 1)), (x190002_2), (u190002), (by first | rfl | (simp; done) | (simp [*]; done)), H', ⟨by have := HK1.out; have := HK2.out; omega⟩, ⟨by (with_reducible repeat (first | apply Kd.R_alloc | apply Kd.R_drewN | apply Kd.R_drew)); exact HO_189000.out⟩, ⟨by (with_reducible repeat (first | apply Kd.S_alloc | apply Kd.S_drewN | apply Kd.S_drew)); exact HO_189001.out⟩, ⟨by (with_reducible repeat (first | apply Kd.S_alloc | apply Kd.S_drewN | apply Kd.S_drew)); exact HO_189002.out⟩, ⟨by (with_reducible repeat (first | apply Kd.R_alloc | apply Kd.R_drewN | apply Kd.R_drew)); exact HO_190001.out⟩, ⟨by (with_reducible repeat (first | apply Kd.R_alloc | apply Kd.R_drewN | apply Kd.R_drew)); exact HO_190002.out⟩, ⟨by (with_reducible repeat (first | refine blk_drewN ?_ _ | refine blk_drew ?_ | refine blk_alloc ?_ _)); exact BK177.out⟩, ⟨by (with_reducible repeat (first | refine blk_drewN ?_ _ | refine blk_drew ?_ | refine blk_alloc ?_ _)); exact BK178.out⟩, ⟨by (with_reducible repeat (first | refine blk_drewN ?_ _ | refine blk_drew ?_ | refine blk_alloc ?_ _)); exact BK188.out⟩, ⟨by (with_reducible repeat (first | refine blk_drewN ?_ _ | refine blk_drew ?_ | refine blk_alloc ?_ _)); exact BK189.out⟩, ⟨by repeat (first | (with_reducible first | exact HB.out | apply below_alloc | apply pw_below_drewN | apply below_drew1 | refine below_set ?_ GE177.out | refine below_set ?_ GE178.out | refine below_set ?_ GE188.out | refine below_set ?_ GE189.out) | exact HB.out)⟩⟩
      · rw [if_neg c21] at H
        have c21b0 : decide (x5_1 < (t179.length : Int)) = false := decide_eq_false c21
        clear c21
        simp only [Option.some.injEq, Prod.mk.injEq] at H
        obtain ⟨rfl, rfl, rfl⟩ := H
        have hnb80 := NB188_177.out
        have hnc80 := NB177_188.out
        have hnb81 := NB188_178.out
        have hnc81 := NB178_188.out
        have hnb82 := NB188_189.out
        have hnc82 := NB189_188.out
        have hcz83_0 : wr.cell? ⟨gb188, 0, none⟩ = some (.slice Ao9 t179.length co9) := (blk_cell BK188.out 0).trans rfl
        have hcz83_1 : wr.cell? ⟨gb188, 1, none⟩ = some (.slice Ao13 t182.length co13) := (blk_cell BK188.out 1).trans rfl
        have hcz83_2 : wr.cell? ⟨gb188, 2, none⟩ = some (.slice Ao14 t185.length co14) := (blk_cell BK188.out 2).trans rfl
        have hfz83_0 := blk_frozen BK188.out 0
        have hfz83_1 := blk_frozen BK188.out 1
        have hfz83_2 := blk_frozen BK188.out 2
        have hnb84 := NB189_177.out
        have hnc84 := NB177_189.out
        have hnb85 := NB189_178.out
        have hnc85 := NB178_189.out
        have hcz86_0 : wr.cell? ⟨gb189, 0, none⟩ = some (.bool a0_0) := (blk_cell BK189.out 0).trans rfl
        have hcz86_1 : wr.cell? ⟨gb189, 1, none⟩ = some (.slice Ao9 t179.length co9) := (blk_cell BK189.out 1).trans rfl
        have hcz86_2 : wr.cell? ⟨gb189, 2, none⟩ = some (u190002) := (blk_cell BK189.out 2).trans rfl
        have hfz86_0 := blk_frozen BK189.out 0
        have hfz86_1 := blk_frozen BK189.out 1
        have hfz86_2 := blk_frozen BK189.out 2
        have hnb87 := NB178_177.out
        have hnc87 := NB177_178.out
        have hcz88_0 : wr.cell? ⟨gb178, 0, none⟩ = some (.bool false) := (blk_cell BK178.out 0).trans rfl
        have hcz88_1 : wr.cell? ⟨gb178, 1, none⟩ = some (.slice none 0 0) := (blk_cell BK178.out 1).trans rfl
        have hcz88_2 : wr.cell? ⟨gb178, 2, none⟩ = some (.slice none 0 0) := (blk_cell BK178.out 2).trans rfl
        have hfz88_0 := blk_frozen BK178.out 0
        have hfz88_1 := blk_frozen BK178.out 1
        have hfz88_2 := blk_frozen BK178.out 2
        obtain ⟨Ao89, co89, eo89⟩ := Kd.R_slice HO_190002.out
        subst eo89
        go_wp2
        refine bodyPost_ret (results_cell_row rfl _ _ gb178 25 #[.bool a0_0, .slice Ao9 t179.length co9, .slice Ao89 x190002_1.length co89] (0, 0) _ rfl (by (with_reducible repeat (first | refine blk_drewN ?_ _ | refine blk_drew ?_ | refine blk_alloc ?_ _)); refine blk_put (cs := #[.bool a0_0, .slice Ao9 t179.length co9, .slice none 0 0]) ?_ 2 _ rfl; (with_reducible repeat (first | refine blk_drewN ?_ _ | refine blk_drew ?_ | refine blk_alloc ?_ _)); refine blk_put (cs := #[.bool a0_0, .slice none 0 0, .slice none 0 0]) ?_ 1 _ rfl; (with_reducible repeat (first | refine blk_drewN ?_ _ | refine blk_drew ?_ | refine blk_alloc ?_ _)); refine blk_put (cs := #[.bool false, .slice none 0 0, .slice none 0 0]) ?_ 0 _ rfl; (with_reducible repeat (first | refine blk_drewN ?_ _ | refine blk_drew ?_ | refine blk_alloc ?_ _)); exact BK178.out) Try.underlying25 rfl (by kernel_rfl)) rfl ?_
        exact ⟨_, _, by first | rfl | (simp [errW_none, errW_some] <;> rfl) | (simp [*, errW_none, errW_some] <;> rfl), by (with_reducible repeat (first | apply Kd.R_alloc | apply Kd.R_drewN | apply Kd.R_drew)); exact Kd.R_mono (Kd.R_far (p := ⟨gb178, 2, none⟩) (Kd.R_far (p := ⟨gb178, 1, none⟩) (Kd.R_far (p := ⟨gb178, 0, none⟩) (Kd.R_types HO_190001.out BK178.out (by decide)) (fun _ hk => hk.2) (.bool a0_0)) (fun _ hk => hk.2) (.slice Ao9 t179.length co9)) (fun _ hk => hk.2) (.slice Ao89 x190002_1.length co89)) (fun _ hk => trivial), by (with_reducible repeat (first | apply Kd.R_alloc | apply Kd.R_drewN | apply Kd.R_drew)); exact Kd.R_mono (Kd.R_far (p := ⟨gb178, 2, none⟩) (Kd.R_far (p := ⟨gb178, 1, none⟩) (Kd.R_far (p := ⟨gb178, 0, none⟩) (Kd.R_types HO_190002.out BK178.out (by decide)) (fun _ hk => hk.2) (.bool a0_0)) (fun _ hk => hk.2) (.slice Ao9 t179.length co9)) (fun _ hk => hk.2) (.slice Ao89 x190002_1.length co89)) (fun _ hk => trivial), by repeat (first | (with_reducible first | exact HB.out | apply below_alloc | apply pw_below_drewN | apply below_drew1 | refine below_set ?_ GE177.out | refine below_set ?_ GE178.out | refine below_set ?_ GE188.out | refine below_set ?_ GE189.out) | exact HB.out)⟩

end Go.Proofs.Ytgiebjihceggjaa.PFnGenTree
