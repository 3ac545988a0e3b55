import Derived.Test.YtfkmpnpliadohaaGreatFT0
import Derived.Test.YtfkmpnpliadohaaGreatFV0
/- Printed by a program (the kit's printer, run over contracts that were proved by hand). -/
namespace Go.Proofs.YtfkmpnpliadohaaGreat.PL
open Go.RowKit Go.Proofs.YtfkmpnpliadohaaGreatW.PrintWords Go.Proofs.YtfkmpnpliadohaaGreatW.PrintLast Go.Proofs.YtfkmpnpliadohaaGreatW.PrintMore
attribute [local go_sem] max2_int min2_int max_two min_two max_three min_three max_four min_four   -- for this text's walks alone
set_option linter.unusedVariables false
set_option linter.unusedSimpArgs false

theorem info54 : (Tryz.prog.info? 54).map (fun i => (i.zero, i.size, i.bytes)) = some (some (.agg #[(.int .i64 0), (.int .i64 0), (.int .i64 0)]), 3, 24) := by kernel_rfl
/-! #### struct type 54 -/
structure S54 where
  f0 : Int
  f1 : Int
  f2 : Int
def z54 : S54 := ⟨(0 : Int), (0 : Int), (0 : Int)⟩
def k54 : Kd S54 := Kd.iso (Kd.pair (Kd.int .i64) (Kd.pair (Kd.int .i64) (Kd.int .i64))) (fun x : S54 => (x.f0, x.f1, x.f2))
theorem k54_open {w : World} {x : S54} {cs : List Value} (h : k54.K w x cs) : cs = [.int .i64 x.f0, .int .i64 x.f1, .int .i64 x.f2] := by
  obtain ⟨_, _, rfl, rfl, ⟨_, _, rfl, rfl, rfl⟩⟩ := h
  exact rfl
theorem k54_openM {w : World} {base : Nat} {ok : Nat → Prop} {x : S54} {cs : List Value} (h : k54.M w base ok x cs) : cs = [.int .i64 x.f0, .int .i64 x.f1, .int .i64 x.f2] := by
  obtain ⟨_, _, rfl, rfl, ⟨_, _, rfl, rfl, rfl⟩⟩ := h
  exact rfl
theorem k54_mkM (w : World) (base : Nat) (ok : Nat → Prop) (x : S54)  : k54.M w base ok x [.int .i64 x.f0, .int .i64 x.f1, .int .i64 x.f2] := ⟨[.int .i64 x.f0], [.int .i64 x.f1, .int .i64 x.f2], rfl, rfl, ⟨[.int .i64 x.f1], [.int .i64 x.f2], rfl, rfl, rfl⟩⟩
def rd_T54 (xs : List S54) (i : Int) : S54 := xs.getD i.toNat z54
theorem at_T54 {w : World} {A : Option Addr} {n : Nat} {xs : List S54} (h : Kd.C k54 w A n xs) (i : Int) (h0 : 0 ≤ i) (h1 : i < n) : ∃ ad , A = some ad ∧ w.cell? (ad.add (i.toNat * 3)) = some (.int .i64 (rd_T54 xs i).f0) ∧ w.cell? ⟨(ad.add (i.toNat * 3)).block, (ad.add (i.toNat * 3)).off + 1, none⟩ = some (.int .i64 (rd_T54 xs i).f1) ∧ w.cell? ⟨(ad.add (i.toNat * 3)).block, (ad.add (i.toNat * 3)).off + 2, none⟩ = some (.int .i64 (rd_T54 xs i).f2) := by
  obtain ⟨ad, c, e, _, hK, hc0⟩ := Kd.C_get h z54 i h0 h1
  have hc : ∀ j u, c[j]? = some u → w.cell? (ad.add (i.toNat * 3 + j)) = some u := hc0
  obtain rfl := k54_open hK
  exact ⟨ad, e, hc 0 _ rfl, by rw [← add_field _ _ 1 (by omega)]; exact hc 1 _ rfl, by rw [← add_field _ _ 2 (by omega)]; exact hc 2 _ rfl⟩

end Go.Proofs.YtfkmpnpliadohaaGreat.PL

/- Printed by a program (the kit's printer, run over contracts that were proved by hand). -/
namespace Go.Proofs.YtfkmpnpliadohaaGreat.PL
open Go.RowKit Go.Proofs.YtfkmpnpliadohaaGreatW.PrintWords Go.Proofs.YtfkmpnpliadohaaGreatW.PrintLast Go.Proofs.YtfkmpnpliadohaaGreatW.PrintMore
attribute [local go_sem] max2_int min2_int max_two min_two max_three min_three max_four min_four   -- for this text's walks alone
set_option linter.unusedVariables false
set_option linter.unusedSimpArgs false

/-! ### laws_hops: function 75 -/
mutual
def laws_hops.l0 : Nat → List (S54) → Int → Bool → List Int → List (S38) → Option ((List (S54)))
  | 0, _, _, _, _, _ => none
  | k + 1, x3, x4, x300000, x300001, x300002 => if x4 < (x300002.length : Int) then (if 0 ≤ x4 then (laws_hops.l1 k x3 x4 true (wrap64 (x4 + 1)) x300000 x300001 x300002 ((rd_T38 x300002 x4).f0) ((rd_T38 x300002 x4).f1) ((rd_T38 x300002 x4).f2)) else (none)) else (some x3)
def laws_hops.l1 : Nat → List (S54) → Int → Bool → Int → Bool → List Int → List (S38) → Int → Int → Int → Option ((List (S54)))
  | 0, _, _, _, _, _, _, _, _, _, _ => none
  | k + 1, x3, x4, x6, x7, x300000, x300001, x300002, x302000, x302001, x302002 => if x7 < (x300002.length : Int) then (if 0 ≤ x7 then (if ((rd_T38 x300002 x7).f0) = x302000 then (if ((rd_T38 x300002 x7).f1) = x302001 then (laws_hops.l1 k x3 x4 false (wrap64 (x7 + 1)) x300000 x300001 x300002 x302000 x302001 x302002) else (if x300000 = true then (laws_hops.l1 k x3 x4 x6 (wrap64 (x7 + 1)) x300000 x300001 x300002 x302000 x302001 x302002) else (if ((rd_T38 x300002 x7).f0) = x302001 then (if ((rd_T38 x300002 x7).f1) = x302000 then (laws_hops.l1 k x3 x4 false (wrap64 (x7 + 1)) x300000 x300001 x300002 x302000 x302001 x302002) else (laws_hops.l1 k x3 x4 x6 (wrap64 (x7 + 1)) x300000 x300001 x300002 x302000 x302001 x302002)) else (laws_hops.l1 k x3 x4 x6 (wrap64 (x7 + 1)) x300000 x300001 x300002 x302000 x302001 x302002)))) else (if x300000 = true then (laws_hops.l1 k x3 x4 x6 (wrap64 (x7 + 1)) x300000 x300001 x300002 x302000 x302001 x302002) else (if ((rd_T38 x300002 x7).f0) = x302001 then (if ((rd_T38 x300002 x7).f1) = x302000 then (laws_hops.l1 k x3 x4 false (wrap64 (x7 + 1)) x300000 x300001 x300002 x302000 x302001 x302002) else (laws_hops.l1 k x3 x4 x6 (wrap64 (x7 + 1)) x300000 x300001 x300002 x302000 x302001 x302002)) else (laws_hops.l1 k x3 x4 x6 (wrap64 (x7 + 1)) x300000 x300001 x300002 x302000 x302001 x302002)))) else (none)) else (if x6 = true then (if x3.length < 5864062014805 then ((some (x3 ++ [(⟨x302000, x302001, x302002⟩ : S54)] : List (S54))).bind fun y304 => (if x300000 = true then (laws_hops.l0 k y304 (wrap64 (x4 + 1)) x300000 x300001 x300002) else (if y304.length < 5864062014805 then (laws_hops.l0 k (y304 ++ [(⟨x302001, x302000, x302002⟩ : S54)]) (wrap64 (x4 + 1)) x300000 x300001 x300002) else (none)))) else (none)) else (laws_hops.l0 k x3 (wrap64 (x4 + 1)) x300000 x300001 x300002))
end
def laws_hops.f (k : Nat) (a0_0 : Bool) (l0_1 : List Int) (l0_2 : List (S38)) : Option ((List (S54))) := laws_hops.l0 k ([] : List (S54)) 0 a0_0 l0_1 l0_2
set_option maxHeartbeats 8000000 in
set_option maxRecDepth 100000 in
theorem laws_hops.calls (k : Nat) (a0_0 : Bool) (A0_1 : Option Addr) (c0_1 : Nat) (l0_1 : List Int) (A0_2 : Option Addr) (c0_2 : Nat) (l0_2 : List (S38)) (r : List (S54)) (w : World) (hr0_1 : Kd.C (Kd.int .i64) w A0_1 l0_1.length l0_1) (hc0_1 : l0_1.length ≤ c0_1) (hr0_2 : Kd.C k38 w A0_2 l0_2.length l0_2) (hc0_2 : l0_2.length ≤ c0_2) (h : laws_hops.f k a0_0 l0_1 l0_2 = some r) :
    Calls Tryz.prog 75 #[.agg #[.bool a0_0, .slice A0_1 l0_1.length c0_1, .slice A0_2 l0_2.length c0_2]] w fun e w' => ∃ v0_ : Value, e = .returned (v0_) ∧ Kd.R k54 54 w' w.heap.size (fun _ => True) v0_ r ∧ Below w.heap.size w w' := by
  have hu25 := Tryz.underlying25
  have hu38 := Tryz.underlying38
  have hu54 := Tryz.underlying54
  have HR0_1 := Aside0.mk hr0_1
  have HC0_1 := Aside0.mk hc0_1
  clear hr0_1 hc0_1
  have HR0_2 := Aside0.mk hr0_2
  have HC0_2 := Aside0.mk hc0_2
  clear hr0_2 hc0_2
  have HB := Aside0.mk (Below.refl w.heap.size w)
  have H : (laws_hops.l0 k ([] : List (S54)) 0 a0_0 l0_1 l0_2) = some r := h
  clear h
  have H' := Aside0.mk H
  clear H
  go_enter Tryz.func75, Tryz.ntmps75
  go_wp2_with (first | ((with_reducible refine gate_dst (N := 1) rfl ?_); refine box_event ?hg (N := 1) ?hd (cs := #[.bool a0_0, .slice A0_1 l0_1.length c0_1, .slice A0_2 l0_2.length c0_2]) (t := 25) ?hr ?_; (case hd => rfl); (case hg => rfl); (case hr => first | (go_simp; done) | (go_simp; rfl)); intro gb299 hg w2 hbox hb; have n0_ := Aside0.mk (below_step (by repeat (first | (with_reducible first | exact HB.out | apply below_alloc | apply pw_below_drewN | apply below_drew1) | exact HB.out)) hb); have n1_ := Aside0.mk (hbox); have n2_ := Aside0.mk ((by rw [hg]; exact (below_size (by repeat (first | (with_reducible first | exact HB.out | apply below_alloc | apply pw_below_drewN | apply below_drew1) | exact HB.out))) : w.heap.size ≤ gb299)); have n3_ := Aside0.mk ((by rw [hg]; exact (below_size (by repeat (first | (with_reducible first | exact HB.out | apply below_alloc | apply pw_below_drewN | apply below_drew1) | exact HB.out))) : w.heap.size ≤ gb299)); clear HB; have HB := n0_; have BK299 := n1_; have GW299 := n2_; have GE299 := n3_; clear n0_ n1_ n2_ n3_; clear hb hbox hg))
  go_loopg [3, 4] k (fun kq v3 v4 w' => ∃ (x3_1 : List (S54)) (x4_1 : Int), v4 = .int .i64 x4_1 ∧ Aside0 (laws_hops.l0 kq x3_1 x4_1 a0_0 l0_1 l0_2 = some r) ∧ Aside0 (kq ≤ k) ∧ Aside0 (Kd.R k54 54 w' w.heap.size (fun _ => True) v3 x3_1) ∧ Aside0 (w'.heap[gb299]? = some (.cells #[.bool a0_0, (.slice A0_1 l0_1.length c0_1), (.slice A0_2 l0_2.length c0_2)] 25 (0, 0))) ∧ Aside0 (Below w.heap.size w w'))
  case atStart => exact ⟨(([] : List (S54))), (0), (by first | rfl | (simp; done) | (simp [*]; done)), H', ⟨Nat.le_refl _⟩, ⟨by first | exact Kd.R_nil _ _ _ _ _ | exact Kd.N_nil _ _ _ _ _ | exact Kd.V_nil _ _ _ _ _ | exact Kd.Q_nil _ _ _ _ _ | exact Kd.S_nil _ _ _ _ _⟩, ⟨by (with_reducible repeat (first | refine blk_drewN ?_ _ | refine blk_drew ?_ | refine blk_alloc ?_ _)); exact BK299.out⟩, ⟨by repeat (first | (with_reducible first | exact HB.out | apply below_alloc | apply pw_below_drewN | apply below_drew1 | refine below_set ?_ GE299.out) | exact HB.out)⟩⟩
  case round =>
    clear H'
    try clear p2
    obtain ⟨x3_1, x4_1, rfl, HA, HK1, HO_3, BK299, HB⟩ := hrel
    cases gk with
    | zero => exact absurd HA.out (by simp [laws_hops.l0])
    | succ k1 =>
      have H := HA.out
      clear HA
      simp only [laws_hops.l0] at H
      by_cases c3 : x4_1 < (l0_2.length : Int)
      · rw [if_pos c3] at H
        have c3b0 : decide (x4_1 < (l0_2.length : Int)) = true := decide_eq_true c3
        clear c3
        by_cases c4 : 0 ≤ x4_1
        · rw [if_pos c4] at H
          have c4b0 : decide (0 ≤ x4_1) = true := decide_eq_true c4
          clear c4
          have H' := Aside0.mk H
          clear H
          have hcz5_0 : wr.cell? ⟨gb299, 0, none⟩ = some (.bool a0_0) := (blk_cell BK299.out 0).trans rfl
          have hcz5_1 : wr.cell? ⟨gb299, 1, none⟩ = some (.slice A0_1 l0_1.length c0_1) := (blk_cell BK299.out 1).trans rfl
          have hcz5_2 : wr.cell? ⟨gb299, 2, none⟩ = some (.slice A0_2 l0_2.length c0_2) := (blk_cell BK299.out 2).trans rfl
          have hfz5_0 := blk_frozen BK299.out 0
          have hfz5_1 := blk_frozen BK299.out 1
          have hfz5_2 := blk_frozen BK299.out 2
          have p300 : 0 ≤ (x4_1 : Int) := of_decide_eq_true (by first | (with_reducible assumption) | assumption)
          have q300 : x4_1 < (l0_2.length : Int) := of_decide_eq_true (by first | (with_reducible assumption) | assumption)
          obtain ⟨ad300, e300, hx300_0, hx300_1, hx300_2⟩ := at_T38 HR0_2.out x4_1 p300 q300
          cases e300
          replace hx300_0 := (HB.out.cell (World.block_lt_of_cell? w _ hx300_0)).trans hx300_0
          replace hx300_1 := (HB.out.cell (World.block_lt_of_cell? w _ hx300_1)).trans hx300_1
          replace hx300_2 := (HB.out.cell (World.block_lt_of_cell? w _ hx300_2)).trans hx300_2
          replace p300 := eq_true p300
          replace q300 := eq_true q300
          go_wp2_with (first | ((with_reducible refine gate_dst (N := 5) rfl ?_); refine box_event ?hg (N := 5) ?hd (cs := #[.int .i64 0, .int .i64 0, .int .i64 0]) (t := 38) ?hr ?_; (case hd => rfl); (case hg => rfl); (case hr => first | (go_simp; done) | (go_simp; rfl)); intro gb301 hg w6 hbox hb; have n0_ := Aside0.mk (Kd.R_below (by (with_reducible repeat (first | apply Kd.R_alloc | apply Kd.R_drewN | apply Kd.R_drew)); exact HO_3.out) hb); have n1_ := Aside0.mk (blk_below (g := gb299) (o := .cells #[.bool a0_0, .slice A0_1 l0_1.length c0_1, .slice (some ad300) l0_2.length c0_2] 25 (0, 0)) (by (with_reducible repeat (first | refine blk_drewN ?_ _ | refine blk_drew ?_ | refine blk_alloc ?_ _)); exact BK299.out) hb); have n2_ := Aside0.mk (below_step (by repeat (first | (with_reducible first | exact HB.out | apply below_alloc | apply pw_below_drewN | apply below_drew1 | refine below_set ?_ GE299.out) | exact HB.out)) hb); have n3_ := Aside0.mk (hbox); have n4_ := Aside0.mk ((by rw [hg]; exact (below_size (by repeat (first | (with_reducible first | exact HB.out | apply below_alloc | apply pw_below_drewN | apply below_drew1 | refine below_set ?_ GE299.out) | exact HB.out))) : w.heap.size ≤ gb301)); have n5_ := Aside0.mk ((by rw [hg]; exact (below_size (by repeat (first | (with_reducible first | exact HB.out | apply below_alloc | apply pw_below_drewN | apply below_drew1 | refine below_set ?_ GE299.out) | exact HB.out))) : w.heap.size ≤ gb301)); have n6_ := Aside0.mk ((by rw [hg]; exact Nat.ne_of_lt (blk_lt (g := gb299) (o := .cells #[.bool a0_0, .slice A0_1 l0_1.length c0_1, .slice (some ad300) l0_2.length c0_2] 25 (0, 0)) (by (with_reducible repeat (first | refine blk_drewN ?_ _ | refine blk_drew ?_ | refine blk_alloc ?_ _)); exact BK299.out)) : gb299 ≠ gb301)); have n7_ := Aside0.mk ((by rw [hg]; exact Nat.ne_of_gt (blk_lt (g := gb299) (o := .cells #[.bool a0_0, .slice A0_1 l0_1.length c0_1, .slice (some ad300) l0_2.length c0_2] 25 (0, 0)) (by (with_reducible repeat (first | refine blk_drewN ?_ _ | refine blk_drew ?_ | refine blk_alloc ?_ _)); exact BK299.out)) : gb301 ≠ gb299)); clear HO_3; clear BK299; clear HB; have HO_3 := n0_; have BK299 := n1_; have HB := n2_; have BK301 := n3_; have GW301 := n4_; have GE301 := n5_; have NB299_301 := n6_; have NB301_299 := n7_; clear n0_ n1_ n2_ n3_ n4_ n5_ n6_ n7_; clear hb hbox hg; have hnb7 := NB301_299.out; have hnc7 := NB299_301.out; have hcz8_0 : w6.cell? ⟨gb301, 0, none⟩ = some (.int .i64 0) := (blk_cell BK301.out 0).trans rfl; have hcz8_1 : w6.cell? ⟨gb301, 1, none⟩ = some (.int .i64 0) := (blk_cell BK301.out 1).trans rfl; have hcz8_2 : w6.cell? ⟨gb301, 2, none⟩ = some (.int .i64 0) := (blk_cell BK301.out 2).trans rfl; have hfz8_0 := blk_frozen BK301.out 0; have hfz8_1 := blk_frozen BK301.out 1; have hfz8_2 := blk_frozen BK301.out 2))
          go_loopg [6, 7] k1 (fun kq v6 v7 w' => ∃ (x6_2 : Bool) (x7_2 : Int), v6 = .bool x6_2 ∧ v7 = .int .i64 x7_2 ∧ Aside0 (laws_hops.l1 kq x3_1 x4_1 x6_2 x7_2 a0_0 l0_1 l0_2 ((rd_T38 l0_2 x4_1).f0) ((rd_T38 l0_2 x4_1).f1) ((rd_T38 l0_2 x4_1).f2) = some r) ∧ Aside0 (kq ≤ k1) ∧ Aside0 (Kd.R k54 54 w' w.heap.size (fun _ => True) u3 x3_1) ∧ Aside0 (w'.heap[gb299]? = some (.cells #[.bool a0_0, (.slice A0_1 l0_1.length c0_1), (.slice (some ad300) l0_2.length c0_2)] 25 (0, 0))) ∧ Aside0 (w'.heap[gb301]? = some (.cells #[.int .i64 ((rd_T38 l0_2 x4_1).f0), .int .i64 ((rd_T38 l0_2 x4_1).f1), .int .i64 ((rd_T38 l0_2 x4_1).f2)] 38 (0, 0))) ∧ Aside0 (Below w.heap.size w w'))
          case atStart => exact ⟨(true), (wrap64 (x4_1 + 1)), (by first | rfl | (simp; done) | (simp [*]; done)), (by first | rfl | (simp; done) | (simp [*]; done)), H', ⟨Nat.le_refl _⟩, ⟨by (with_reducible repeat (first | apply Kd.R_alloc | apply Kd.R_drewN | apply Kd.R_drew)); exact Kd.R_mono (Kd.R_far (p := ⟨gb301, 2, none⟩) (Kd.R_far (p := ⟨gb301, 1, none⟩) (Kd.R_far (p := ⟨gb301, 0, none⟩) (Kd.R_types HO_3.out BK301.out (by decide)) (fun _ hk => hk.2) (.int .i64 ((rd_T38 l0_2 x4_1).f0))) (fun _ hk => hk.2) (.int .i64 ((rd_T38 l0_2 x4_1).f1))) (fun _ hk => hk.2) (.int .i64 ((rd_T38 l0_2 x4_1).f2))) (fun _ hk => trivial)⟩, ⟨by (with_reducible repeat (first | refine blk_drewN ?_ _ | refine blk_drew ?_ | refine blk_alloc ?_ _)); refine blk_far ?_ NB299_301.out _; (with_reducible repeat (first | refine blk_drewN ?_ _ | refine blk_drew ?_ | refine blk_alloc ?_ _)); refine blk_far ?_ NB299_301.out _; (with_reducible repeat (first | refine blk_drewN ?_ _ | refine blk_drew ?_ | refine blk_alloc ?_ _)); refine blk_far ?_ NB299_301.out _; (with_reducible repeat (first | refine blk_drewN ?_ _ | refine blk_drew ?_ | refine blk_alloc ?_ _)); exact BK299.out⟩, ⟨by (with_reducible repeat (first | refine blk_drewN ?_ _ | refine blk_drew ?_ | refine blk_alloc ?_ _)); refine blk_put (cs := #[.int .i64 ((rd_T38 l0_2 x4_1).f0), .int .i64 ((rd_T38 l0_2 x4_1).f1), .int .i64 0]) ?_ 2 _ rfl; (with_reducible repeat (first | refine blk_drewN ?_ _ | refine blk_drew ?_ | refine blk_alloc ?_ _)); refine blk_put (cs := #[.int .i64 ((rd_T38 l0_2 x4_1).f0), .int .i64 0, .int .i64 0]) ?_ 1 _ rfl; (with_reducible repeat (first | refine blk_drewN ?_ _ | refine blk_drew ?_ | refine blk_alloc ?_ _)); refine blk_put (cs := #[.int .i64 0, .int .i64 0, .int .i64 0]) ?_ 0 _ rfl; (with_reducible repeat (first | refine blk_drewN ?_ _ | refine blk_drew ?_ | refine blk_alloc ?_ _)); exact BK301.out⟩, ⟨by repeat (first | (with_reducible first | exact HB.out | apply below_alloc | apply pw_below_drewN | apply below_drew1 | refine below_set ?_ GE299.out | refine below_set ?_ GE301.out) | exact HB.out)⟩⟩
          case round =>
            clear H'
            try clear p2
            try clear c3
            try clear c3b0
            try clear p3
            try clear q3
            try clear hx3
            try clear c4
            try clear c4b0
            try clear p6
            try clear c7
            try clear hcz5_0
            try clear hcz5_1
            try clear hcz5_2
            try clear hcz8_0
            try clear hcz8_1
            try clear hcz8_2
            try clear hfz5_0
            try clear hfz5_1
            try clear hfz5_2
            try clear hfz8_0
            try clear hfz8_1
            try clear hfz8_2
            try clear hx300_0
            try clear hx300_1
            try clear hx300_2
            try clear p2
            try clear p300
            try clear q300
            obtain ⟨x6_2, x7_2, rfl, rfl, HA, HK2, HO_3, BK299, BK301, HB⟩ := hrel
            cases gk with
            | zero => exact absurd HA.out (by simp [laws_hops.l1])
            | succ k2 =>
              have H := HA.out
              clear HA
              simp only [laws_hops.l1] at H
              by_cases c9 : x7_2 < (l0_2.length : Int)
              · rw [if_pos c9] at H
                have c9b0 : decide (x7_2 < (l0_2.length : Int)) = true := decide_eq_true c9
                clear c9
                by_cases c10 : 0 ≤ x7_2
                · rw [if_pos c10] at H
                  have c10b0 : decide (0 ≤ x7_2) = true := decide_eq_true c10
                  clear c10
                  by_cases c11 : ((rd_T38 l0_2 x7_2).f0) = ((rd_T38 l0_2 x4_1).f0)
                  · rw [if_pos c11] at H
                    have c11b0 : (((rd_T38 l0_2 x7_2).f0) == ((rd_T38 l0_2 x4_1).f0)) = true := beq_iff_eq.mpr c11
                    have c11b1 : (((rd_T38 l0_2 x7_2).f0) != ((rd_T38 l0_2 x4_1).f0)) = false := bne_eq_false_iff_eq.mpr c11
                    clear c11
                    by_cases c12 : ((rd_T38 l0_2 x7_2).f1) = ((rd_T38 l0_2 x4_1).f1)
                    · rw [if_pos c12] at H
                      have c12b0 : (((rd_T38 l0_2 x7_2).f1) == ((rd_T38 l0_2 x4_1).f1)) = true := beq_iff_eq.mpr c12
                      have c12b1 : (((rd_T38 l0_2 x7_2).f1) != ((rd_T38 l0_2 x4_1).f1)) = false := bne_eq_false_iff_eq.mpr c12
                      clear c12
                      have H' := Aside0.mk H
                      clear H
                      have hnb13 := NB299_301.out
                      have hnc13 := NB301_299.out
                      have hcz14_0 : wr.cell? ⟨gb299, 0, none⟩ = some (.bool a0_0) := (blk_cell BK299.out 0).trans rfl
                      have hcz14_1 : wr.cell? ⟨gb299, 1, none⟩ = some (.slice A0_1 l0_1.length c0_1) := (blk_cell BK299.out 1).trans rfl
                      have hcz14_2 : wr.cell? ⟨gb299, 2, none⟩ = some (.slice (some ad300) l0_2.length c0_2) := (blk_cell BK299.out 2).trans rfl
                      have hfz14_0 := blk_frozen BK299.out 0
                      have hfz14_1 := blk_frozen BK299.out 1
                      have hfz14_2 := blk_frozen BK299.out 2
                      have p302 : 0 ≤ (x7_2 : Int) := of_decide_eq_true (by first | (with_reducible assumption) | assumption)
                      have q302 : x7_2 < (l0_2.length : Int) := of_decide_eq_true (by first | (with_reducible assumption) | assumption)
                      obtain ⟨ad302, e302, hx302_0, hx302_1, hx302_2⟩ := at_T38 HR0_2.out x7_2 p302 q302
                      obtain rfl : ad300 = ad302 := (by injection e302)
                      replace hx302_0 := (HB.out.cell (World.block_lt_of_cell? w _ hx302_0)).trans hx302_0
                      replace hx302_1 := (HB.out.cell (World.block_lt_of_cell? w _ hx302_1)).trans hx302_1
                      replace hx302_2 := (HB.out.cell (World.block_lt_of_cell? w _ hx302_2)).trans hx302_2
                      replace p302 := eq_true p302
                      replace q302 := eq_true q302
                      go_wp2_with (first | ((with_reducible refine gate_dst (N := 8) rfl ?_); refine box_event ?hg (N := 8) ?hd (cs := #[.int .i64 0, .int .i64 0, .int .i64 0]) (t := 38) ?hr ?_; (case hd => rfl); (case hg => rfl); (case hr => first | (go_simp; done) | (go_simp; rfl)); intro gb303 hg w15 hbox hb; have n0_ := Aside0.mk (Kd.R_below (by (with_reducible repeat (first | apply Kd.R_alloc | apply Kd.R_drewN | apply Kd.R_drew)); exact HO_3.out) hb); have n1_ := Aside0.mk (blk_below (g := gb299) (o := .cells #[.bool a0_0, .slice A0_1 l0_1.length c0_1, .slice (some ad300) l0_2.length c0_2] 25 (0, 0)) (by (with_reducible repeat (first | refine blk_drewN ?_ _ | refine blk_drew ?_ | refine blk_alloc ?_ _)); exact BK299.out) hb); have n2_ := Aside0.mk (blk_below (g := gb301) (o := .cells #[.int .i64 ((rd_T38 l0_2 x4_1).f0), .int .i64 ((rd_T38 l0_2 x4_1).f1), .int .i64 ((rd_T38 l0_2 x4_1).f2)] 38 (0, 0)) (by (with_reducible repeat (first | refine blk_drewN ?_ _ | refine blk_drew ?_ | refine blk_alloc ?_ _)); exact BK301.out) hb); have n3_ := Aside0.mk (below_step (by repeat (first | (with_reducible first | exact HB.out | apply below_alloc | apply pw_below_drewN | apply below_drew1 | refine below_set ?_ GE299.out | refine below_set ?_ GE301.out) | exact HB.out)) hb); have n4_ := Aside0.mk (hbox); have n5_ := Aside0.mk ((by rw [hg]; exact (below_size (by repeat (first | (with_reducible first | exact HB.out | apply below_alloc | apply pw_below_drewN | apply below_drew1 | refine below_set ?_ GE299.out | refine below_set ?_ GE301.out) | exact HB.out))) : w.heap.size ≤ gb303)); have n6_ := Aside0.mk ((by rw [hg]; exact (below_size (by repeat (first | (with_reducible first | exact HB.out | apply below_alloc | apply pw_below_drewN | apply below_drew1 | refine below_set ?_ GE299.out | refine below_set ?_ GE301.out) | exact HB.out))) : w.heap.size ≤ gb303)); have n7_ := Aside0.mk ((by rw [hg]; exact Nat.ne_of_lt (blk_lt (g := gb299) (o := .cells #[.bool a0_0, .slice A0_1 l0_1.length c0_1, .slice (some ad300) l0_2.length c0_2] 25 (0, 0)) (by (with_reducible repeat (first | refine blk_drewN ?_ _ | refine blk_drew ?_ | refine blk_alloc ?_ _)); exact BK299.out)) : gb299 ≠ gb303)); have n8_ := Aside0.mk ((by rw [hg]; exact Nat.ne_of_gt (blk_lt (g := gb299) (o := .cells #[.bool a0_0, .slice A0_1 l0_1.length c0_1, .slice (some ad300) l0_2.length c0_2] 25 (0, 0)) (by (with_reducible repeat (first | refine blk_drewN ?_ _ | refine blk_drew ?_ | refine blk_alloc ?_ _)); exact BK299.out)) : gb303 ≠ gb299)); have n9_ := Aside0.mk ((by rw [hg]; exact Nat.ne_of_lt (blk_lt (g := gb301) (o := .cells #[.int .i64 ((rd_T38 l0_2 x4_1).f0), .int .i64 ((rd_T38 l0_2 x4_1).f1), .int .i64 ((rd_T38 l0_2 x4_1).f2)] 38 (0, 0)) (by (with_reducible repeat (first | refine blk_drewN ?_ _ | refine blk_drew ?_ | refine blk_alloc ?_ _)); exact BK301.out)) : gb301 ≠ gb303)); have n10_ := Aside0.mk ((by rw [hg]; exact Nat.ne_of_gt (blk_lt (g := gb301) (o := .cells #[.int .i64 ((rd_T38 l0_2 x4_1).f0), .int .i64 ((rd_T38 l0_2 x4_1).f1), .int .i64 ((rd_T38 l0_2 x4_1).f2)] 38 (0, 0)) (by (with_reducible repeat (first | refine blk_drewN ?_ _ | refine blk_drew ?_ | refine blk_alloc ?_ _)); exact BK301.out)) : gb303 ≠ gb301)); clear HO_3; clear BK299; clear BK301; clear HB; have HO_3 := n0_; have BK299 := n1_; have BK301 := n2_; have HB := n3_; have BK303 := n4_; have GW303 := n5_; have GE303 := n6_; have NB299_303 := n7_; have NB303_299 := n8_; have NB301_303 := n9_; have NB303_301 := n10_; clear n0_ n1_ n2_ n3_ n4_ n5_ n6_ n7_ n8_ n9_ n10_; clear hb hbox hg; have hnb16 := NB303_299.out; have hnc16 := NB299_303.out; have hnb17 := NB303_301.out; have hnc17 := NB301_303.out; have hcz18_0 : w15.cell? ⟨gb303, 0, none⟩ = some (.int .i64 0) := (blk_cell BK303.out 0).trans rfl; have hcz18_1 : w15.cell? ⟨gb303, 1, none⟩ = some (.int .i64 0) := (blk_cell BK303.out 1).trans rfl; have hcz18_2 : w15.cell? ⟨gb303, 2, none⟩ = some (.int .i64 0) := (blk_cell BK303.out 2).trans rfl; have hfz18_0 := blk_frozen BK303.out 0; have hfz18_1 := blk_frozen BK303.out 1; have hfz18_2 := blk_frozen BK303.out 2; have hcz19_0 : w15.cell? ⟨gb301, 0, none⟩ = some (.int .i64 ((rd_T38 l0_2 x4_1).f0)) := (blk_cell BK301.out 0).trans rfl; have hcz19_1 : w15.cell? ⟨gb301, 1, none⟩ = some (.int .i64 ((rd_T38 l0_2 x4_1).f1)) := (blk_cell BK301.out 1).trans rfl; have hcz19_2 : w15.cell? ⟨gb301, 2, none⟩ = some (.int .i64 ((rd_T38 l0_2 x4_1).f2)) := (blk_cell BK301.out 2).trans rfl; have hfz19_0 := blk_frozen BK301.out 0; have hfz19_1 := blk_frozen BK301.out 1; have hfz19_2 := blk_frozen BK301.out 2))
                      go_roundg k2
                      case measure => have := HK1.out; have := HK2.out; omega
                      case rel => exact ⟨(false), (wrap64 (x7_2 + 1)), (by first | rfl | (simp; done) | (simp [*]; done)), (by first | rfl | (simp; done) | (simp [*]; done)), H', ⟨by have := HK1.out; have := HK2.out; omega⟩, ⟨by (with_reducible repeat (first | apply Kd.R_alloc | apply Kd.R_drewN | apply Kd.R_drew)); exact Kd.R_mono (Kd.R_far (p := ⟨gb303, 2, none⟩) (Kd.R_far (p := ⟨gb303, 1, none⟩) (Kd.R_far (p := ⟨gb303, 0, none⟩) (Kd.R_types HO_3.out BK303.out (by decide)) (fun _ hk => hk.2) (.int .i64 ((rd_T38 l0_2 x7_2).f0))) (fun _ hk => hk.2) (.int .i64 ((rd_T38 l0_2 x7_2).f1))) (fun _ hk => hk.2) (.int .i64 ((rd_T38 l0_2 x7_2).f2))) (fun _ hk => trivial)⟩, ⟨by (with_reducible repeat (first | refine blk_drewN ?_ _ | refine blk_drew ?_ | refine blk_alloc ?_ _)); refine blk_far ?_ NB299_303.out _; (with_reducible repeat (first | refine blk_drewN ?_ _ | refine blk_drew ?_ | refine blk_alloc ?_ _)); refine blk_far ?_ NB299_303.out _; (with_reducible repeat (first | refine blk_drewN ?_ _ | refine blk_drew ?_ | refine blk_alloc ?_ _)); refine blk_far ?_ NB299_303.out _; (with_reducible repeat (first | refine blk_drewN ?_ _ | refine blk_drew ?_ | refine blk_alloc ?_ _)); exact BK299.out⟩, ⟨by (with_reducible repeat (first | refine blk_drewN ?_ _ | refine blk_drew ?_ | refine blk_alloc ?_ _)); refine blk_far ?_ NB301_303.out _; (with_reducible repeat (first | refine blk_drewN ?_ _ | refine blk_drew ?_ | refine blk_alloc ?_ _)); refine blk_far ?_ NB301_303.out _; (with_reducible repeat (first | refine blk_drewN ?_ _ | refine blk_drew ?_ | refine blk_alloc ?_ _)); refine blk_far ?_ NB301_303.out _; (with_reducible repeat (first | refine blk_drewN ?_ _ | refine blk_drew ?_ | refine blk_alloc ?_ _)); exact BK301.out⟩, ⟨by repeat (first | (with_reducible first | exact HB.out | apply below_alloc | apply pw_below_drewN | apply below_drew1 | refine below_set ?_ GE299.out | refine below_set ?_ GE301.out | refine below_set ?_ GE303.out) | exact HB.out)⟩⟩
                    · rw [if_neg c12] at H
                      have c12b0 : (((rd_T38 l0_2 x7_2).f1) == ((rd_T38 l0_2 x4_1).f1)) = false := beq_eq_false_iff_ne.mpr c12
                      have c12b1 : (((rd_T38 l0_2 x7_2).f1) != ((rd_T38 l0_2 x4_1).f1)) = true := bne_iff_ne.mpr c12
                      by_cases c20 : a0_0 = true
                      · subst c20
                        have H1 : (laws_hops.l1 k2 x3_1 x4_1 x6_2 (wrap64 (x7_2 + 1)) true l0_1 l0_2 ((rd_T38 l0_2 x4_1).f0) ((rd_T38 l0_2 x4_1).f1) ((rd_T38 l0_2 x4_1).f2)) = some r := by rw [if_pos rfl] at H; exact H
                        clear H
                        have H := H1
                        clear H1
                        have H' := Aside0.mk H
                        clear H
                        have hnb21 := NB299_301.out
                        have hnc21 := NB301_299.out
                        have hcz22_0 : wr.cell? ⟨gb299, 0, none⟩ = some (.bool true) := (blk_cell BK299.out 0).trans rfl
                        have hcz22_1 : wr.cell? ⟨gb299, 1, none⟩ = some (.slice A0_1 l0_1.length c0_1) := (blk_cell BK299.out 1).trans rfl
                        have hcz22_2 : wr.cell? ⟨gb299, 2, none⟩ = some (.slice (some ad300) l0_2.length c0_2) := (blk_cell BK299.out 2).trans rfl
                        have hfz22_0 := blk_frozen BK299.out 0
                        have hfz22_1 := blk_frozen BK299.out 1
                        have hfz22_2 := blk_frozen BK299.out 2
                        have p302 : 0 ≤ (x7_2 : Int) := of_decide_eq_true (by first | (with_reducible assumption) | assumption)
                        have q302 : x7_2 < (l0_2.length : Int) := of_decide_eq_true (by first | (with_reducible assumption) | assumption)
                        obtain ⟨ad302, e302, hx302_0, hx302_1, hx302_2⟩ := at_T38 HR0_2.out x7_2 p302 q302
                        obtain rfl : ad300 = ad302 := (by injection e302)
                        replace hx302_0 := (HB.out.cell (World.block_lt_of_cell? w _ hx302_0)).trans hx302_0
                        replace hx302_1 := (HB.out.cell (World.block_lt_of_cell? w _ hx302_1)).trans hx302_1
                        replace hx302_2 := (HB.out.cell (World.block_lt_of_cell? w _ hx302_2)).trans hx302_2
                        replace p302 := eq_true p302
                        replace q302 := eq_true q302
                        go_wp2_with (first | ((with_reducible refine gate_dst (N := 8) rfl ?_); refine box_event ?hg (N := 8) ?hd (cs := #[.int .i64 0, .int .i64 0, .int .i64 0]) (t := 38) ?hr ?_; (case hd => rfl); (case hg => rfl); (case hr => first | (go_simp; done) | (go_simp; rfl)); intro gb303 hg w23 hbox hb; have n0_ := Aside0.mk (Kd.R_below (by (with_reducible repeat (first | apply Kd.R_alloc | apply Kd.R_drewN | apply Kd.R_drew)); exact HO_3.out) hb); have n1_ := Aside0.mk (blk_below (g := gb299) (o := .cells #[.bool true, .slice A0_1 l0_1.length c0_1, .slice (some ad300) l0_2.length c0_2] 25 (0, 0)) (by (with_reducible repeat (first | refine blk_drewN ?_ _ | refine blk_drew ?_ | refine blk_alloc ?_ _)); exact BK299.out) hb); have n2_ := Aside0.mk (blk_below (g := gb301) (o := .cells #[.int .i64 ((rd_T38 l0_2 x4_1).f0), .int .i64 ((rd_T38 l0_2 x4_1).f1), .int .i64 ((rd_T38 l0_2 x4_1).f2)] 38 (0, 0)) (by (with_reducible repeat (first | refine blk_drewN ?_ _ | refine blk_drew ?_ | refine blk_alloc ?_ _)); exact BK301.out) hb); have n3_ := Aside0.mk (below_step (by repeat (first | (with_reducible first | exact HB.out | apply below_alloc | apply pw_below_drewN | apply below_drew1 | refine below_set ?_ GE299.out | refine below_set ?_ GE301.out) | exact HB.out)) hb); have n4_ := Aside0.mk (hbox); have n5_ := Aside0.mk ((by rw [hg]; exact (below_size (by repeat (first | (with_reducible first | exact HB.out | apply below_alloc | apply pw_below_drewN | apply below_drew1 | refine below_set ?_ GE299.out | refine below_set ?_ GE301.out) | exact HB.out))) : w.heap.size ≤ gb303)); have n6_ := Aside0.mk ((by rw [hg]; exact (below_size (by repeat (first | (with_reducible first | exact HB.out | apply below_alloc | apply pw_below_drewN | apply below_drew1 | refine below_set ?_ GE299.out | refine below_set ?_ GE301.out) | exact HB.out))) : w.heap.size ≤ gb303)); have n7_ := Aside0.mk ((by rw [hg]; exact Nat.ne_of_lt (blk_lt (g := gb299) (o := .cells #[.bool true, .slice A0_1 l0_1.length c0_1, .slice (some ad300) l0_2.length c0_2] 25 (0, 0)) (by (with_reducible repeat (first | refine blk_drewN ?_ _ | refine blk_drew ?_ | refine blk_alloc ?_ _)); exact BK299.out)) : gb299 ≠ gb303)); have n8_ := Aside0.mk ((by rw [hg]; exact Nat.ne_of_gt (blk_lt (g := gb299) (o := .cells #[.bool true, .slice A0_1 l0_1.length c0_1, .slice (some ad300) l0_2.length c0_2] 25 (0, 0)) (by (with_reducible repeat (first | refine blk_drewN ?_ _ | refine blk_drew ?_ | refine blk_alloc ?_ _)); exact BK299.out)) : gb303 ≠ gb299)); have n9_ := Aside0.mk ((by rw [hg]; exact Nat.ne_of_lt (blk_lt (g := gb301) (o := .cells #[.int .i64 ((rd_T38 l0_2 x4_1).f0), .int .i64 ((rd_T38 l0_2 x4_1).f1), .int .i64 ((rd_T38 l0_2 x4_1).f2)] 38 (0, 0)) (by (with_reducible repeat (first | refine blk_drewN ?_ _ | refine blk_drew ?_ | refine blk_alloc ?_ _)); exact BK301.out)) : gb301 ≠ gb303)); have n10_ := Aside0.mk ((by rw [hg]; exact Nat.ne_of_gt (blk_lt (g := gb301) (o := .cells #[.int .i64 ((rd_T38 l0_2 x4_1).f0), .int .i64 ((rd_T38 l0_2 x4_1).f1), .int .i64 ((rd_T38 l0_2 x4_1).f2)] 38 (0, 0)) (by (with_reducible repeat (first | refine blk_drewN ?_ _ | refine blk_drew ?_ | refine blk_alloc ?_ _)); exact BK301.out)) : gb303 ≠ gb301)); clear HO_3; clear BK299; clear BK301; clear HB; have HO_3 := n0_; have BK299 := n1_; have BK301 := n2_; have HB := n3_; have BK303 := n4_; have GW303 := n5_; have GE303 := n6_; have NB299_303 := n7_; have NB303_299 := n8_; have NB301_303 := n9_; have NB303_301 := n10_; clear n0_ n1_ n2_ n3_ n4_ n5_ n6_ n7_ n8_ n9_ n10_; clear hb hbox hg; have hnb24 := NB303_299.out; have hnc24 := NB299_303.out; have hnb25 := NB303_301.out; have hnc25 := NB301_303.out; have hcz26_0 : w23.cell? ⟨gb303, 0, none⟩ = some (.int .i64 0) := (blk_cell BK303.out 0).trans rfl; have hcz26_1 : w23.cell? ⟨gb303, 1, none⟩ = some (.int .i64 0) := (blk_cell BK303.out 1).trans rfl; have hcz26_2 : w23.cell? ⟨gb303, 2, none⟩ = some (.int .i64 0) := (blk_cell BK303.out 2).trans rfl; have hfz26_0 := blk_frozen BK303.out 0; have hfz26_1 := blk_frozen BK303.out 1; have hfz26_2 := blk_frozen BK303.out 2; have hcz27_0 : w23.cell? ⟨gb301, 0, none⟩ = some (.int .i64 ((rd_T38 l0_2 x4_1).f0)) := (blk_cell BK301.out 0).trans rfl; have hcz27_1 : w23.cell? ⟨gb301, 1, none⟩ = some (.int .i64 ((rd_T38 l0_2 x4_1).f1)) := (blk_cell BK301.out 1).trans rfl; have hcz27_2 : w23.cell? ⟨gb301, 2, none⟩ = some (.int .i64 ((rd_T38 l0_2 x4_1).f2)) := (blk_cell BK301.out 2).trans rfl; have hfz27_0 := blk_frozen BK301.out 0; have hfz27_1 := blk_frozen BK301.out 1; have hfz27_2 := blk_frozen BK301.out 2; have hcz28_0 : w23.cell? ⟨gb299, 0, none⟩ = some (.bool true) := (blk_cell BK299.out 0).trans rfl; have hcz28_1 : w23.cell? ⟨gb299, 1, none⟩ = some (.slice A0_1 l0_1.length c0_1) := (blk_cell BK299.out 1).trans rfl; have hcz28_2 : w23.cell? ⟨gb299, 2, none⟩ = some (.slice (some ad300) l0_2.length c0_2) := (blk_cell BK299.out 2).trans rfl; have hfz28_0 := blk_frozen BK299.out 0; have hfz28_1 := blk_frozen BK299.out 1; have hfz28_2 := blk_frozen BK299.out 2))
                        go_roundg k2
                        case measure => have := HK1.out; have := HK2.out; omega
                        case rel => exact ⟨(x6_2), (wrap64 (x7_2 + 1)), (by first | rfl | (simp; done) | (simp [*]; done)), (by first | rfl | (simp; done) | (simp [*]; done)), H', ⟨by have := HK1.out; have := HK2.out; omega⟩, ⟨by (with_reducible repeat (first | apply Kd.R_alloc | apply Kd.R_drewN | apply Kd.R_drew)); exact Kd.R_mono (Kd.R_far (p := ⟨gb303, 2, none⟩) (Kd.R_far (p := ⟨gb303, 1, none⟩) (Kd.R_far (p := ⟨gb303, 0, none⟩) (Kd.R_types HO_3.out BK303.out (by decide)) (fun _ hk => hk.2) (.int .i64 ((rd_T38 l0_2 x7_2).f0))) (fun _ hk => hk.2) (.int .i64 ((rd_T38 l0_2 x7_2).f1))) (fun _ hk => hk.2) (.int .i64 ((rd_T38 l0_2 x7_2).f2))) (fun _ hk => trivial)⟩, ⟨by (with_reducible repeat (first | refine blk_drewN ?_ _ | refine blk_drew ?_ | refine blk_alloc ?_ _)); refine blk_far ?_ NB299_303.out _; (with_reducible repeat (first | refine blk_drewN ?_ _ | refine blk_drew ?_ | refine blk_alloc ?_ _)); refine blk_far ?_ NB299_303.out _; (with_reducible repeat (first | refine blk_drewN ?_ _ | refine blk_drew ?_ | refine blk_alloc ?_ _)); refine blk_far ?_ NB299_303.out _; (with_reducible repeat (first | refine blk_drewN ?_ _ | refine blk_drew ?_ | refine blk_alloc ?_ _)); exact BK299.out⟩, ⟨by (with_reducible repeat (first | refine blk_drewN ?_ _ | refine blk_drew ?_ | refine blk_alloc ?_ _)); refine blk_far ?_ NB301_303.out _; (with_reducible repeat (first | refine blk_drewN ?_ _ | refine blk_drew ?_ | refine blk_alloc ?_ _)); refine blk_far ?_ NB301_303.out _; (with_reducible repeat (first | refine blk_drewN ?_ _ | refine blk_drew ?_ | refine blk_alloc ?_ _)); refine blk_far ?_ NB301_303.out _; (with_reducible repeat (first | refine blk_drewN ?_ _ | refine blk_drew ?_ | refine blk_alloc ?_ _)); exact BK301.out⟩, ⟨by repeat (first | (with_reducible first | exact HB.out | apply below_alloc | apply pw_below_drewN | apply below_drew1 | refine below_set ?_ GE299.out | refine below_set ?_ GE301.out | refine below_set ?_ GE303.out) | exact HB.out)⟩⟩
                      · replace c20 := Bool.eq_false_iff.mpr c20
                        subst c20
                        have H1 : (if ((rd_T38 l0_2 x7_2).f0) = ((rd_T38 l0_2 x4_1).f1) then (if ((rd_T38 l0_2 x7_2).f1) = ((rd_T38 l0_2 x4_1).f0) then (laws_hops.l1 k2 x3_1 x4_1 false (wrap64 (x7_2 + 1)) false l0_1 l0_2 ((rd_T38 l0_2 x4_1).f0) ((rd_T38 l0_2 x4_1).f1) ((rd_T38 l0_2 x4_1).f2)) else (laws_hops.l1 k2 x3_1 x4_1 x6_2 (wrap64 (x7_2 + 1)) false l0_1 l0_2 ((rd_T38 l0_2 x4_1).f0) ((rd_T38 l0_2 x4_1).f1) ((rd_T38 l0_2 x4_1).f2))) else (laws_hops.l1 k2 x3_1 x4_1 x6_2 (wrap64 (x7_2 + 1)) false l0_1 l0_2 ((rd_T38 l0_2 x4_1).f0) ((rd_T38 l0_2 x4_1).f1) ((rd_T38 l0_2 x4_1).f2))) = some r := by rw [if_neg (show ¬ (false = true) by decide)] at H; exact H
                        clear H
                        have H := H1
                        clear H1
                        by_cases c29 : ((rd_T38 l0_2 x7_2).f0) = ((rd_T38 l0_2 x4_1).f1)
                        · rw [if_pos c29] at H
                          have c29b0 : (((rd_T38 l0_2 x7_2).f0) == ((rd_T38 l0_2 x4_1).f1)) = true := beq_iff_eq.mpr c29
                          have c29b1 : (((rd_T38 l0_2 x7_2).f0) != ((rd_T38 l0_2 x4_1).f1)) = false := bne_eq_false_iff_eq.mpr c29
                          clear c29
                          by_cases c30 : ((rd_T38 l0_2 x7_2).f1) = ((rd_T38 l0_2 x4_1).f0)
                          · rw [if_pos c30] at H
                            have c30b0 : (((rd_T38 l0_2 x7_2).f1) == ((rd_T38 l0_2 x4_1).f0)) = true := beq_iff_eq.mpr c30
                            have c30b1 : (((rd_T38 l0_2 x7_2).f1) != ((rd_T38 l0_2 x4_1).f0)) = false := bne_eq_false_iff_eq.mpr c30
                            clear c30
                            have H' := Aside0.mk H
                            clear H
                            have hnb31 := NB299_301.out
                            have hnc31 := NB301_299.out
                            have hcz32_0 : wr.cell? ⟨gb299, 0, none⟩ = some (.bool false) := (blk_cell BK299.out 0).trans rfl
                            have hcz32_1 : wr.cell? ⟨gb299, 1, none⟩ = some (.slice A0_1 l0_1.length c0_1) := (blk_cell BK299.out 1).trans rfl
                            have hcz32_2 : wr.cell? ⟨gb299, 2, none⟩ = some (.slice (some ad300) l0_2.length c0_2) := (blk_cell BK299.out 2).trans rfl
                            have hfz32_0 := blk_frozen BK299.out 0
                            have hfz32_1 := blk_frozen BK299.out 1
                            have hfz32_2 := blk_frozen BK299.out 2
                            have p302 : 0 ≤ (x7_2 : Int) := of_decide_eq_true (by first | (with_reducible assumption) | assumption)
                            have q302 : x7_2 < (l0_2.length : Int) := of_decide_eq_true (by first | (with_reducible assumption) | assumption)
                            obtain ⟨ad302, e302, hx302_0, hx302_1, hx302_2⟩ := at_T38 HR0_2.out x7_2 p302 q302
                            obtain rfl : ad300 = ad302 := (by injection e302)
                            replace hx302_0 := (HB.out.cell (World.block_lt_of_cell? w _ hx302_0)).trans hx302_0
                            replace hx302_1 := (HB.out.cell (World.block_lt_of_cell? w _ hx302_1)).trans hx302_1
                            replace hx302_2 := (HB.out.cell (World.block_lt_of_cell? w _ hx302_2)).trans hx302_2
                            replace p302 := eq_true p302
                            replace q302 := eq_true q302
                            go_wp2_with (first | ((with_reducible refine gate_dst (N := 8) rfl ?_); refine box_event ?hg (N := 8) ?hd (cs := #[.int .i64 0, .int .i64 0, .int .i64 0]) (t := 38) ?hr ?_; (case hd => rfl); (case hg => rfl); (case hr => first | (go_simp; done) | (go_simp; rfl)); intro gb303 hg w33 hbox hb; have n0_ := Aside0.mk (Kd.R_below (by (with_reducible repeat (first | apply Kd.R_alloc | apply Kd.R_drewN | apply Kd.R_drew)); exact HO_3.out) hb); have n1_ := Aside0.mk (blk_below (g := gb299) (o := .cells #[.bool false, .slice A0_1 l0_1.length c0_1, .slice (some ad300) l0_2.length c0_2] 25 (0, 0)) (by (with_reducible repeat (first | refine blk_drewN ?_ _ | refine blk_drew ?_ | refine blk_alloc ?_ _)); exact BK299.out) hb); have n2_ := Aside0.mk (blk_below (g := gb301) (o := .cells #[.int .i64 ((rd_T38 l0_2 x4_1).f0), .int .i64 ((rd_T38 l0_2 x4_1).f1), .int .i64 ((rd_T38 l0_2 x4_1).f2)] 38 (0, 0)) (by (with_reducible repeat (first | refine blk_drewN ?_ _ | refine blk_drew ?_ | refine blk_alloc ?_ _)); exact BK301.out) hb); have n3_ := Aside0.mk (below_step (by repeat (first | (with_reducible first | exact HB.out | apply below_alloc | apply pw_below_drewN | apply below_drew1 | refine below_set ?_ GE299.out | refine below_set ?_ GE301.out) | exact HB.out)) hb); have n4_ := Aside0.mk (hbox); have n5_ := Aside0.mk ((by rw [hg]; exact (below_size (by repeat (first | (with_reducible first | exact HB.out | apply below_alloc | apply pw_below_drewN | apply below_drew1 | refine below_set ?_ GE299.out | refine below_set ?_ GE301.out) | exact HB.out))) : w.heap.size ≤ gb303)); have n6_ := Aside0.mk ((by rw [hg]; exact (below_size (by repeat (first | (with_reducible first | exact HB.out | apply below_alloc | apply pw_below_drewN | apply below_drew1 | refine below_set ?_ GE299.out | refine below_set ?_ GE301.out) | exact HB.out))) : w.heap.size ≤ gb303)); have n7_ := Aside0.mk ((by rw [hg]; exact Nat.ne_of_lt (blk_lt (g := gb299) (o := .cells #[.bool false, .slice A0_1 l0_1.length c0_1, .slice (some ad300) l0_2.length c0_2] 25 (0, 0)) (by (with_reducible repeat (first | refine blk_drewN ?_ _ | refine blk_drew ?_ | refine blk_alloc ?_ _)); exact BK299.out)) : gb299 ≠ gb303)); have n8_ := Aside0.mk ((by rw [hg]; exact Nat.ne_of_gt (blk_lt (g := gb299) (o := .cells #[.bool false, .slice A0_1 l0_1.length c0_1, .slice (some ad300) l0_2.length c0_2] 25 (0, 0)) (by (with_reducible repeat (first | refine blk_drewN ?_ _ | refine blk_drew ?_ | refine blk_alloc ?_ _)); exact BK299.out)) : gb303 ≠ gb299)); have n9_ := Aside0.mk ((by rw [hg]; exact Nat.ne_of_lt (blk_lt (g := gb301) (o := .cells #[.int .i64 ((rd_T38 l0_2 x4_1).f0), .int .i64 ((rd_T38 l0_2 x4_1).f1), .int .i64 ((rd_T38 l0_2 x4_1).f2)] 38 (0, 0)) (by (with_reducible repeat (first | refine blk_drewN ?_ _ | refine blk_drew ?_ | refine blk_alloc ?_ _)); exact BK301.out)) : gb301 ≠ gb303)); have n10_ := Aside0.mk ((by rw [hg]; exact Nat.ne_of_gt (blk_lt (g := gb301) (o := .cells #[.int .i64 ((rd_T38 l0_2 x4_1).f0), .int .i64 ((rd_T38 l0_2 x4_1).f1), .int .i64 ((rd_T38 l0_2 x4_1).f2)] 38 (0, 0)) (by (with_reducible repeat (first | refine blk_drewN ?_ _ | refine blk_drew ?_ | refine blk_alloc ?_ _)); exact BK301.out)) : gb303 ≠ gb301)); clear HO_3; clear BK299; clear BK301; clear HB; have HO_3 := n0_; have BK299 := n1_; have BK301 := n2_; have HB := n3_; have BK303 := n4_; have GW303 := n5_; have GE303 := n6_; have NB299_303 := n7_; have NB303_299 := n8_; have NB301_303 := n9_; have NB303_301 := n10_; clear n0_ n1_ n2_ n3_ n4_ n5_ n6_ n7_ n8_ n9_ n10_; clear hb hbox hg; have hnb34 := NB303_299.out; have hnc34 := NB299_303.out; have hnb35 := NB303_301.out; have hnc35 := NB301_303.out; have hcz36_0 : w33.cell? ⟨gb303, 0, none⟩ = some (.int .i64 0) := (blk_cell BK303.out 0).trans rfl; have hcz36_1 : w33.cell? ⟨gb303, 1, none⟩ = some (.int .i64 0) := (blk_cell BK303.out 1).trans rfl; have hcz36_2 : w33.cell? ⟨gb303, 2, none⟩ = some (.int .i64 0) := (blk_cell BK303.out 2).trans rfl; have hfz36_0 := blk_frozen BK303.out 0; have hfz36_1 := blk_frozen BK303.out 1; have hfz36_2 := blk_frozen BK303.out 2; have hcz37_0 : w33.cell? ⟨gb301, 0, none⟩ = some (.int .i64 ((rd_T38 l0_2 x4_1).f0)) := (blk_cell BK301.out 0).trans rfl; have hcz37_1 : w33.cell? ⟨gb301, 1, none⟩ = some (.int .i64 ((rd_T38 l0_2 x4_1).f1)) := (blk_cell BK301.out 1).trans rfl; have hcz37_2 : w33.cell? ⟨gb301, 2, none⟩ = some (.int .i64 ((rd_T38 l0_2 x4_1).f2)) := (blk_cell BK301.out 2).trans rfl; have hfz37_0 := blk_frozen BK301.out 0; have hfz37_1 := blk_frozen BK301.out 1; have hfz37_2 := blk_frozen BK301.out 2; have hcz38_0 : w33.cell? ⟨gb299, 0, none⟩ = some (.bool false) := (blk_cell BK299.out 0).trans rfl; have hcz38_1 : w33.cell? ⟨gb299, 1, none⟩ = some (.slice A0_1 l0_1.length c0_1) := (blk_cell BK299.out 1).trans rfl; have hcz38_2 : w33.cell? ⟨gb299, 2, none⟩ = some (.slice (some ad300) l0_2.length c0_2) := (blk_cell BK299.out 2).trans rfl; have hfz38_0 := blk_frozen BK299.out 0; have hfz38_1 := blk_frozen BK299.out 1; have hfz38_2 := blk_frozen BK299.out 2))
                            go_roundg k2
                            case measure => have := HK1.out; have := HK2.out; omega
                            case rel => exact ⟨(false), (wrap64 (x7_2 + 1)), (by first | rfl | (simp; done) | (simp [*]; done)), (by first | rfl | (simp; done) | (simp [*]; done)), H', ⟨by have := HK1.out; have := HK2.out; omega⟩, ⟨by (with_reducible repeat (first | apply Kd.R_alloc | apply Kd.R_drewN | apply Kd.R_drew)); exact Kd.R_mono (Kd.R_far (p := ⟨gb303, 2, none⟩) (Kd.R_far (p := ⟨gb303, 1, none⟩) (Kd.R_far (p := ⟨gb303, 0, none⟩) (Kd.R_types HO_3.out BK303.out (by decide)) (fun _ hk => hk.2) (.int .i64 ((rd_T38 l0_2 x7_2).f0))) (fun _ hk => hk.2) (.int .i64 ((rd_T38 l0_2 x7_2).f1))) (fun _ hk => hk.2) (.int .i64 ((rd_T38 l0_2 x7_2).f2))) (fun _ hk => trivial)⟩, ⟨by (with_reducible repeat (first | refine blk_drewN ?_ _ | refine blk_drew ?_ | refine blk_alloc ?_ _)); refine blk_far ?_ NB299_303.out _; (with_reducible repeat (first | refine blk_drewN ?_ _ | refine blk_drew ?_ | refine blk_alloc ?_ _)); refine blk_far ?_ NB299_303.out _; (with_reducible repeat (first | refine blk_drewN ?_ _ | refine blk_drew ?_ | refine blk_alloc ?_ _)); refine blk_far ?_ NB299_303.out _; (with_reducible repeat (first | refine blk_drewN ?_ _ | refine blk_drew ?_ | refine blk_alloc ?_ _)); exact BK299.out⟩, ⟨by (with_reducible repeat (first | refine blk_drewN ?_ _ | refine blk_drew ?_ | refine blk_alloc ?_ _)); refine blk_far ?_ NB301_303.out _; (with_reducible repeat (first | refine blk_drewN ?_ _ | refine blk_drew ?_ | refine blk_alloc ?_ _)); refine blk_far ?_ NB301_303.out _; (with_reducible repeat (first | refine blk_drewN ?_ _ | refine blk_drew ?_ | refine blk_alloc ?_ _)); refine blk_far ?_ NB301_303.out _; (with_reducible repeat (first | refine blk_drewN ?_ _ | refine blk_drew ?_ | refine blk_alloc ?_ _)); exact BK301.out⟩, ⟨by repeat (first | (with_reducible first | exact HB.out | apply below_alloc | apply pw_below_drewN | apply below_drew1 | refine below_set ?_ GE299.out | refine below_set ?_ GE301.out | refine below_set ?_ GE303.out) | exact HB.out)⟩⟩
                          · rw [if_neg c30] at H
                            have c30b0 : (((rd_T38 l0_2 x7_2).f1) == ((rd_T38 l0_2 x4_1).f0)) = false := beq_eq_false_iff_ne.mpr c30
                            have c30b1 : (((rd_T38 l0_2 x7_2).f1) != ((rd_T38 l0_2 x4_1).f0)) = true := bne_iff_ne.mpr c30
                            have H' := Aside0.mk H
                            clear H
                            have hnb39 := NB299_301.out
                            have hnc39 := NB301_299.out
                            have hcz40_0 : wr.cell? ⟨gb299, 0, none⟩ = some (.bool false) := (blk_cell BK299.out 0).trans rfl
                            have hcz40_1 : wr.cell? ⟨gb299, 1, none⟩ = some (.slice A0_1 l0_1.length c0_1) := (blk_cell BK299.out 1).trans rfl
                            have hcz40_2 : wr.cell? ⟨gb299, 2, none⟩ = some (.slice (some ad300) l0_2.length c0_2) := (blk_cell BK299.out 2).trans rfl
                            have hfz40_0 := blk_frozen BK299.out 0
                            have hfz40_1 := blk_frozen BK299.out 1
                            have hfz40_2 := blk_frozen BK299.out 2
                            have p302 : 0 ≤ (x7_2 : Int) := of_decide_eq_true (by first | (with_reducible assumption) | assumption)
                            have q302 : x7_2 < (l0_2.length : Int) := of_decide_eq_true (by first | (with_reducible assumption) | assumption)
                            obtain ⟨ad302, e302, hx302_0, hx302_1, hx302_2⟩ := at_T38 HR0_2.out x7_2 p302 q302
                            obtain rfl : ad300 = ad302 := (by injection e302)
                            replace hx302_0 := (HB.out.cell (World.block_lt_of_cell? w _ hx302_0)).trans hx302_0
                            replace hx302_1 := (HB.out.cell (World.block_lt_of_cell? w _ hx302_1)).trans hx302_1
                            replace hx302_2 := (HB.out.cell (World.block_lt_of_cell? w _ hx302_2)).trans hx302_2
                            replace p302 := eq_true p302
                            replace q302 := eq_true q302
                            go_wp2_with (first | ((with_reducible refine gate_dst (N := 8) rfl ?_); refine box_event ?hg (N := 8) ?hd (cs := #[.int .i64 0, .int .i64 0, .int .i64 0]) (t := 38) ?hr ?_; (case hd => rfl); (case hg => rfl); (case hr => first | (go_simp; done) | (go_simp; rfl)); intro gb303 hg w41 hbox hb; have n0_ := Aside0.mk (Kd.R_below (by (with_reducible repeat (first | apply Kd.R_alloc | apply Kd.R_drewN | apply Kd.R_drew)); exact HO_3.out) hb); have n1_ := Aside0.mk (blk_below (g := gb299) (o := .cells #[.bool false, .slice A0_1 l0_1.length c0_1, .slice (some ad300) l0_2.length c0_2] 25 (0, 0)) (by (with_reducible repeat (first | refine blk_drewN ?_ _ | refine blk_drew ?_ | refine blk_alloc ?_ _)); exact BK299.out) hb); have n2_ := Aside0.mk (blk_below (g := gb301) (o := .cells #[.int .i64 ((rd_T38 l0_2 x4_1).f0), .int .i64 ((rd_T38 l0_2 x4_1).f1), .int .i64 ((rd_T38 l0_2 x4_1).f2)] 38 (0, 0)) (by (with_reducible repeat (first | refine blk_drewN ?_ _ | refine blk_drew ?_ | refine blk_alloc ?_ _)); exact BK301.out) hb); have n3_ := Aside0.mk (below_step (by repeat (first | (with_reducible first | exact HB.out | apply below_alloc | apply pw_below_drewN | apply below_drew1 | refine below_set ?_ GE299.out | refine below_set ?_ GE301.out) | exact HB.out)) hb); have n4_ := Aside0.mk (hbox); have n5_ := Aside0.mk ((by rw [hg]; exact (below_size (by repeat (first | (with_reducible first | exact HB.out | apply below_alloc | apply pw_below_drewN | apply below_drew1 | refine below_set ?_ GE299.out | refine below_set ?_ GE301.out) | exact HB.out))) : w.heap.size ≤ gb303)); have n6_ := Aside0.mk ((by rw [hg]; exact (below_size (by repeat (first | (with_reducible first | exact HB.out | apply below_alloc | apply pw_below_drewN | apply below_drew1 | refine below_set ?_ GE299.out | refine below_set ?_ GE301.out) | exact HB.out))) : w.heap.size ≤ gb303)); have n7_ := Aside0.mk ((by rw [hg]; exact Nat.ne_of_lt (blk_lt (g := gb299) (o := .cells #[.bool false, .slice A0_1 l0_1.length c0_1, .slice (some ad300) l0_2.length c0_2] 25 (0, 0)) (by (with_reducible repeat (first | refine blk_drewN ?_ _ | refine blk_drew ?_ | refine blk_alloc ?_ _)); exact BK299.out)) : gb299 ≠ gb303)); have n8_ := Aside0.mk ((by rw [hg]; exact Nat.ne_of_gt (blk_lt (g := gb299) (o := .cells #[.bool false, .slice A0_1 l0_1.length c0_1, .slice (some ad300) l0_2.length c0_2] 25 (0, 0)) (by (with_reducible repeat (first | refine blk_drewN ?_ _ | refine blk_drew ?_ | refine blk_alloc ?_ _)); exact BK299.out)) : gb303 ≠ gb299)); have n9_ := Aside0.mk ((by rw [hg]; exact Nat.ne_of_lt (blk_lt (g := gb301) (o := .cells #[.int .i64 ((rd_T38 l0_2 x4_1).f0), .int .i64 ((rd_T38 l0_2 x4_1).f1), .int .i64 ((rd_T38 l0_2 x4_1).f2)] 38 (0, 0)) (by (with_reducible repeat (first | refine blk_drewN ?_ _ | refine blk_drew ?_ | refine blk_alloc ?_ _)); exact BK301.out)) : gb301 ≠ gb303)); have n10_ := Aside0.mk ((by rw [hg]; exact Nat.ne_of_gt (blk_lt (g := gb301) (o := .cells #[.int .i64 ((rd_T38 l0_2 x4_1).f0), .int .i64 ((rd_T38 l0_2 x4_1).f1), .int .i64 ((rd_T38 l0_2 x4_1).f2)] 38 (0, 0)) (by (with_reducible repeat (first | refine blk_drewN ?_ _ | refine blk_drew ?_ | refine blk_alloc ?_ _)); exact BK301.out)) : gb303 ≠ gb301)); clear HO_3; clear BK299; clear BK301; clear HB; have HO_3 := n0_; have BK299 := n1_; have BK301 := n2_; have HB := n3_; have BK303 := n4_; have GW303 := n5_; have GE303 := n6_; have NB299_303 := n7_; have NB303_299 := n8_; have NB301_303 := n9_; have NB303_301 := n10_; clear n0_ n1_ n2_ n3_ n4_ n5_ n6_ n7_ n8_ n9_ n10_; clear hb hbox hg; have hnb42 := NB303_299.out; have hnc42 := NB299_303.out; have hnb43 := NB303_301.out; have hnc43 := NB301_303.out; have hcz44_0 : w41.cell? ⟨gb303, 0, none⟩ = some (.int .i64 0) := (blk_cell BK303.out 0).trans rfl; have hcz44_1 : w41.cell? ⟨gb303, 1, none⟩ = some (.int .i64 0) := (blk_cell BK303.out 1).trans rfl; have hcz44_2 : w41.cell? ⟨gb303, 2, none⟩ = some (.int .i64 0) := (blk_cell BK303.out 2).trans rfl; have hfz44_0 := blk_frozen BK303.out 0; have hfz44_1 := blk_frozen BK303.out 1; have hfz44_2 := blk_frozen BK303.out 2; have hcz45_0 : w41.cell? ⟨gb301, 0, none⟩ = some (.int .i64 ((rd_T38 l0_2 x4_1).f0)) := (blk_cell BK301.out 0).trans rfl; have hcz45_1 : w41.cell? ⟨gb301, 1, none⟩ = some (.int .i64 ((rd_T38 l0_2 x4_1).f1)) := (blk_cell BK301.out 1).trans rfl; have hcz45_2 : w41.cell? ⟨gb301, 2, none⟩ = some (.int .i64 ((rd_T38 l0_2 x4_1).f2)) := (blk_cell BK301.out 2).trans rfl; have hfz45_0 := blk_frozen BK301.out 0; have hfz45_1 := blk_frozen BK301.out 1; have hfz45_2 := blk_frozen BK301.out 2; have hcz46_0 : w41.cell? ⟨gb299, 0, none⟩ = some (.bool false) := (blk_cell BK299.out 0).trans rfl; have hcz46_1 : w41.cell? ⟨gb299, 1, none⟩ = some (.slice A0_1 l0_1.length c0_1) := (blk_cell BK299.out 1).trans rfl; have hcz46_2 : w41.cell? ⟨gb299, 2, none⟩ = some (.slice (some ad300) l0_2.length c0_2) := (blk_cell BK299.out 2).trans rfl; have hfz46_0 := blk_frozen BK299.out 0; have hfz46_1 := blk_frozen BK299.out 1; have hfz46_2 := blk_frozen BK299.out 2))
                            go_roundg k2
                            case measure => have := HK1.out; have := HK2.out; omega
                            case rel => exact ⟨(x6_2), (wrap64 (x7_2 + 1)), (by first | rfl | (simp; done) | (simp [*]; done)), (by first | rfl | (simp; done) | (simp [*]; done)), H', ⟨by have := HK1.out; have := HK2.out; omega⟩, ⟨by (with_reducible repeat (first | apply Kd.R_alloc | apply Kd.R_drewN | apply Kd.R_drew)); exact Kd.R_mono (Kd.R_far (p := ⟨gb303, 2, none⟩) (Kd.R_far (p := ⟨gb303, 1, none⟩) (Kd.R_far (p := ⟨gb303, 0, none⟩) (Kd.R_types HO_3.out BK303.out (by decide)) (fun _ hk => hk.2) (.int .i64 ((rd_T38 l0_2 x7_2).f0))) (fun _ hk => hk.2) (.int .i64 ((rd_T38 l0_2 x7_2).f1))) (fun _ hk => hk.2) (.int .i64 ((rd_T38 l0_2 x7_2).f2))) (fun _ hk => trivial)⟩, ⟨by (with_reducible repeat (first | refine blk_drewN ?_ _ | refine blk_drew ?_ | refine blk_alloc ?_ _)); refine blk_far ?_ NB299_303.out _; (with_reducible repeat (first | refine blk_drewN ?_ _ | refine blk_drew ?_ | refine blk_alloc ?_ _)); refine blk_far ?_ NB299_303.out _; (with_reducible repeat (first | refine blk_drewN ?_ _ | refine blk_drew ?_ | refine blk_alloc ?_ _)); refine blk_far ?_ NB299_303.out _; (with_reducible repeat (first | refine blk_drewN ?_ _ | refine blk_drew ?_ | refine blk_alloc ?_ _)); exact BK299.out⟩, ⟨by (with_reducible repeat (first | refine blk_drewN ?_ _ | refine blk_drew ?_ | refine blk_alloc ?_ _)); refine blk_far ?_ NB301_303.out _; (with_reducible repeat (first | refine blk_drewN ?_ _ | refine blk_drew ?_ | refine blk_alloc ?_ _)); refine blk_far ?_ NB301_303.out _; (with_reducible repeat (first | refine blk_drewN ?_ _ | refine blk_drew ?_ | refine blk_alloc ?_ _)); refine blk_far ?_ NB301_303.out _; (with_reducible repeat (first | refine blk_drewN ?_ _ | refine blk_drew ?_ | refine blk_alloc ?_ _)); exact BK301.out⟩, ⟨by repeat (first | (with_reducible first | exact HB.out | apply below_alloc | apply pw_below_drewN | apply below_drew1 | refine below_set ?_ GE299.out | refine below_set ?_ GE301.out | refine below_set ?_ GE303.out) | exact HB.out)⟩⟩
                        · rw [if_neg c29] at H
                          have c29b0 : (((rd_T38 l0_2 x7_2).f0) == ((rd_T38 l0_2 x4_1).f1)) = false := beq_eq_false_iff_ne.mpr c29
                          have c29b1 : (((rd_T38 l0_2 x7_2).f0) != ((rd_T38 l0_2 x4_1).f1)) = true := bne_iff_ne.mpr c29
                          have H' := Aside0.mk H
                          clear H
                          have hnb47 := NB299_301.out
                          have hnc47 := NB301_299.out
                          have hcz48_0 : wr.cell? ⟨gb299, 0, none⟩ = some (.bool false) := (blk_cell BK299.out 0).trans rfl
                          have hcz48_1 : wr.cell? ⟨gb299, 1, none⟩ = some (.slice A0_1 l0_1.length c0_1) := (blk_cell BK299.out 1).trans rfl
                          have hcz48_2 : wr.cell? ⟨gb299, 2, none⟩ = some (.slice (some ad300) l0_2.length c0_2) := (blk_cell BK299.out 2).trans rfl
                          have hfz48_0 := blk_frozen BK299.out 0
                          have hfz48_1 := blk_frozen BK299.out 1
                          have hfz48_2 := blk_frozen BK299.out 2
                          have p302 : 0 ≤ (x7_2 : Int) := of_decide_eq_true (by first | (with_reducible assumption) | assumption)
                          have q302 : x7_2 < (l0_2.length : Int) := of_decide_eq_true (by first | (with_reducible assumption) | assumption)
                          obtain ⟨ad302, e302, hx302_0, hx302_1, hx302_2⟩ := at_T38 HR0_2.out x7_2 p302 q302
                          obtain rfl : ad300 = ad302 := (by injection e302)
                          replace hx302_0 := (HB.out.cell (World.block_lt_of_cell? w _ hx302_0)).trans hx302_0
                          replace hx302_1 := (HB.out.cell (World.block_lt_of_cell? w _ hx302_1)).trans hx302_1
                          replace hx302_2 := (HB.out.cell (World.block_lt_of_cell? w _ hx302_2)).trans hx302_2
                          replace p302 := eq_true p302
                          replace q302 := eq_true q302
                          go_wp2_with (first | ((with_reducible refine gate_dst (N := 8) rfl ?_); refine box_event ?hg (N := 8) ?hd (cs := #[.int .i64 0, .int .i64 0, .int .i64 0]) (t := 38) ?hr ?_; (case hd => rfl); (case hg => rfl); (case hr => first | (go_simp; done) | (go_simp; rfl)); intro gb303 hg w49 hbox hb; have n0_ := Aside0.mk (Kd.R_below (by (with_reducible repeat (first | apply Kd.R_alloc | apply Kd.R_drewN | apply Kd.R_drew)); exact HO_3.out) hb); have n1_ := Aside0.mk (blk_below (g := gb299) (o := .cells #[.bool false, .slice A0_1 l0_1.length c0_1, .slice (some ad300) l0_2.length c0_2] 25 (0, 0)) (by (with_reducible repeat (first | refine blk_drewN ?_ _ | refine blk_drew ?_ | refine blk_alloc ?_ _)); exact BK299.out) hb); have n2_ := Aside0.mk (blk_below (g := gb301) (o := .cells #[.int .i64 ((rd_T38 l0_2 x4_1).f0), .int .i64 ((rd_T38 l0_2 x4_1).f1), .int .i64 ((rd_T38 l0_2 x4_1).f2)] 38 (0, 0)) (by (with_reducible repeat (first | refine blk_drewN ?_ _ | refine blk_drew ?_ | refine blk_alloc ?_ _)); exact BK301.out) hb); have n3_ := Aside0.mk (below_step (by repeat (first | (with_reducible first | exact HB.out | apply below_alloc | apply pw_below_drewN | apply below_drew1 | refine below_set ?_ GE299.out | refine below_set ?_ GE301.out) | exact HB.out)) hb); have n4_ := Aside0.mk (hbox); have n5_ := Aside0.mk ((by rw [hg]; exact (below_size (by repeat (first | (with_reducible first | exact HB.out | apply below_alloc | apply pw_below_drewN | apply below_drew1 | refine below_set ?_ GE299.out | refine below_set ?_ GE301.out) | exact HB.out))) : w.heap.size ≤ gb303)); have n6_ := Aside0.mk ((by rw [hg]; exact (below_size (by repeat (first | (with_reducible first | exact HB.out | apply below_alloc | apply pw_below_drewN | apply below_drew1 | refine below_set ?_ GE299.out | refine below_set ?_ GE301.out) | exact HB.out))) : w.heap.size ≤ gb303)); have n7_ := Aside0.mk ((by rw [hg]; exact Nat.ne_of_lt (blk_lt (g := gb299) (o := .cells #[.bool false, .slice A0_1 l0_1.length c0_1, .slice (some ad300) l0_2.length c0_2] 25 (0, 0)) (by (with_reducible repeat (first | refine blk_drewN ?_ _ | refine blk_drew ?_ | refine blk_alloc ?_ _)); exact BK299.out)) : gb299 ≠ gb303)); have n8_ := Aside0.mk ((by rw [hg]; exact Nat.ne_of_gt (blk_lt (g := gb299) (o := .cells #[.bool false, .slice A0_1 l0_1.length c0_1, .slice (some ad300) l0_2.length c0_2] 25 (0, 0)) (by (with_reducible repeat (first | refine blk_drewN ?_ _ | refine blk_drew ?_ | refine blk_alloc ?_ _)); exact BK299.out)) : gb303 ≠ gb299)); have n9_ := Aside0.mk ((by rw [hg]; exact Nat.ne_of_lt (blk_lt (g := gb301) (o := .cells #[.int .i64 ((rd_T38 l0_2 x4_1).f0), .int .i64 ((rd_T38 l0_2 x4_1).f1), .int .i64 ((rd_T38 l0_2 x4_1).f2)] 38 (0, 0)) (by (with_reducible repeat (first | refine blk_drewN ?_ _ | refine blk_drew ?_ | refine blk_alloc ?_ _)); exact BK301.out)) : gb301 ≠ gb303)); have n10_ := Aside0.mk ((by rw [hg]; exact Nat.ne_of_gt (blk_lt (g := gb301) (o := .cells #[.int .i64 ((rd_T38 l0_2 x4_1).f0), .int .i64 ((rd_T38 l0_2 x4_1).f1), .int .i64 ((rd_T38 l0_2 x4_1).f2)] 38 (0, 0)) (by (with_reducible repeat (first | refine blk_drewN ?_ _ | refine blk_drew ?_ | refine blk_alloc ?_ _)); exact BK301.out)) : gb303 ≠ gb301)); clear HO_3; clear BK299; clear BK301; clear HB; have HO_3 := n0_; have BK299 := n1_; have BK301 := n2_; have HB := n3_; have BK303 := n4_; have GW303 := n5_; have GE303 := n6_; have NB299_303 := n7_; have NB303_299 := n8_; have NB301_303 := n9_; have NB303_301 := n10_; clear n0_ n1_ n2_ n3_ n4_ n5_ n6_ n7_ n8_ n9_ n10_; clear hb hbox hg; have hnb50 := NB303_299.out; have hnc50 := NB299_303.out; have hnb51 := NB303_301.out; have hnc51 := NB301_303.out; have hcz52_0 : w49.cell? ⟨gb303, 0, none⟩ = some (.int .i64 0) := (blk_cell BK303.out 0).trans rfl; have hcz52_1 : w49.cell? ⟨gb303, 1, none⟩ = some (.int .i64 0) := (blk_cell BK303.out 1).trans rfl; have hcz52_2 : w49.cell? ⟨gb303, 2, none⟩ = some (.int .i64 0) := (blk_cell BK303.out 2).trans rfl; have hfz52_0 := blk_frozen BK303.out 0; have hfz52_1 := blk_frozen BK303.out 1; have hfz52_2 := blk_frozen BK303.out 2; have hcz53_0 : w49.cell? ⟨gb301, 0, none⟩ = some (.int .i64 ((rd_T38 l0_2 x4_1).f0)) := (blk_cell BK301.out 0).trans rfl; have hcz53_1 : w49.cell? ⟨gb301, 1, none⟩ = some (.int .i64 ((rd_T38 l0_2 x4_1).f1)) := (blk_cell BK301.out 1).trans rfl; have hcz53_2 : w49.cell? ⟨gb301, 2, none⟩ = some (.int .i64 ((rd_T38 l0_2 x4_1).f2)) := (blk_cell BK301.out 2).trans rfl; have hfz53_0 := blk_frozen BK301.out 0; have hfz53_1 := blk_frozen BK301.out 1; have hfz53_2 := blk_frozen BK301.out 2; have hcz54_0 : w49.cell? ⟨gb299, 0, none⟩ = some (.bool false) := (blk_cell BK299.out 0).trans rfl; have hcz54_1 : w49.cell? ⟨gb299, 1, none⟩ = some (.slice A0_1 l0_1.length c0_1) := (blk_cell BK299.out 1).trans rfl; have hcz54_2 : w49.cell? ⟨gb299, 2, none⟩ = some (.slice (some ad300) l0_2.length c0_2) := (blk_cell BK299.out 2).trans rfl; have hfz54_0 := blk_frozen BK299.out 0; have hfz54_1 := blk_frozen BK299.out 1; have hfz54_2 := blk_frozen BK299.out 2))
                          go_roundg k2
                          case measure => have := HK1.out; have := HK2.out; omega
                          case rel => exact ⟨(x6_2), (wrap64 (x7_2 + 1)), (by first | rfl | (simp; done) | (simp [*]; done)), (by first | rfl | (simp; done) | (simp [*]; done)), H', ⟨by have := HK1.out; have := HK2.out; omega⟩, ⟨by (with_reducible repeat (first | apply Kd.R_alloc | apply Kd.R_drewN | apply Kd.R_drew)); exact Kd.R_mono (Kd.R_far (p := ⟨gb303, 2, none⟩) (Kd.R_far (p := ⟨gb303, 1, none⟩) (Kd.R_far (p := ⟨gb303, 0, none⟩) (Kd.R_types HO_3.out BK303.out (by decide)) (fun _ hk => hk.2) (.int .i64 ((rd_T38 l0_2 x7_2).f0))) (fun _ hk => hk.2) (.int .i64 ((rd_T38 l0_2 x7_2).f1))) (fun _ hk => hk.2) (.int .i64 ((rd_T38 l0_2 x7_2).f2))) (fun _ hk => trivial)⟩, ⟨by (with_reducible repeat (first | refine blk_drewN ?_ _ | refine blk_drew ?_ | refine blk_alloc ?_ _)); refine blk_far ?_ NB299_303.out _; (with_reducible repeat (first | refine blk_drewN ?_ _ | refine blk_drew ?_ | refine blk_alloc ?_ _)); refine blk_far ?_ NB299_303.out _; (with_reducible repeat (first | refine blk_drewN ?_ _ | refine blk_drew ?_ | refine blk_alloc ?_ _)); refine blk_far ?_ NB299_303.out _; (with_reducible repeat (first | refine blk_drewN ?_ _ | refine blk_drew ?_ | refine blk_alloc ?_ _)); exact BK299.out⟩, ⟨by (with_reducible repeat (first | refine blk_drewN ?_ _ | refine blk_drew ?_ | refine blk_alloc ?_ _)); refine blk_far ?_ NB301_303.out _; (with_reducible repeat (first | refine blk_drewN ?_ _ | refine blk_drew ?_ | refine blk_alloc ?_ _)); refine blk_far ?_ NB301_303.out _; (with_reducible repeat (first | refine blk_drewN ?_ _ | refine blk_drew ?_ | refine blk_alloc ?_ _)); refine blk_far ?_ NB301_303.out _; (with_reducible repeat (first | refine blk_drewN ?_ _ | refine blk_drew ?_ | refine blk_alloc ?_ _)); exact BK301.out⟩, ⟨by repeat (first | (with_reducible first | exact HB.out | apply below_alloc | apply pw_below_drewN | apply below_drew1 | refine below_set ?_ GE299.out | refine below_set ?_ GE301.out | refine below_set ?_ GE303.out) | exact HB.out)⟩⟩
                  · rw [if_neg c11] at H
                    have c11b0 : (((rd_T38 l0_2 x7_2).f0) == ((rd_T38 l0_2 x4_1).f0)) = false := beq_eq_false_iff_ne.mpr c11
                    have c11b1 : (((rd_T38 l0_2 x7_2).f0) != ((rd_T38 l0_2 x4_1).f0)) = true := bne_iff_ne.mpr c11
                    by_cases c55 : a0_0 = true
                    · subst c55
                      have H1 : (laws_hops.l1 k2 x3_1 x4_1 x6_2 (wrap64 (x7_2 + 1)) true l0_1 l0_2 ((rd_T38 l0_2 x4_1).f0) ((rd_T38 l0_2 x4_1).f1) ((rd_T38 l0_2 x4_1).f2)) = some r := by rw [if_pos rfl] at H; exact H
                      clear H
                      have H := H1
                      clear H1
                      have H' := Aside0.mk H
                      clear H
                      have hnb56 := NB299_301.out
                      have hnc56 := NB301_299.out
                      have hcz57_0 : wr.cell? ⟨gb299, 0, none⟩ = some (.bool true) := (blk_cell BK299.out 0).trans rfl
                      have hcz57_1 : wr.cell? ⟨gb299, 1, none⟩ = some (.slice A0_1 l0_1.length c0_1) := (blk_cell BK299.out 1).trans rfl
                      have hcz57_2 : wr.cell? ⟨gb299, 2, none⟩ = some (.slice (some ad300) l0_2.length c0_2) := (blk_cell BK299.out 2).trans rfl
                      have hfz57_0 := blk_frozen BK299.out 0
                      have hfz57_1 := blk_frozen BK299.out 1
                      have hfz57_2 := blk_frozen BK299.out 2
                      have p302 : 0 ≤ (x7_2 : Int) := of_decide_eq_true (by first | (with_reducible assumption) | assumption)
                      have q302 : x7_2 < (l0_2.length : Int) := of_decide_eq_true (by first | (with_reducible assumption) | assumption)
                      obtain ⟨ad302, e302, hx302_0, hx302_1, hx302_2⟩ := at_T38 HR0_2.out x7_2 p302 q302
                      obtain rfl : ad300 = ad302 := (by injection e302)
                      replace hx302_0 := (HB.out.cell (World.block_lt_of_cell? w _ hx302_0)).trans hx302_0
                      replace hx302_1 := (HB.out.cell (World.block_lt_of_cell? w _ hx302_1)).trans hx302_1
                      replace hx302_2 := (HB.out.cell (World.block_lt_of_cell? w _ hx302_2)).trans hx302_2
                      replace p302 := eq_true p302
                      replace q302 := eq_true q302
                      go_wp2_with (first | ((with_reducible refine gate_dst (N := 8) rfl ?_); refine box_event ?hg (N := 8) ?hd (cs := #[.int .i64 0, .int .i64 0, .int .i64 0]) (t := 38) ?hr ?_; (case hd => rfl); (case hg => rfl); (case hr => first | (go_simp; done) | (go_simp; rfl)); intro gb303 hg w58 hbox hb; have n0_ := Aside0.mk (Kd.R_below (by (with_reducible repeat (first | apply Kd.R_alloc | apply Kd.R_drewN | apply Kd.R_drew)); exact HO_3.out) hb); have n1_ := Aside0.mk (blk_below (g := gb299) (o := .cells #[.bool true, .slice A0_1 l0_1.length c0_1, .slice (some ad300) l0_2.length c0_2] 25 (0, 0)) (by (with_reducible repeat (first | refine blk_drewN ?_ _ | refine blk_drew ?_ | refine blk_alloc ?_ _)); exact BK299.out) hb); have n2_ := Aside0.mk (blk_below (g := gb301) (o := .cells #[.int .i64 ((rd_T38 l0_2 x4_1).f0), .int .i64 ((rd_T38 l0_2 x4_1).f1), .int .i64 ((rd_T38 l0_2 x4_1).f2)] 38 (0, 0)) (by (with_reducible repeat (first | refine blk_drewN ?_ _ | refine blk_drew ?_ | refine blk_alloc ?_ _)); exact BK301.out) hb); have n3_ := Aside0.mk (below_step (by repeat (first | (with_reducible first | exact HB.out | apply below_alloc | apply pw_below_drewN | apply below_drew1 | refine below_set ?_ GE299.out | refine below_set ?_ GE301.out) | exact HB.out)) hb); have n4_ := Aside0.mk (hbox); have n5_ := Aside0.mk ((by rw [hg]; exact (below_size (by repeat (first | (with_reducible first | exact HB.out | apply below_alloc | apply pw_below_drewN | apply below_drew1 | refine below_set ?_ GE299.out | refine below_set ?_ GE301.out) | exact HB.out))) : w.heap.size ≤ gb303)); have n6_ := Aside0.mk ((by rw [hg]; exact (below_size (by repeat (first | (with_reducible first | exact HB.out | apply below_alloc | apply pw_below_drewN | apply below_drew1 | refine below_set ?_ GE299.out | refine below_set ?_ GE301.out) | exact HB.out))) : w.heap.size ≤ gb303)); have n7_ := Aside0.mk ((by rw [hg]; exact Nat.ne_of_lt (blk_lt (g := gb299) (o := .cells #[.bool true, .slice A0_1 l0_1.length c0_1, .slice (some ad300) l0_2.length c0_2] 25 (0, 0)) (by (with_reducible repeat (first | refine blk_drewN ?_ _ | refine blk_drew ?_ | refine blk_alloc ?_ _)); exact BK299.out)) : gb299 ≠ gb303)); have n8_ := Aside0.mk ((by rw [hg]; exact Nat.ne_of_gt (blk_lt (g := gb299) (o := .cells #[.bool true, .slice A0_1 l0_1.length c0_1, .slice (some ad300) l0_2.length c0_2] 25 (0, 0)) (by (with_reducible repeat (first | refine blk_drewN ?_ _ | refine blk_drew ?_ | refine blk_alloc ?_ _)); exact BK299.out)) : gb303 ≠ gb299)); have n9_ := Aside0.mk ((by rw [hg]; exact Nat.ne_of_lt (blk_lt (g := gb301) (o := .cells #[.int .i64 ((rd_T38 l0_2 x4_1).f0), .int .i64 ((rd_T38 l0_2 x4_1).f1), .int .i64 ((rd_T38 l0_2 x4_1).f2)] 38 (0, 0)) (by (with_reducible repeat (first | refine blk_drewN ?_ _ | refine blk_drew ?_ | refine blk_alloc ?_ _)); exact BK301.out)) : gb301 ≠ gb303)); have n10_ := Aside0.mk ((by rw [hg]; exact Nat.ne_of_gt (blk_lt (g := gb301) (o := .cells #[.int .i64 ((rd_T38 l0_2 x4_1).f0), .int .i64 ((rd_T38 l0_2 x4_1).f1), .int .i64 ((rd_T38 l0_2 x4_1).f2)] 38 (0, 0)) (by (with_reducible repeat (first | refine blk_drewN ?_ _ | refine blk_drew ?_ | refine blk_alloc ?_ _)); exact BK301.out)) : gb303 ≠ gb301)); clear HO_3; clear BK299; clear BK301; clear HB; have HO_3 := n0_; have BK299 := n1_; have BK301 := n2_; have HB := n3_; have BK303 := n4_; have GW303 := n5_; have GE303 := n6_; have NB299_303 := n7_; have NB303_299 := n8_; have NB301_303 := n9_; have NB303_301 := n10_; clear n0_ n1_ n2_ n3_ n4_ n5_ n6_ n7_ n8_ n9_ n10_; clear hb hbox hg; have hnb59 := NB303_299.out; have hnc59 := NB299_303.out; have hnb60 := NB303_301.out; have hnc60 := NB301_303.out; have hcz61_0 : w58.cell? ⟨gb303, 0, none⟩ = some (.int .i64 0) := (blk_cell BK303.out 0).trans rfl; have hcz61_1 : w58.cell? ⟨gb303, 1, none⟩ = some (.int .i64 0) := (blk_cell BK303.out 1).trans rfl; have hcz61_2 : w58.cell? ⟨gb303, 2, none⟩ = some (.int .i64 0) := (blk_cell BK303.out 2).trans rfl; have hfz61_0 := blk_frozen BK303.out 0; have hfz61_1 := blk_frozen BK303.out 1; have hfz61_2 := blk_frozen BK303.out 2; have hcz62_0 : w58.cell? ⟨gb301, 0, none⟩ = some (.int .i64 ((rd_T38 l0_2 x4_1).f0)) := (blk_cell BK301.out 0).trans rfl; have hcz62_1 : w58.cell? ⟨gb301, 1, none⟩ = some (.int .i64 ((rd_T38 l0_2 x4_1).f1)) := (blk_cell BK301.out 1).trans rfl; have hcz62_2 : w58.cell? ⟨gb301, 2, none⟩ = some (.int .i64 ((rd_T38 l0_2 x4_1).f2)) := (blk_cell BK301.out 2).trans rfl; have hfz62_0 := blk_frozen BK301.out 0; have hfz62_1 := blk_frozen BK301.out 1; have hfz62_2 := blk_frozen BK301.out 2; have hcz63_0 : w58.cell? ⟨gb299, 0, none⟩ = some (.bool true) := (blk_cell BK299.out 0).trans rfl; have hcz63_1 : w58.cell? ⟨gb299, 1, none⟩ = some (.slice A0_1 l0_1.length c0_1) := (blk_cell BK299.out 1).trans rfl; have hcz63_2 : w58.cell? ⟨gb299, 2, none⟩ = some (.slice (some ad300) l0_2.length c0_2) := (blk_cell BK299.out 2).trans rfl; have hfz63_0 := blk_frozen BK299.out 0; have hfz63_1 := blk_frozen BK299.out 1; have hfz63_2 := blk_frozen BK299.out 2))
                      go_roundg k2
                      case measure => have := HK1.out; have := HK2.out; omega
                      case rel => exact ⟨(x6_2), (wrap64 (x7_2 + 1)), (by first | rfl | (simp; done) | (simp [*]; done)), (by first | rfl | (simp; done) | (simp [*]; done)), H', ⟨by have := HK1.out; have := HK2.out; omega⟩, ⟨by (with_reducible repeat (first | apply Kd.R_alloc | apply Kd.R_drewN | apply Kd.R_drew)); exact Kd.R_mono (Kd.R_far (p := ⟨gb303, 2, none⟩) (Kd.R_far (p := ⟨gb303, 1, none⟩) (Kd.R_far (p := ⟨gb303, 0, none⟩) (Kd.R_types HO_3.out BK303.out (by decide)) (fun _ hk => hk.2) (.int .i64 ((rd_T38 l0_2 x7_2).f0))) (fun _ hk => hk.2) (.int .i64 ((rd_T38 l0_2 x7_2).f1))) (fun _ hk => hk.2) (.int .i64 ((rd_T38 l0_2 x7_2).f2))) (fun _ hk => trivial)⟩, ⟨by (with_reducible repeat (first | refine blk_drewN ?_ _ | refine blk_drew ?_ | refine blk_alloc ?_ _)); refine blk_far ?_ NB299_303.out _; (with_reducible repeat (first | refine blk_drewN ?_ _ | refine blk_drew ?_ | refine blk_alloc ?_ _)); refine blk_far ?_ NB299_303.out _; (with_reducible repeat (first | refine blk_drewN ?_ _ | refine blk_drew ?_ | refine blk_alloc ?_ _)); refine blk_far ?_ NB299_303.out _; (with_reducible repeat (first | refine blk_drewN ?_ _ | refine blk_drew ?_ | refine blk_alloc ?_ _)); exact BK299.out⟩, ⟨by (with_reducible repeat (first | refine blk_drewN ?_ _ | refine blk_drew ?_ | refine blk_alloc ?_ _)); refine blk_far ?_ NB301_303.out _; (with_reducible repeat (first | refine blk_drewN ?_ _ | refine blk_drew ?_ | refine blk_alloc ?_ _)); refine blk_far ?_ NB301_303.out _; (with_reducible repeat (first | refine blk_drewN ?_ _ | refine blk_drew ?_ | refine blk_alloc ?_ _)); refine blk_far ?_ NB301_303.out _; (with_reducible repeat (first | refine blk_drewN ?_ _ | refine blk_drew ?_ | refine blk_alloc ?_ _)); exact BK301.out⟩, ⟨by repeat (first | (with_reducible first | exact HB.out | apply below_alloc | apply pw_below_drewN | apply below_drew1 | refine below_set ?_ GE299.out | refine below_set ?_ GE301.out | refine below_set ?_ GE303.out) | exact HB.out)⟩⟩
                    · replace c55 := Bool.eq_false_iff.mpr c55
                      subst c55
                      have H1 : (if ((rd_T38 l0_2 x7_2).f0) = ((rd_T38 l0_2 x4_1).f1) then (if ((rd_T38 l0_2 x7_2).f1) = ((rd_T38 l0_2 x4_1).f0) then (laws_hops.l1 k2 x3_1 x4_1 false (wrap64 (x7_2 + 1)) false l0_1 l0_2 ((rd_T38 l0_2 x4_1).f0) ((rd_T38 l0_2 x4_1).f1) ((rd_T38 l0_2 x4_1).f2)) else (laws_hops.l1 k2 x3_1 x4_1 x6_2 (wrap64 (x7_2 + 1)) false l0_1 l0_2 ((rd_T38 l0_2 x4_1).f0) ((rd_T38 l0_2 x4_1).f1) ((rd_T38 l0_2 x4_1).f2))) else (laws_hops.l1 k2 x3_1 x4_1 x6_2 (wrap64 (x7_2 + 1)) false l0_1 l0_2 ((rd_T38 l0_2 x4_1).f0) ((rd_T38 l0_2 x4_1).f1) ((rd_T38 l0_2 x4_1).f2))) = some r := by rw [if_neg (show ¬ (false = true) by decide)] at H; exact H
                      clear H
                      have H := H1
                      clear H1
                      by_cases c64 : ((rd_T38 l0_2 x7_2).f0) = ((rd_T38 l0_2 x4_1).f1)
                      · rw [if_pos c64] at H
                        have c64b0 : (((rd_T38 l0_2 x7_2).f0) == ((rd_T38 l0_2 x4_1).f1)) = true := beq_iff_eq.mpr c64
                        have c64b1 : (((rd_T38 l0_2 x7_2).f0) != ((rd_T38 l0_2 x4_1).f1)) = false := bne_eq_false_iff_eq.mpr c64
                        clear c64
                        by_cases c65 : ((rd_T38 l0_2 x7_2).f1) = ((rd_T38 l0_2 x4_1).f0)
                        · rw [if_pos c65] at H
                          have c65b0 : (((rd_T38 l0_2 x7_2).f1) == ((rd_T38 l0_2 x4_1).f0)) = true := beq_iff_eq.mpr c65
                          have c65b1 : (((rd_T38 l0_2 x7_2).f1) != ((rd_T38 l0_2 x4_1).f0)) = false := bne_eq_false_iff_eq.mpr c65
                          clear c65
                          have H' := Aside0.mk H
                          clear H
                          have hnb66 := NB299_301.out
                          have hnc66 := NB301_299.out
                          have hcz67_0 : wr.cell? ⟨gb299, 0, none⟩ = some (.bool false) := (blk_cell BK299.out 0).trans rfl
                          have hcz67_1 : wr.cell? ⟨gb299, 1, none⟩ = some (.slice A0_1 l0_1.length c0_1) := (blk_cell BK299.out 1).trans rfl
                          have hcz67_2 : wr.cell? ⟨gb299, 2, none⟩ = some (.slice (some ad300) l0_2.length c0_2) := (blk_cell BK299.out 2).trans rfl
                          have hfz67_0 := blk_frozen BK299.out 0
                          have hfz67_1 := blk_frozen BK299.out 1
                          have hfz67_2 := blk_frozen BK299.out 2
                          have p302 : 0 ≤ (x7_2 : Int) := of_decide_eq_true (by first | (with_reducible assumption) | assumption)
                          have q302 : x7_2 < (l0_2.length : Int) := of_decide_eq_true (by first | (with_reducible assumption) | assumption)
                          obtain ⟨ad302, e302, hx302_0, hx302_1, hx302_2⟩ := at_T38 HR0_2.out x7_2 p302 q302
                          obtain rfl : ad300 = ad302 := (by injection e302)
                          replace hx302_0 := (HB.out.cell (World.block_lt_of_cell? w _ hx302_0)).trans hx302_0
                          replace hx302_1 := (HB.out.cell (World.block_lt_of_cell? w _ hx302_1)).trans hx302_1
                          replace hx302_2 := (HB.out.cell (World.block_lt_of_cell? w _ hx302_2)).trans hx302_2
                          replace p302 := eq_true p302
                          replace q302 := eq_true q302
                          go_wp2_with (first | ((with_reducible refine gate_dst (N := 8) rfl ?_); refine box_event ?hg (N := 8) ?hd (cs := #[.int .i64 0, .int .i64 0, .int .i64 0]) (t := 38) ?hr ?_; (case hd => rfl); (case hg => rfl); (case hr => first | (go_simp; done) | (go_simp; rfl)); intro gb303 hg w68 hbox hb; have n0_ := Aside0.mk (Kd.R_below (by (with_reducible repeat (first | apply Kd.R_alloc | apply Kd.R_drewN | apply Kd.R_drew)); exact HO_3.out) hb); have n1_ := Aside0.mk (blk_below (g := gb299) (o := .cells #[.bool false, .slice A0_1 l0_1.length c0_1, .slice (some ad300) l0_2.length c0_2] 25 (0, 0)) (by (with_reducible repeat (first | refine blk_drewN ?_ _ | refine blk_drew ?_ | refine blk_alloc ?_ _)); exact BK299.out) hb); have n2_ := Aside0.mk (blk_below (g := gb301) (o := .cells #[.int .i64 ((rd_T38 l0_2 x4_1).f0), .int .i64 ((rd_T38 l0_2 x4_1).f1), .int .i64 ((rd_T38 l0_2 x4_1).f2)] 38 (0, 0)) (by (with_reducible repeat (first | refine blk_drewN ?_ _ | refine blk_drew ?_ | refine blk_alloc ?_ _)); exact BK301.out) hb); have n3_ := Aside0.mk (below_step (by repeat (first | (with_reducible first | exact HB.out | apply below_alloc | apply pw_below_drewN | apply below_drew1 | refine below_set ?_ GE299.out | refine below_set ?_ GE301.out) | exact HB.out)) hb); have n4_ := Aside0.mk (hbox); have n5_ := Aside0.mk ((by rw [hg]; exact (below_size (by repeat (first | (with_reducible first | exact HB.out | apply below_alloc | apply pw_below_drewN | apply below_drew1 | refine below_set ?_ GE299.out | refine below_set ?_ GE301.out) | exact HB.out))) : w.heap.size ≤ gb303)); have n6_ := Aside0.mk ((by rw [hg]; exact (below_size (by repeat (first | (with_reducible first | exact HB.out | apply below_alloc | apply pw_below_drewN | apply below_drew1 | refine below_set ?_ GE299.out | refine below_set ?_ GE301.out) | exact HB.out))) : w.heap.size ≤ gb303)); have n7_ := Aside0.mk ((by rw [hg]; exact Nat.ne_of_lt (blk_lt (g := gb299) (o := .cells #[.bool false, .slice A0_1 l0_1.length c0_1, .slice (some ad300) l0_2.length c0_2] 25 (0, 0)) (by (with_reducible repeat (first | refine blk_drewN ?_ _ | refine blk_drew ?_ | refine blk_alloc ?_ _)); exact BK299.out)) : gb299 ≠ gb303)); have n8_ := Aside0.mk ((by rw [hg]; exact Nat.ne_of_gt (blk_lt (g := gb299) (o := .cells #[.bool false, .slice A0_1 l0_1.length c0_1, .slice (some ad300) l0_2.length c0_2] 25 (0, 0)) (by (with_reducible repeat (first | refine blk_drewN ?_ _ | refine blk_drew ?_ | refine blk_alloc ?_ _)); exact BK299.out)) : gb303 ≠ gb299)); have n9_ := Aside0.mk ((by rw [hg]; exact Nat.ne_of_lt (blk_lt (g := gb301) (o := .cells #[.int .i64 ((rd_T38 l0_2 x4_1).f0), .int .i64 ((rd_T38 l0_2 x4_1).f1), .int .i64 ((rd_T38 l0_2 x4_1).f2)] 38 (0, 0)) (by (with_reducible repeat (first | refine blk_drewN ?_ _ | refine blk_drew ?_ | refine blk_alloc ?_ _)); exact BK301.out)) : gb301 ≠ gb303)); have n10_ := Aside0.mk ((by rw [hg]; exact Nat.ne_of_gt (blk_lt (g := gb301) (o := .cells #[.int .i64 ((rd_T38 l0_2 x4_1).f0), .int .i64 ((rd_T38 l0_2 x4_1).f1), .int .i64 ((rd_T38 l0_2 x4_1).f2)] 38 (0, 0)) (by (with_reducible repeat (first | refine blk_drewN ?_ _ | refine blk_drew ?_ | refine blk_alloc ?_ _)); exact BK301.out)) : gb303 ≠ gb301)); clear HO_3; clear BK299; clear BK301; clear HB; have HO_3 := n0_; have BK299 := n1_; have BK301 := n2_; have HB := n3_; have BK303 := n4_; have GW303 := n5_; have GE303 := n6_; have NB299_303 := n7_; have NB303_299 := n8_; have NB301_303 := n9_; have NB303_301 := n10_; clear n0_ n1_ n2_ n3_ n4_ n5_ n6_ n7_ n8_ n9_ n10_; clear hb hbox hg; have hnb69 := NB303_299.out; have hnc69 := NB299_303.out; have hnb70 := NB303_301.out; have hnc70 := NB301_303.out; have hcz71_0 : w68.cell? ⟨gb303, 0, none⟩ = some (.int .i64 0) := (blk_cell BK303.out 0).trans rfl; have hcz71_1 : w68.cell? ⟨gb303, 1, none⟩ = some (.int .i64 0) := (blk_cell BK303.out 1).trans rfl; have hcz71_2 : w68.cell? ⟨gb303, 2, none⟩ = some (.int .i64 0) := (blk_cell BK303.out 2).trans rfl; have hfz71_0 := blk_frozen BK303.out 0; have hfz71_1 := blk_frozen BK303.out 1; have hfz71_2 := blk_frozen BK303.out 2; have hcz72_0 : w68.cell? ⟨gb301, 0, none⟩ = some (.int .i64 ((rd_T38 l0_2 x4_1).f0)) := (blk_cell BK301.out 0).trans rfl; have hcz72_1 : w68.cell? ⟨gb301, 1, none⟩ = some (.int .i64 ((rd_T38 l0_2 x4_1).f1)) := (blk_cell BK301.out 1).trans rfl; have hcz72_2 : w68.cell? ⟨gb301, 2, none⟩ = some (.int .i64 ((rd_T38 l0_2 x4_1).f2)) := (blk_cell BK301.out 2).trans rfl; have hfz72_0 := blk_frozen BK301.out 0; have hfz72_1 := blk_frozen BK301.out 1; have hfz72_2 := blk_frozen BK301.out 2; have hcz73_0 : w68.cell? ⟨gb299, 0, none⟩ = some (.bool false) := (blk_cell BK299.out 0).trans rfl; have hcz73_1 : w68.cell? ⟨gb299, 1, none⟩ = some (.slice A0_1 l0_1.length c0_1) := (blk_cell BK299.out 1).trans rfl; have hcz73_2 : w68.cell? ⟨gb299, 2, none⟩ = some (.slice (some ad300) l0_2.length c0_2) := (blk_cell BK299.out 2).trans rfl; have hfz73_0 := blk_frozen BK299.out 0; have hfz73_1 := blk_frozen BK299.out 1; have hfz73_2 := blk_frozen BK299.out 2))
                          go_roundg k2
                          case measure => have := HK1.out; have := HK2.out; omega
                          case rel => exact ⟨(false), (wrap64 (x7_2 + 1)), (by first | rfl | (simp; done) | (simp [*]; done)), (by first | rfl | (simp; done) | (simp [*]; done)), H', ⟨by have := HK1.out; have := HK2.out; omega⟩, ⟨by (with_reducible repeat (first | apply Kd.R_alloc | apply Kd.R_drewN | apply Kd.R_drew)); exact Kd.R_mono (Kd.R_far (p := ⟨gb303, 2, none⟩) (Kd.R_far (p := ⟨gb303, 1, none⟩) (Kd.R_far (p := ⟨gb303, 0, none⟩) (Kd.R_types HO_3.out BK303.out (by decide)) (fun _ hk => hk.2) (.int .i64 ((rd_T38 l0_2 x7_2).f0))) (fun _ hk => hk.2) (.int .i64 ((rd_T38 l0_2 x7_2).f1))) (fun _ hk => hk.2) (.int .i64 ((rd_T38 l0_2 x7_2).f2))) (fun _ hk => trivial)⟩, ⟨by (with_reducible repeat (first | refine blk_drewN ?_ _ | refine blk_drew ?_ | refine blk_alloc ?_ _)); refine blk_far ?_ NB299_303.out _; (with_reducible repeat (first | refine blk_drewN ?_ _ | refine blk_drew ?_ | refine blk_alloc ?_ _)); refine blk_far ?_ NB299_303.out _; (with_reducible repeat (first | refine blk_drewN ?_ _ | refine blk_drew ?_ | refine blk_alloc ?_ _)); refine blk_far ?_ NB299_303.out _; (with_reducible repeat (first | refine blk_drewN ?_ _ | refine blk_drew ?_ | refine blk_alloc ?_ _)); exact BK299.out⟩, ⟨by (with_reducible repeat (first | refine blk_drewN ?_ _ | refine blk_drew ?_ | refine blk_alloc ?_ _)); refine blk_far ?_ NB301_303.out _; (with_reducible repeat (first | refine blk_drewN ?_ _ | refine blk_drew ?_ | refine blk_alloc ?_ _)); refine blk_far ?_ NB301_303.out _; (with_reducible repeat (first | refine blk_drewN ?_ _ | refine blk_drew ?_ | refine blk_alloc ?_ _)); refine blk_far ?_ NB301_303.out _; (with_reducible repeat (first | refine blk_drewN ?_ _ | refine blk_drew ?_ | refine blk_alloc ?_ _)); exact BK301.out⟩, ⟨by repeat (first | (with_reducible first | exact HB.out | apply below_alloc | apply pw_below_drewN | apply below_drew1 | refine below_set ?_ GE299.out | refine below_set ?_ GE301.out | refine below_set ?_ GE303.out) | exact HB.out)⟩⟩
                        · rw [if_neg c65] at H
                          have c65b0 : (((rd_T38 l0_2 x7_2).f1) == ((rd_T38 l0_2 x4_1).f0)) = false := beq_eq_false_iff_ne.mpr c65
                          have c65b1 : (((rd_T38 l0_2 x7_2).f1) != ((rd_T38 l0_2 x4_1).f0)) = true := bne_iff_ne.mpr c65
                          have H' := Aside0.mk H
                          clear H
                          have hnb74 := NB299_301.out
                          have hnc74 := NB301_299.out
                          have hcz75_0 : wr.cell? ⟨gb299, 0, none⟩ = some (.bool false) := (blk_cell BK299.out 0).trans rfl
                          have hcz75_1 : wr.cell? ⟨gb299, 1, none⟩ = some (.slice A0_1 l0_1.length c0_1) := (blk_cell BK299.out 1).trans rfl
                          have hcz75_2 : wr.cell? ⟨gb299, 2, none⟩ = some (.slice (some ad300) l0_2.length c0_2) := (blk_cell BK299.out 2).trans rfl
                          have hfz75_0 := blk_frozen BK299.out 0
                          have hfz75_1 := blk_frozen BK299.out 1
                          have hfz75_2 := blk_frozen BK299.out 2
                          have p302 : 0 ≤ (x7_2 : Int) := of_decide_eq_true (by first | (with_reducible assumption) | assumption)
                          have q302 : x7_2 < (l0_2.length : Int) := of_decide_eq_true (by first | (with_reducible assumption) | assumption)
                          obtain ⟨ad302, e302, hx302_0, hx302_1, hx302_2⟩ := at_T38 HR0_2.out x7_2 p302 q302
                          obtain rfl : ad300 = ad302 := (by injection e302)
                          replace hx302_0 := (HB.out.cell (World.block_lt_of_cell? w _ hx302_0)).trans hx302_0
                          replace hx302_1 := (HB.out.cell (World.block_lt_of_cell? w _ hx302_1)).trans hx302_1
                          replace hx302_2 := (HB.out.cell (World.block_lt_of_cell? w _ hx302_2)).trans hx302_2
                          replace p302 := eq_true p302
                          replace q302 := eq_true q302
                          go_wp2_with (first | ((with_reducible refine gate_dst (N := 8) rfl ?_); refine box_event ?hg (N := 8) ?hd (cs := #[.int .i64 0, .int .i64 0, .int .i64 0]) (t := 38) ?hr ?_; (case hd => rfl); (case hg => rfl); (case hr => first | (go_simp; done) | (go_simp; rfl)); intro gb303 hg w76 hbox hb; have n0_ := Aside0.mk (Kd.R_below (by (with_reducible repeat (first | apply Kd.R_alloc | apply Kd.R_drewN | apply Kd.R_drew)); exact HO_3.out) hb); have n1_ := Aside0.mk (blk_below (g := gb299) (o := .cells #[.bool false, .slice A0_1 l0_1.length c0_1, .slice (some ad300) l0_2.length c0_2] 25 (0, 0)) (by (with_reducible repeat (first | refine blk_drewN ?_ _ | refine blk_drew ?_ | refine blk_alloc ?_ _)); exact BK299.out) hb); have n2_ := Aside0.mk (blk_below (g := gb301) (o := .cells #[.int .i64 ((rd_T38 l0_2 x4_1).f0), .int .i64 ((rd_T38 l0_2 x4_1).f1), .int .i64 ((rd_T38 l0_2 x4_1).f2)] 38 (0, 0)) (by (with_reducible repeat (first | refine blk_drewN ?_ _ | refine blk_drew ?_ | refine blk_alloc ?_ _)); exact BK301.out) hb); have n3_ := Aside0.mk (below_step (by repeat (first | (with_reducible first | exact HB.out | apply below_alloc | apply pw_below_drewN | apply below_drew1 | refine below_set ?_ GE299.out | refine below_set ?_ GE301.out) | exact HB.out)) hb); have n4_ := Aside0.mk (hbox); have n5_ := Aside0.mk ((by rw [hg]; exact (below_size (by repeat (first | (with_reducible first | exact HB.out | apply below_alloc | apply pw_below_drewN | apply below_drew1 | refine below_set ?_ GE299.out | refine below_set ?_ GE301.out) | exact HB.out))) : w.heap.size ≤ gb303)); have n6_ := Aside0.mk ((by rw [hg]; exact (below_size (by repeat (first | (with_reducible first | exact HB.out | apply below_alloc | apply pw_below_drewN | apply below_drew1 | refine below_set ?_ GE299.out | refine below_set ?_ GE301.out) | exact HB.out))) : w.heap.size ≤ gb303)); have n7_ := Aside0.mk ((by rw [hg]; exact Nat.ne_of_lt (blk_lt (g := gb299) (o := .cells #[.bool false, .slice A0_1 l0_1.length c0_1, .slice (some ad300) l0_2.length c0_2] 25 (0, 0)) (by (with_reducible repeat (first | refine blk_drewN ?_ _ | refine blk_drew ?_ | refine blk_alloc ?_ _)); exact BK299.out)) : gb299 ≠ gb303)); have n8_ := Aside0.mk ((by rw [hg]; exact Nat.ne_of_gt (blk_lt (g := gb299) (o := .cells #[.bool false, .slice A0_1 l0_1.length c0_1, .slice (some ad300) l0_2.length c0_2] 25 (0, 0)) (by (with_reducible repeat (first | refine blk_drewN ?_ _ | refine blk_drew ?_ | refine blk_alloc ?_ _)); exact BK299.out)) : gb303 ≠ gb299)); have n9_ := Aside0.mk ((by rw [hg]; exact Nat.ne_of_lt (blk_lt (g := gb301) (o := .cells #[.int .i64 ((rd_T38 l0_2 x4_1).f0), .int .i64 ((rd_T38 l0_2 x4_1).f1), .int .i64 ((rd_T38 l0_2 x4_1).f2)] 38 (0, 0)) (by (with_reducible repeat (first | refine blk_drewN ?_ _ | refine blk_drew ?_ | refine blk_alloc ?_ _)); exact BK301.out)) : gb301 ≠ gb303)); have n10_ := Aside0.mk ((by rw [hg]; exact Nat.ne_of_gt (blk_lt (g := gb301) (o := .cells #[.int .i64 ((rd_T38 l0_2 x4_1).f0), .int .i64 ((rd_T38 l0_2 x4_1).f1), .int .i64 ((rd_T38 l0_2 x4_1).f2)] 38 (0, 0)) (by (with_reducible repeat (first | refine blk_drewN ?_ _ | refine blk_drew ?_ | refine blk_alloc ?_ _)); exact BK301.out)) : gb303 ≠ gb301)); clear HO_3; clear BK299; clear BK301; clear HB; have HO_3 := n0_; have BK299 := n1_; have BK301 := n2_; have HB := n3_; have BK303 := n4_; have GW303 := n5_; have GE303 := n6_; have NB299_303 := n7_; have NB303_299 := n8_; have NB301_303 := n9_; have NB303_301 := n10_; clear n0_ n1_ n2_ n3_ n4_ n5_ n6_ n7_ n8_ n9_ n10_; clear hb hbox hg; have hnb77 := NB303_299.out; have hnc77 := NB299_303.out; have hnb78 := NB303_301.out; have hnc78 := NB301_303.out; have hcz79_0 : w76.cell? ⟨gb303, 0, none⟩ = some (.int .i64 0) := (blk_cell BK303.out 0).trans rfl; have hcz79_1 : w76.cell? ⟨gb303, 1, none⟩ = some (.int .i64 0) := (blk_cell BK303.out 1).trans rfl; have hcz79_2 : w76.cell? ⟨gb303, 2, none⟩ = some (.int .i64 0) := (blk_cell BK303.out 2).trans rfl; have hfz79_0 := blk_frozen BK303.out 0; have hfz79_1 := blk_frozen BK303.out 1; have hfz79_2 := blk_frozen BK303.out 2; have hcz80_0 : w76.cell? ⟨gb301, 0, none⟩ = some (.int .i64 ((rd_T38 l0_2 x4_1).f0)) := (blk_cell BK301.out 0).trans rfl; have hcz80_1 : w76.cell? ⟨gb301, 1, none⟩ = some (.int .i64 ((rd_T38 l0_2 x4_1).f1)) := (blk_cell BK301.out 1).trans rfl; have hcz80_2 : w76.cell? ⟨gb301, 2, none⟩ = some (.int .i64 ((rd_T38 l0_2 x4_1).f2)) := (blk_cell BK301.out 2).trans rfl; have hfz80_0 := blk_frozen BK301.out 0; have hfz80_1 := blk_frozen BK301.out 1; have hfz80_2 := blk_frozen BK301.out 2; have hcz81_0 : w76.cell? ⟨gb299, 0, none⟩ = some (.bool false) := (blk_cell BK299.out 0).trans rfl; have hcz81_1 : w76.cell? ⟨gb299, 1, none⟩ = some (.slice A0_1 l0_1.length c0_1) := (blk_cell BK299.out 1).trans rfl; have hcz81_2 : w76.cell? ⟨gb299, 2, none⟩ = some (.slice (some ad300) l0_2.length c0_2) := (blk_cell BK299.out 2).trans rfl; have hfz81_0 := blk_frozen BK299.out 0; have hfz81_1 := blk_frozen BK299.out 1; have hfz81_2 := blk_frozen BK299.out 2))
                          go_roundg k2
                          case measure => have := HK1.out; have := HK2.out; omega
                          case rel => exact ⟨(x6_2), (wrap64 (x7_2 + 1)), (by first | rfl | (simp; done) | (simp [*]; done)), (by first | rfl | (simp; done) | (simp [*]; done)), H', ⟨by have := HK1.out; have := HK2.out; omega⟩, ⟨by (with_reducible repeat (first | apply Kd.R_alloc | apply Kd.R_drewN | apply Kd.R_drew)); exact Kd.R_mono (Kd.R_far (p := ⟨gb303, 2, none⟩) (Kd.R_far (p := ⟨gb303, 1, none⟩) (Kd.R_far (p := ⟨gb303, 0, none⟩) (Kd.R_types HO_3.out BK303.out (by decide)) (fun _ hk => hk.2) (.int .i64 ((rd_T38 l0_2 x7_2).f0))) (fun _ hk => hk.2) (.int .i64 ((rd_T38 l0_2 x7_2).f1))) (fun _ hk => hk.2) (.int .i64 ((rd_T38 l0_2 x7_2).f2))) (fun _ hk => trivial)⟩, ⟨by (with_reducible repeat (first | refine blk_drewN ?_ _ | refine blk_drew ?_ | refine blk_alloc ?_ _)); refine blk_far ?_ NB299_303.out _; (with_reducible repeat (first | refine blk_drewN ?_ _ | refine blk_drew ?_ | refine blk_alloc ?_ _)); refine blk_far ?_ NB299_303.out _; (with_reducible repeat (first | refine blk_drewN ?_ _ | refine blk_drew ?_ | refine blk_alloc ?_ _)); refine blk_far ?_ NB299_303.out _; (with_reducible repeat (first | refine blk_drewN ?_ _ | refine blk_drew ?_ | refine blk_alloc ?_ _)); exact BK299.out⟩, ⟨by (with_reducible repeat (first | refine blk_drewN ?_ _ | refine blk_drew ?_ | refine blk_alloc ?_ _)); refine blk_far ?_ NB301_303.out _; (with_reducible repeat (first | refine blk_drewN ?_ _ | refine blk_drew ?_ | refine blk_alloc ?_ _)); refine blk_far ?_ NB301_303.out _; (with_reducible repeat (first | refine blk_drewN ?_ _ | refine blk_drew ?_ | refine blk_alloc ?_ _)); refine blk_far ?_ NB301_303.out _; (with_reducible repeat (first | refine blk_drewN ?_ _ | refine blk_drew ?_ | refine blk_alloc ?_ _)); exact BK301.out⟩, ⟨by repeat (first | (with_reducible first | exact HB.out | apply below_alloc | apply pw_below_drewN | apply below_drew1 | refine below_set ?_ GE299.out | refine below_set ?_ GE301.out | refine below_set ?_ GE303.out) | exact HB.out)⟩⟩
                      · rw [if_neg c64] at H
                        have c64b0 : (((rd_T38 l0_2 x7_2).f0) == ((rd_T38 l0_2 x4_1).f1)) = false := beq_eq_false_iff_ne.mpr c64
                        have c64b1 : (((rd_T38 l0_2 x7_2).f0) != ((rd_T38 l0_2 x4_1).f1)) = true := bne_iff_ne.mpr c64
                        have H' := Aside0.mk H
                        clear H
                        have hnb82 := NB299_301.out
                        have hnc82 := NB301_299.out
                        have hcz83_0 : wr.cell? ⟨gb299, 0, none⟩ = some (.bool false) := (blk_cell BK299.out 0).trans rfl
                        have hcz83_1 : wr.cell? ⟨gb299, 1, none⟩ = some (.slice A0_1 l0_1.length c0_1) := (blk_cell BK299.out 1).trans rfl
                        have hcz83_2 : wr.cell? ⟨gb299, 2, none⟩ = some (.slice (some ad300) l0_2.length c0_2) := (blk_cell BK299.out 2).trans rfl
                        have hfz83_0 := blk_frozen BK299.out 0
                        have hfz83_1 := blk_frozen BK299.out 1
                        have hfz83_2 := blk_frozen BK299.out 2
                        have p302 : 0 ≤ (x7_2 : Int) := of_decide_eq_true (by first | (with_reducible assumption) | assumption)
                        have q302 : x7_2 < (l0_2.length : Int) := of_decide_eq_true (by first | (with_reducible assumption) | assumption)
                        obtain ⟨ad302, e302, hx302_0, hx302_1, hx302_2⟩ := at_T38 HR0_2.out x7_2 p302 q302
                        obtain rfl : ad300 = ad302 := (by injection e302)
                        replace hx302_0 := (HB.out.cell (World.block_lt_of_cell? w _ hx302_0)).trans hx302_0
                        replace hx302_1 := (HB.out.cell (World.block_lt_of_cell? w _ hx302_1)).trans hx302_1
                        replace hx302_2 := (HB.out.cell (World.block_lt_of_cell? w _ hx302_2)).trans hx302_2
                        replace p302 := eq_true p302
                        replace q302 := eq_true q302
                        go_wp2_with (first | ((with_reducible refine gate_dst (N := 8) rfl ?_); refine box_event ?hg (N := 8) ?hd (cs := #[.int .i64 0, .int .i64 0, .int .i64 0]) (t := 38) ?hr ?_; (case hd => rfl); (case hg => rfl); (case hr => first | (go_simp; done) | (go_simp; rfl)); intro gb303 hg w84 hbox hb; have n0_ := Aside0.mk (Kd.R_below (by (with_reducible repeat (first | apply Kd.R_alloc | apply Kd.R_drewN | apply Kd.R_drew)); exact HO_3.out) hb); have n1_ := Aside0.mk (blk_below (g := gb299) (o := .cells #[.bool false, .slice A0_1 l0_1.length c0_1, .slice (some ad300) l0_2.length c0_2] 25 (0, 0)) (by (with_reducible repeat (first | refine blk_drewN ?_ _ | refine blk_drew ?_ | refine blk_alloc ?_ _)); exact BK299.out) hb); have n2_ := Aside0.mk (blk_below (g := gb301) (o := .cells #[.int .i64 ((rd_T38 l0_2 x4_1).f0), .int .i64 ((rd_T38 l0_2 x4_1).f1), .int .i64 ((rd_T38 l0_2 x4_1).f2)] 38 (0, 0)) (by (with_reducible repeat (first | refine blk_drewN ?_ _ | refine blk_drew ?_ | refine blk_alloc ?_ _)); exact BK301.out) hb); have n3_ := Aside0.mk (below_step (by repeat (first | (with_reducible first | exact HB.out | apply below_alloc | apply pw_below_drewN | apply below_drew1 | refine below_set ?_ GE299.out | refine below_set ?_ GE301.out) | exact HB.out)) hb); have n4_ := Aside0.mk (hbox); have n5_ := Aside0.mk ((by rw [hg]; exact (below_size (by repeat (first | (with_reducible first | exact HB.out | apply below_alloc | apply pw_below_drewN | apply below_drew1 | refine below_set ?_ GE299.out | refine below_set ?_ GE301.out) | exact HB.out))) : w.heap.size ≤ gb303)); have n6_ := Aside0.mk ((by rw [hg]; exact (below_size (by repeat (first | (with_reducible first | exact HB.out | apply below_alloc | apply pw_below_drewN | apply below_drew1 | refine below_set ?_ GE299.out | refine below_set ?_ GE301.out) | exact HB.out))) : w.heap.size ≤ gb303)); have n7_ := Aside0.mk ((by rw [hg]; exact Nat.ne_of_lt (blk_lt (g := gb299) (o := .cells #[.bool false, .slice A0_1 l0_1.length c0_1, .slice (some ad300) l0_2.length c0_2] 25 (0, 0)) (by (with_reducible repeat (first | refine blk_drewN ?_ _ | refine blk_drew ?_ | refine blk_alloc ?_ _)); exact BK299.out)) : gb299 ≠ gb303)); have n8_ := Aside0.mk ((by rw [hg]; exact Nat.ne_of_gt (blk_lt (g := gb299) (o := .cells #[.bool false, .slice A0_1 l0_1.length c0_1, .slice (some ad300) l0_2.length c0_2] 25 (0, 0)) (by (with_reducible repeat (first | refine blk_drewN ?_ _ | refine blk_drew ?_ | refine blk_alloc ?_ _)); exact BK299.out)) : gb303 ≠ gb299)); have n9_ := Aside0.mk ((by rw [hg]; exact Nat.ne_of_lt (blk_lt (g := gb301) (o := .cells #[.int .i64 ((rd_T38 l0_2 x4_1).f0), .int .i64 ((rd_T38 l0_2 x4_1).f1), .int .i64 ((rd_T38 l0_2 x4_1).f2)] 38 (0, 0)) (by (with_reducible repeat (first | refine blk_drewN ?_ _ | refine blk_drew ?_ | refine blk_alloc ?_ _)); exact BK301.out)) : gb301 ≠ gb303)); have n10_ := Aside0.mk ((by rw [hg]; exact Nat.ne_of_gt (blk_lt (g := gb301) (o := .cells #[.int .i64 ((rd_T38 l0_2 x4_1).f0), .int .i64 ((rd_T38 l0_2 x4_1).f1), .int .i64 ((rd_T38 l0_2 x4_1).f2)] 38 (0, 0)) (by (with_reducible repeat (first | refine blk_drewN ?_ _ | refine blk_drew ?_ | refine blk_alloc ?_ _)); exact BK301.out)) : gb303 ≠ gb301)); clear HO_3; clear BK299; clear BK301; clear HB; have HO_3 := n0_; have BK299 := n1_; have BK301 := n2_; have HB := n3_; have BK303 := n4_; have GW303 := n5_; have GE303 := n6_; have NB299_303 := n7_; have NB303_299 := n8_; have NB301_303 := n9_; have NB303_301 := n10_; clear n0_ n1_ n2_ n3_ n4_ n5_ n6_ n7_ n8_ n9_ n10_; clear hb hbox hg; have hnb85 := NB303_299.out; have hnc85 := NB299_303.out; have hnb86 := NB303_301.out; have hnc86 := NB301_303.out; have hcz87_0 : w84.cell? ⟨gb303, 0, none⟩ = some (.int .i64 0) := (blk_cell BK303.out 0).trans rfl; have hcz87_1 : w84.cell? ⟨gb303, 1, none⟩ = some (.int .i64 0) := (blk_cell BK303.out 1).trans rfl; have hcz87_2 : w84.cell? ⟨gb303, 2, none⟩ = some (.int .i64 0) := (blk_cell BK303.out 2).trans rfl; have hfz87_0 := blk_frozen BK303.out 0; have hfz87_1 := blk_frozen BK303.out 1; have hfz87_2 := blk_frozen BK303.out 2; have hcz88_0 : w84.cell? ⟨gb301, 0, none⟩ = some (.int .i64 ((rd_T38 l0_2 x4_1).f0)) := (blk_cell BK301.out 0).trans rfl; have hcz88_1 : w84.cell? ⟨gb301, 1, none⟩ = some (.int .i64 ((rd_T38 l0_2 x4_1).f1)) := (blk_cell BK301.out 1).trans rfl; have hcz88_2 : w84.cell? ⟨gb301, 2, none⟩ = some (.int .i64 ((rd_T38 l0_2 x4_1).f2)) := (blk_cell BK301.out 2).trans rfl; have hfz88_0 := blk_frozen BK301.out 0; have hfz88_1 := blk_frozen BK301.out 1; have hfz88_2 := blk_frozen BK301.out 2; have hcz89_0 : w84.cell? ⟨gb299, 0, none⟩ = some (.bool false) := (blk_cell BK299.out 0).trans rfl; have hcz89_1 : w84.cell? ⟨gb299, 1, none⟩ = some (.slice A0_1 l0_1.length c0_1) := (blk_cell BK299.out 1).trans rfl; have hcz89_2 : w84.cell? ⟨gb299, 2, none⟩ = some (.slice (some ad300) l0_2.length c0_2) := (blk_cell BK299.out 2).trans rfl; have hfz89_0 := blk_frozen BK299.out 0; have hfz89_1 := blk_frozen BK299.out 1; have hfz89_2 := blk_frozen BK299.out 2))
                        go_roundg k2
                        case measure => have := HK1.out; have := HK2.out; omega
                        case rel => exact ⟨(x6_2), (wrap64 (x7_2 + 1)), (by first | rfl | (simp; done) | (simp [*]; done)), (by first | rfl | (simp; done) | (simp [*]; done)), H', ⟨by have := HK1.out; have := HK2.out; omega⟩, ⟨by (with_reducible repeat (first | apply Kd.R_alloc | apply Kd.R_drewN | apply Kd.R_drew)); exact Kd.R_mono (Kd.R_far (p := ⟨gb303, 2, none⟩) (Kd.R_far (p := ⟨gb303, 1, none⟩) (Kd.R_far (p := ⟨gb303, 0, none⟩) (Kd.R_types HO_3.out BK303.out (by decide)) (fun _ hk => hk.2) (.int .i64 ((rd_T38 l0_2 x7_2).f0))) (fun _ hk => hk.2) (.int .i64 ((rd_T38 l0_2 x7_2).f1))) (fun _ hk => hk.2) (.int .i64 ((rd_T38 l0_2 x7_2).f2))) (fun _ hk => trivial)⟩, ⟨by (with_reducible repeat (first | refine blk_drewN ?_ _ | refine blk_drew ?_ | refine blk_alloc ?_ _)); refine blk_far ?_ NB299_303.out _; (with_reducible repeat (first | refine blk_drewN ?_ _ | refine blk_drew ?_ | refine blk_alloc ?_ _)); refine blk_far ?_ NB299_303.out _; (with_reducible repeat (first | refine blk_drewN ?_ _ | refine blk_drew ?_ | refine blk_alloc ?_ _)); refine blk_far ?_ NB299_303.out _; (with_reducible repeat (first | refine blk_drewN ?_ _ | refine blk_drew ?_ | refine blk_alloc ?_ _)); exact BK299.out⟩, ⟨by (with_reducible repeat (first | refine blk_drewN ?_ _ | refine blk_drew ?_ | refine blk_alloc ?_ _)); refine blk_far ?_ NB301_303.out _; (with_reducible repeat (first | refine blk_drewN ?_ _ | refine blk_drew ?_ | refine blk_alloc ?_ _)); refine blk_far ?_ NB301_303.out _; (with_reducible repeat (first | refine blk_drewN ?_ _ | refine blk_drew ?_ | refine blk_alloc ?_ _)); refine blk_far ?_ NB301_303.out _; (with_reducible repeat (first | refine blk_drewN ?_ _ | refine blk_drew ?_ | refine blk_alloc ?_ _)); exact BK301.out⟩, ⟨by repeat (first | (with_reducible first | exact HB.out | apply below_alloc | apply pw_below_drewN | apply below_drew1 | refine below_set ?_ GE299.out | refine below_set ?_ GE301.out | refine below_set ?_ GE303.out) | exact HB.out)⟩⟩
                · rw [if_neg c10] at H
                  exact absurd H (by simp)
              · rw [if_neg c9] at H
                have c9b0 : decide (x7_2 < (l0_2.length : Int)) = false := decide_eq_false c9
                clear c9
                by_cases c90 : x6_2 = true
                · subst c90
                  have H1 : (if x3_1.length < 5864062014805 then ((some (x3_1 ++ [(⟨((rd_T38 l0_2 x4_1).f0), ((rd_T38 l0_2 x4_1).f1), ((rd_T38 l0_2 x4_1).f2)⟩ : S54)] : List (S54))).bind fun y304 => (if a0_0 = true then (laws_hops.l0 k2 y304 (wrap64 (x4_1 + 1)) a0_0 l0_1 l0_2) else (if y304.length < 5864062014805 then (laws_hops.l0 k2 (y304 ++ [(⟨((rd_T38 l0_2 x4_1).f1), ((rd_T38 l0_2 x4_1).f0), ((rd_T38 l0_2 x4_1).f2)⟩ : S54)]) (wrap64 (x4_1 + 1)) a0_0 l0_1 l0_2) else (none)))) else (none)) = some r := by rw [if_pos rfl] at H; exact H
                  clear H
                  have H := H1
                  clear H1
                  by_cases c91 : x3_1.length < 5864062014805
                  · rw [if_pos c91] at H
                    have LMc91 := Aside0.mk c91
                    clear c91
                    obtain ⟨y304, hy304⟩ : ∃ y_ : List (S54), y_ = (x3_1 ++ [(⟨((rd_T38 l0_2 x4_1).f0), ((rd_T38 l0_2 x4_1).f1), ((rd_T38 l0_2 x4_1).f2)⟩ : S54)]) := ⟨_, rfl⟩
                    replace H : (if a0_0 = true then (laws_hops.l0 k2 y304 (wrap64 (x4_1 + 1)) a0_0 l0_1 l0_2) else (if y304.length < 5864062014805 then (laws_hops.l0 k2 (y304 ++ [(⟨((rd_T38 l0_2 x4_1).f1), ((rd_T38 l0_2 x4_1).f0), ((rd_T38 l0_2 x4_1).f2)⟩ : S54)]) (wrap64 (x4_1 + 1)) a0_0 l0_1 l0_2) else (none))) = some r := by first | (rw [hy304]; with_reducible exact H) | (have H2_ := (Option.bind_some _ _).symm.trans H; rw [hy304]; with_reducible exact H2_) | (have H2_ := (Option.bind_some _ _).symm.trans H; with_reducible exact H2_) | with_reducible exact H | (rw [hy304]; exact H) | exact H
                    have Ny304 := Aside0.mk hy304
                    clear hy304
                    by_cases c92 : a0_0 = true
                    · subst c92
                      have H1 : (laws_hops.l0 k2 y304 (wrap64 (x4_1 + 1)) true l0_1 l0_2) = some r := by rw [if_pos rfl] at H; exact H
                      clear H
                      have H := H1
                      clear H1
                      have H' := Aside0.mk H
                      clear H
                      have hnb93 := NB299_301.out
                      have hnc93 := NB301_299.out
                      have hcz94_0 : wr.cell? ⟨gb299, 0, none⟩ = some (.bool true) := (blk_cell BK299.out 0).trans rfl
                      have hcz94_1 : wr.cell? ⟨gb299, 1, none⟩ = some (.slice A0_1 l0_1.length c0_1) := (blk_cell BK299.out 1).trans rfl
                      have hcz94_2 : wr.cell? ⟨gb299, 2, none⟩ = some (.slice (some ad300) l0_2.length c0_2) := (blk_cell BK299.out 2).trans rfl
                      have hfz94_0 := blk_frozen BK299.out 0
                      have hfz94_1 := blk_frozen BK299.out 1
                      have hfz94_2 := blk_frozen BK299.out 2
                      have hcz95_0 : wr.cell? ⟨gb301, 0, none⟩ = some (.int .i64 ((rd_T38 l0_2 x4_1).f0)) := (blk_cell BK301.out 0).trans rfl
                      have hcz95_1 : wr.cell? ⟨gb301, 1, none⟩ = some (.int .i64 ((rd_T38 l0_2 x4_1).f1)) := (blk_cell BK301.out 1).trans rfl
                      have hcz95_2 : wr.cell? ⟨gb301, 2, none⟩ = some (.int .i64 ((rd_T38 l0_2 x4_1).f2)) := (blk_cell BK301.out 2).trans rfl
                      have hfz95_0 := blk_frozen BK301.out 0
                      have hfz95_1 := blk_frozen BK301.out 1
                      have hfz95_2 := blk_frozen BK301.out 2
                      go_wp2_with (first | ((with_reducible refine gate_builtin (b := .append) (xs := #[.tmp 68, .tmp 76]) rfl ?_); at_builtin; refine Kd.R_append k54 (w0 := w) w.heap.size rfl (.tmp 68) (.tmp 76) 50 54 (.agg #[(.int .i64 0), (.int .i64 0), (.int .i64 0)]) 24 rfl Tryz.underlying50 info54 rfl (by decide) (by omega) u3 x3_1 (⟨((rd_T38 l0_2 x4_1).f0), ((rd_T38 l0_2 x4_1).f1), ((rd_T38 l0_2 x4_1).f2)⟩ : S54) [.int .i64 ((rd_T38 l0_2 x4_1).f0), .int .i64 ((rd_T38 l0_2 x4_1).f1), .int .i64 ((rd_T38 l0_2 x4_1).f2)] (fun _ => True) (fun _ => False) rfl rfl ?aP (fun _ hk => hk.elim) ?aF ?aO ?aB ?aS ?aL ?_; (case aP => exact k54_mkM _ _ _ (⟨((rd_T38 l0_2 x4_1).f0), ((rd_T38 l0_2 x4_1).f1), ((rd_T38 l0_2 x4_1).f2)⟩ : S54)); (case aB => exact (by repeat (first | (with_reducible first | exact HB.out | apply below_alloc | apply pw_below_drewN | apply below_drew1 | refine below_set ?_ GE299.out | refine below_set ?_ GE301.out) | exact HB.out))); (case aF => exact (fun _ _ => trivial)); (case aO => exact (by (with_reducible repeat (first | apply Kd.R_alloc | apply Kd.R_drewN | apply Kd.R_drew)); exact HO_3.out)); (case aS => exact (below_size (by repeat (first | (with_reducible first | exact HB.out | apply below_alloc | apply pw_below_drewN | apply below_drew1 | refine below_set ?_ GE299.out | refine below_set ?_ GE301.out) | exact HB.out)))); (case aL => have := LMc91.out; omega); intro v305 w96 ho hb hg hat; rw [← Ny304.out] at ho; have n0_ := Aside0.mk (blk_grown (g := gb299) (o := .cells #[.bool true, .slice A0_1 l0_1.length c0_1, .slice (some ad300) l0_2.length c0_2] 25 (0, 0)) (by (with_reducible repeat (first | refine blk_drewN ?_ _ | refine blk_drew ?_ | refine blk_alloc ?_ _)); exact BK299.out) hg (Kd.R_ne HO_3.out BK299.out (by decide))); have n1_ := Aside0.mk (blk_grown (g := gb301) (o := .cells #[.int .i64 ((rd_T38 l0_2 x4_1).f0), .int .i64 ((rd_T38 l0_2 x4_1).f1), .int .i64 ((rd_T38 l0_2 x4_1).f2)] 38 (0, 0)) (by (with_reducible repeat (first | refine blk_drewN ?_ _ | refine blk_drew ?_ | refine blk_alloc ?_ _)); exact BK301.out) hg (Kd.R_ne HO_3.out BK301.out (by decide))); have n2_ := Aside0.mk (hb); have n3_ := Aside0.mk (ho); clear BK299; clear BK301; clear HB; clear HO_3; have BK299 := n0_; have BK301 := n1_; have HB := n2_; have HO306 := n3_; clear n0_ n1_ n2_ n3_; clear ho hb hg hat; have hcz97_0 : w96.cell? ⟨gb299, 0, none⟩ = some (.bool true) := (blk_cell BK299.out 0).trans rfl; have hcz97_1 : w96.cell? ⟨gb299, 1, none⟩ = some (.slice A0_1 l0_1.length c0_1) := (blk_cell BK299.out 1).trans rfl; have hcz97_2 : w96.cell? ⟨gb299, 2, none⟩ = some (.slice (some ad300) l0_2.length c0_2) := (blk_cell BK299.out 2).trans rfl; have hfz97_0 := blk_frozen BK299.out 0; have hfz97_1 := blk_frozen BK299.out 1; have hfz97_2 := blk_frozen BK299.out 2))
                      go_roundg k2
                      case measure => have := HK1.out; have := HK2.out; omega
                      case rel => exact ⟨(y304), (wrap64 (x4_1 + 1)), (by first | rfl | (simp; done) | (simp [*]; done)), H', ⟨by have := HK1.out; have := HK2.out; omega⟩, ⟨by (with_reducible repeat (first | apply Kd.R_alloc | apply Kd.R_drewN | apply Kd.R_drew)); exact HO306.out⟩, ⟨by (with_reducible repeat (first | refine blk_drewN ?_ _ | refine blk_drew ?_ | refine blk_alloc ?_ _)); exact BK299.out⟩, ⟨by repeat (first | (with_reducible first | exact HB.out | apply below_alloc | apply pw_below_drewN | apply below_drew1 | refine below_set ?_ GE299.out | refine below_set ?_ GE301.out) | exact HB.out)⟩⟩
                    · replace c92 := Bool.eq_false_iff.mpr c92
                      subst c92
                      have H1 : (if y304.length < 5864062014805 then (laws_hops.l0 k2 (y304 ++ [(⟨((rd_T38 l0_2 x4_1).f1), ((rd_T38 l0_2 x4_1).f0), ((rd_T38 l0_2 x4_1).f2)⟩ : S54)]) (wrap64 (x4_1 + 1)) false l0_1 l0_2) else (none)) = some r := by rw [if_neg (show ¬ (false = true) by decide)] at H; exact H
                      clear H
                      have H := H1
                      clear H1
                      by_cases c98 : y304.length < 5864062014805
                      · rw [if_pos c98] at H
                        have LMc98 := Aside0.mk c98
                        clear c98
                        obtain ⟨y307, hy307⟩ : ∃ y_ : List (S54), y_ = (y304 ++ [(⟨((rd_T38 l0_2 x4_1).f1), ((rd_T38 l0_2 x4_1).f0), ((rd_T38 l0_2 x4_1).f2)⟩ : S54)]) := ⟨_, rfl⟩
                        replace H : (laws_hops.l0 k2 y307 (wrap64 (x4_1 + 1)) false l0_1 l0_2) = some r := by first | (rw [hy307]; with_reducible exact H) | (have H2_ := (Option.bind_some _ _).symm.trans H; rw [hy307]; with_reducible exact H2_) | (have H2_ := (Option.bind_some _ _).symm.trans H; with_reducible exact H2_) | with_reducible exact H | (rw [hy307]; exact H) | exact H
                        have Ny307 := Aside0.mk hy307
                        clear hy307
                        have H' := Aside0.mk H
                        clear H
                        have hnb99 := NB299_301.out
                        have hnc99 := NB301_299.out
                        have hcz100_0 : wr.cell? ⟨gb299, 0, none⟩ = some (.bool false) := (blk_cell BK299.out 0).trans rfl
                        have hcz100_1 : wr.cell? ⟨gb299, 1, none⟩ = some (.slice A0_1 l0_1.length c0_1) := (blk_cell BK299.out 1).trans rfl
                        have hcz100_2 : wr.cell? ⟨gb299, 2, none⟩ = some (.slice (some ad300) l0_2.length c0_2) := (blk_cell BK299.out 2).trans rfl
                        have hfz100_0 := blk_frozen BK299.out 0
                        have hfz100_1 := blk_frozen BK299.out 1
                        have hfz100_2 := blk_frozen BK299.out 2
                        have hcz101_0 : wr.cell? ⟨gb301, 0, none⟩ = some (.int .i64 ((rd_T38 l0_2 x4_1).f0)) := (blk_cell BK301.out 0).trans rfl
                        have hcz101_1 : wr.cell? ⟨gb301, 1, none⟩ = some (.int .i64 ((rd_T38 l0_2 x4_1).f1)) := (blk_cell BK301.out 1).trans rfl
                        have hcz101_2 : wr.cell? ⟨gb301, 2, none⟩ = some (.int .i64 ((rd_T38 l0_2 x4_1).f2)) := (blk_cell BK301.out 2).trans rfl
                        have hfz101_0 := blk_frozen BK301.out 0
                        have hfz101_1 := blk_frozen BK301.out 1
                        have hfz101_2 := blk_frozen BK301.out 2
                        go_wp2_with (first | ((with_reducible refine gate_builtin (b := .append) (xs := #[.tmp 68, .tmp 76]) rfl ?_); at_builtin; refine Kd.R_append k54 (w0 := w) w.heap.size rfl (.tmp 68) (.tmp 76) 50 54 (.agg #[(.int .i64 0), (.int .i64 0), (.int .i64 0)]) 24 rfl Tryz.underlying50 info54 rfl (by decide) (by omega) u3 x3_1 (⟨((rd_T38 l0_2 x4_1).f0), ((rd_T38 l0_2 x4_1).f1), ((rd_T38 l0_2 x4_1).f2)⟩ : S54) [.int .i64 ((rd_T38 l0_2 x4_1).f0), .int .i64 ((rd_T38 l0_2 x4_1).f1), .int .i64 ((rd_T38 l0_2 x4_1).f2)] (fun _ => True) (fun _ => False) rfl rfl ?aP (fun _ hk => hk.elim) ?aF ?aO ?aB ?aS ?aL ?_; (case aP => exact k54_mkM _ _ _ (⟨((rd_T38 l0_2 x4_1).f0), ((rd_T38 l0_2 x4_1).f1), ((rd_T38 l0_2 x4_1).f2)⟩ : S54)); (case aB => exact (by repeat (first | (with_reducible first | exact HB.out | apply below_alloc | apply pw_below_drewN | apply below_drew1 | refine below_set ?_ GE299.out | refine below_set ?_ GE301.out) | exact HB.out))); (case aF => exact (fun _ _ => trivial)); (case aO => exact (by (with_reducible repeat (first | apply Kd.R_alloc | apply Kd.R_drewN | apply Kd.R_drew)); exact HO_3.out)); (case aS => exact (below_size (by repeat (first | (with_reducible first | exact HB.out | apply below_alloc | apply pw_below_drewN | apply below_drew1 | refine below_set ?_ GE299.out | refine below_set ?_ GE301.out) | exact HB.out)))); (case aL => have := LMc91.out; omega); intro v305 w102 ho hb hg hat; rw [← Ny304.out] at ho; have n0_ := Aside0.mk (blk_grown (g := gb299) (o := .cells #[.bool false, .slice A0_1 l0_1.length c0_1, .slice (some ad300) l0_2.length c0_2] 25 (0, 0)) (by (with_reducible repeat (first | refine blk_drewN ?_ _ | refine blk_drew ?_ | refine blk_alloc ?_ _)); exact BK299.out) hg (Kd.R_ne HO_3.out BK299.out (by decide))); have n1_ := Aside0.mk (blk_grown (g := gb301) (o := .cells #[.int .i64 ((rd_T38 l0_2 x4_1).f0), .int .i64 ((rd_T38 l0_2 x4_1).f1), .int .i64 ((rd_T38 l0_2 x4_1).f2)] 38 (0, 0)) (by (with_reducible repeat (first | refine blk_drewN ?_ _ | refine blk_drew ?_ | refine blk_alloc ?_ _)); exact BK301.out) hg (Kd.R_ne HO_3.out BK301.out (by decide))); have n2_ := Aside0.mk (hb); have n3_ := Aside0.mk (ho); clear BK299; clear BK301; clear HB; clear HO_3; have BK299 := n0_; have BK301 := n1_; have HB := n2_; have HO306 := n3_; clear n0_ n1_ n2_ n3_; clear ho hb hg hat; have hcz103_0 : w102.cell? ⟨gb299, 0, none⟩ = some (.bool false) := (blk_cell BK299.out 0).trans rfl; have hcz103_1 : w102.cell? ⟨gb299, 1, none⟩ = some (.slice A0_1 l0_1.length c0_1) := (blk_cell BK299.out 1).trans rfl; have hcz103_2 : w102.cell? ⟨gb299, 2, none⟩ = some (.slice (some ad300) l0_2.length c0_2) := (blk_cell BK299.out 2).trans rfl; have hfz103_0 := blk_frozen BK299.out 0; have hfz103_1 := blk_frozen BK299.out 1; have hfz103_2 := blk_frozen BK299.out 2; have hcz104_0 : w102.cell? ⟨gb301, 0, none⟩ = some (.int .i64 ((rd_T38 l0_2 x4_1).f0)) := (blk_cell BK301.out 0).trans rfl; have hcz104_1 : w102.cell? ⟨gb301, 1, none⟩ = some (.int .i64 ((rd_T38 l0_2 x4_1).f1)) := (blk_cell BK301.out 1).trans rfl; have hcz104_2 : w102.cell? ⟨gb301, 2, none⟩ = some (.int .i64 ((rd_T38 l0_2 x4_1).f2)) := (blk_cell BK301.out 2).trans rfl; have hfz104_0 := blk_frozen BK301.out 0; have hfz104_1 := blk_frozen BK301.out 1; have hfz104_2 := blk_frozen BK301.out 2) | ((with_reducible refine gate_builtin (b := .append) (xs := #[.tmp 81, .tmp 89]) rfl ?_); at_builtin; refine Kd.R_append k54 (w0 := w) w.heap.size rfl (.tmp 81) (.tmp 89) 50 54 (.agg #[(.int .i64 0), (.int .i64 0), (.int .i64 0)]) 24 rfl Tryz.underlying50 info54 rfl (by decide) (by omega) v305 y304 (⟨((rd_T38 l0_2 x4_1).f1), ((rd_T38 l0_2 x4_1).f0), ((rd_T38 l0_2 x4_1).f2)⟩ : S54) [.int .i64 ((rd_T38 l0_2 x4_1).f1), .int .i64 ((rd_T38 l0_2 x4_1).f0), .int .i64 ((rd_T38 l0_2 x4_1).f2)] (fun _ => True) (fun _ => False) rfl rfl ?aP (fun _ hk => hk.elim) ?aF ?aO ?aB ?aS ?aL ?_; (case aP => exact k54_mkM _ _ _ (⟨((rd_T38 l0_2 x4_1).f1), ((rd_T38 l0_2 x4_1).f0), ((rd_T38 l0_2 x4_1).f2)⟩ : S54)); (case aB => exact (by repeat (first | (with_reducible first | exact HB.out | apply below_alloc | apply pw_below_drewN | apply below_drew1 | refine below_set ?_ GE299.out | refine below_set ?_ GE301.out) | exact HB.out))); (case aF => exact (fun _ _ => trivial)); (case aO => exact (by (with_reducible repeat (first | apply Kd.R_alloc | apply Kd.R_drewN | apply Kd.R_drew)); exact HO306.out)); (case aS => exact (below_size (by repeat (first | (with_reducible first | exact HB.out | apply below_alloc | apply pw_below_drewN | apply below_drew1 | refine below_set ?_ GE299.out | refine below_set ?_ GE301.out) | exact HB.out)))); (case aL => have := LMc98.out; omega); intro v308 w105 ho hb hg hat; rw [← Ny307.out] at ho; have n0_ := Aside0.mk (blk_grown (g := gb299) (o := .cells #[.bool false, .slice A0_1 l0_1.length c0_1, .slice (some ad300) l0_2.length c0_2] 25 (0, 0)) (by (with_reducible repeat (first | refine blk_drewN ?_ _ | refine blk_drew ?_ | refine blk_alloc ?_ _)); exact BK299.out) hg (Kd.R_ne HO306.out BK299.out (by decide))); have n1_ := Aside0.mk (blk_grown (g := gb301) (o := .cells #[.int .i64 ((rd_T38 l0_2 x4_1).f0), .int .i64 ((rd_T38 l0_2 x4_1).f1), .int .i64 ((rd_T38 l0_2 x4_1).f2)] 38 (0, 0)) (by (with_reducible repeat (first | refine blk_drewN ?_ _ | refine blk_drew ?_ | refine blk_alloc ?_ _)); exact BK301.out) hg (Kd.R_ne HO306.out BK301.out (by decide))); have n2_ := Aside0.mk (hb); have n3_ := Aside0.mk (ho); clear BK299; clear BK301; clear HB; clear HO306; have BK299 := n0_; have BK301 := n1_; have HB := n2_; have HO309 := n3_; clear n0_ n1_ n2_ n3_; clear ho hb hg hat))
                        go_roundg k2
                        case measure => have := HK1.out; have := HK2.out; omega
                        case rel => exact ⟨(y307), (wrap64 (x4_1 + 1)), (by first | rfl | (simp; done) | (simp [*]; done)), H', ⟨by have := HK1.out; have := HK2.out; omega⟩, ⟨by (with_reducible repeat (first | apply Kd.R_alloc | apply Kd.R_drewN | apply Kd.R_drew)); exact HO309.out⟩, ⟨by (with_reducible repeat (first | refine blk_drewN ?_ _ | refine blk_drew ?_ | refine blk_alloc ?_ _)); exact BK299.out⟩, ⟨by repeat (first | (with_reducible first | exact HB.out | apply below_alloc | apply pw_below_drewN | apply below_drew1 | refine below_set ?_ GE299.out | refine below_set ?_ GE301.out) | exact HB.out)⟩⟩
                      · rw [if_neg c98] at H
                        exact absurd H (by simp)
                  · rw [if_neg c91] at H
                    exact absurd H (by simp)
                · replace c90 := Bool.eq_false_iff.mpr c90
                  subst c90
                  have H1 : (laws_hops.l0 k2 x3_1 (wrap64 (x4_1 + 1)) a0_0 l0_1 l0_2) = some r := by rw [if_neg (show ¬ (false = true) by decide)] at H; exact H
                  clear H
                  have H := H1
                  clear H1
                  have H' := Aside0.mk H
                  clear H
                  have hnb106 := NB299_301.out
                  have hnc106 := NB301_299.out
                  have hcz107_0 : wr.cell? ⟨gb299, 0, none⟩ = some (.bool a0_0) := (blk_cell BK299.out 0).trans rfl
                  have hcz107_1 : wr.cell? ⟨gb299, 1, none⟩ = some (.slice A0_1 l0_1.length c0_1) := (blk_cell BK299.out 1).trans rfl
                  have hcz107_2 : wr.cell? ⟨gb299, 2, none⟩ = some (.slice (some ad300) l0_2.length c0_2) := (blk_cell BK299.out 2).trans rfl
                  have hfz107_0 := blk_frozen BK299.out 0
                  have hfz107_1 := blk_frozen BK299.out 1
                  have hfz107_2 := blk_frozen BK299.out 2
                  go_wp2
                  go_roundg k2
                  case measure => have := HK1.out; have := HK2.out; omega
                  case rel => exact ⟨(x3_1), (wrap64 (x4_1 + 1)), (by first | rfl | (simp; done) | (simp [*]; done)), H', ⟨by have := HK1.out; have := HK2.out; omega⟩, ⟨by (with_reducible repeat (first | apply Kd.R_alloc | apply Kd.R_drewN | apply Kd.R_drew)); exact HO_3.out⟩, ⟨by (with_reducible repeat (first | refine blk_drewN ?_ _ | refine blk_drew ?_ | refine blk_alloc ?_ _)); exact BK299.out⟩, ⟨by repeat (first | (with_reducible first | exact HB.out | apply below_alloc | apply pw_below_drewN | apply below_drew1 | refine below_set ?_ GE299.out | refine below_set ?_ GE301.out) | exact HB.out)⟩⟩
        · rw [if_neg c4] at H
          exact absurd H (by simp)
      · rw [if_neg c3] at H
        have c3b0 : decide (x4_1 < (l0_2.length : Int)) = false := decide_eq_false c3
        clear c3
        obtain rfl := Option.some.inj H
        have hcz108_0 : wr.cell? ⟨gb299, 0, none⟩ = some (.bool a0_0) := (blk_cell BK299.out 0).trans rfl
        have hcz108_1 : wr.cell? ⟨gb299, 1, none⟩ = some (.slice A0_1 l0_1.length c0_1) := (blk_cell BK299.out 1).trans rfl
        have hcz108_2 : wr.cell? ⟨gb299, 2, none⟩ = some (.slice A0_2 l0_2.length c0_2) := (blk_cell BK299.out 2).trans rfl
        have hfz108_0 := blk_frozen BK299.out 0
        have hfz108_1 := blk_frozen BK299.out 1
        have hfz108_2 := blk_frozen BK299.out 2
        go_wp2
        go_ret
        exact ⟨_, by first | rfl | (simp [errW_none, errW_some] <;> rfl) | (simp [*, errW_none, errW_some] <;> rfl), by (with_reducible repeat (first | apply Kd.R_alloc | apply Kd.R_drewN | apply Kd.R_drew)); exact HO_3.out, by repeat (first | (with_reducible first | exact HB.out | apply below_alloc | apply pw_below_drewN | apply below_drew1 | refine below_set ?_ GE299.out) | exact HB.out)⟩

-- NOT PRINTED: function 25 (laws_openHops)

-- NOT PRINTED: function 26 (laws_hop_26)

/-! ### laws_reached: function 28 -/
mutual
def laws_reached.l0 : Nat → List (S54) → List Int → Int → Option (List Int)
  | 0, _, _, _ => none
  | k + 1, x0, x5, x6 => if x6 < (x5.length : Int) then (laws_reached.l1 k x0 x5 x6 0) else (some x5)
def laws_reached.l1 : Nat → List (S54) → List Int → Int → Int → Option (List Int)
  | 0, _, _, _, _ => none
  | k + 1, x0, x5, x6, x7 => if x7 < (x0.length : Int) then (if 0 ≤ x7 then (if 0 ≤ x6 then (if x6 < (x5.length : Int) then (if ((rd_T54 x0 x7).f0) = (rd x5 x6) then ((slices_Contains_int_int.f k x5 ((rd_T54 x0 x7).f1)).bind fun t317 => (if t317 = true then (laws_reached.l1 k x0 x5 x6 (wrap64 (x7 + 1))) else (if x5.length < 17592186044416 then (laws_reached.l1 k x0 (x5 ++ [(rd_T54 x0 x7).f1]) x6 (wrap64 (x7 + 1))) else (none)))) else (laws_reached.l1 k x0 x5 x6 (wrap64 (x7 + 1)))) else (none)) else (none)) else (none)) else (laws_reached.l0 k x0 x5 (wrap64 (x6 + 1)))
end
def laws_reached.f (k : Nat) (l0 : List (S54)) (a1 : Int) : Option (List Int) := laws_reached.l0 k l0 (([a1] : List Int)) 0
set_option maxHeartbeats 8000000 in
set_option maxRecDepth 100000 in
theorem laws_reached.calls (k : Nat) (A0 : Option Addr) (c0 : Nat) (l0 : List (S54)) (a1 : Int) (r : List Int) (w : World) (hr0 : Kd.C k54 w A0 l0.length l0) (hc0 : l0.length ≤ c0) (h : laws_reached.f k l0 a1 = some r) :
    Calls Tryz.prog 28 #[.slice A0 l0.length c0, .int .i64 a1] w fun e w' => ∃ v0_ : Value, e = .returned (v0_) ∧ Kd.R (Kd.int .i64) 3 w' w.heap.size (fun _ => True) v0_ r ∧ Below w.heap.size w w' := by
  have HR0 := Aside0.mk hr0
  have HC0 := Aside0.mk hc0
  clear hr0 hc0
  have HB := Aside0.mk (Below.refl w.heap.size w)
  have H : (laws_reached.l0 k l0 (([a1] : List Int)) 0) = some r := h
  clear h
  obtain ⟨y311, hy311⟩ : ∃ y_ : List Int, y_ = (([a1] : List Int)) := ⟨_, rfl⟩
  replace H : (laws_reached.l0 k l0 y311 0) = some r := by first | (rw [hy311]; with_reducible exact H) | (have H2_ := (Option.bind_some _ _).symm.trans H; rw [hy311]; with_reducible exact H2_) | (have H2_ := (Option.bind_some _ _).symm.trans H; with_reducible exact H2_) | with_reducible exact H | (rw [hy311]; exact H) | exact H
  have Ny311 := Aside0.mk hy311
  clear hy311
  have H' := Aside0.mk H
  clear H
  go_enter Tryz.func28, Tryz.ntmps28
  go_wp2_with (first | ((with_reducible refine gate_dst (N := 9) rfl ?_); refine Kd.R_lit (Kd.int .i64) _ 3 ?hg (N := 9) ?hd (xs := ([a1] : List Int)) (inner := [.int .i64 a1]) (ok := fun _ => True) (okp := fun _ => True) ?hr ?hp (fun _ hk => hk) trivial (Below.refl _ _) (Nat.le_refl _) (by simp) ?_; (case hd => rfl); (case hg => rfl); (case hr => first | (go_simp; done) | (go_simp; rfl)); (case hp => exact (Reps.one (show Kd.M (Kd.int .i64) _ _ _ a1 [.int .i64 a1] from rfl) (Reps.none _ _))); intro v312 w3 ho4 hb hg_ hnew_; clear hg_ hnew_; (first | rw [← Ny311.out] at ho4 | (simp only [Int.reduceToNat] at ho4; rw [← Ny311.out] at ho4)); have n0_ := Aside0.mk (Kd.R_lower ho4 (below_size (by repeat (first | (with_reducible first | exact HB.out | apply below_alloc | apply pw_below_drewN | apply below_drew1) | exact HB.out)))); have n1_ := Aside0.mk (below_step (by repeat (first | (with_reducible first | exact HB.out | apply below_alloc | apply pw_below_drewN | apply below_drew1) | exact HB.out)) hb); clear HB; have HO313 := n0_; have HB := n1_; clear n0_ n1_; clear hb ho4))
  repeat (go_quiet (first | ((with_reducible refine gate_dst (N := 9) rfl ?_); refine Kd.R_lit (Kd.int .i64) _ 3 ?hg (N := 9) ?hd (xs := ([a1] : List Int)) (inner := [.int .i64 a1]) (ok := fun _ => True) (okp := fun _ => True) ?hr ?hp (fun _ hk => hk) trivial (Below.refl _ _) (Nat.le_refl _) (by simp) ?_; (case hd => rfl); (case hg => rfl); (case hr => first | (go_simp; done) | (go_simp; rfl)); (case hp => exact (Reps.one (show Kd.M (Kd.int .i64) _ _ _ a1 [.int .i64 a1] from rfl) (Reps.none _ _))); intro v312 w3 ho4 hb hg_ hnew_; clear hg_ hnew_; (first | rw [← Ny311.out] at ho4 | (simp only [Int.reduceToNat] at ho4; rw [← Ny311.out] at ho4)); have n0_ := Aside0.mk (Kd.R_lower ho4 (below_size (by repeat (first | (with_reducible first | exact HB.out | apply below_alloc | apply pw_below_drewN | apply below_drew1) | exact HB.out)))); have n1_ := Aside0.mk (below_step (by repeat (first | (with_reducible first | exact HB.out | apply below_alloc | apply pw_below_drewN | apply below_drew1) | exact HB.out)) hb); clear HB; have HO313 := n0_; have HB := n1_; clear n0_ n1_; clear hb ho4)); try go_wp2_with (first | ((with_reducible refine gate_dst (N := 9) rfl ?_); refine Kd.R_lit (Kd.int .i64) _ 3 ?hg (N := 9) ?hd (xs := ([a1] : List Int)) (inner := [.int .i64 a1]) (ok := fun _ => True) (okp := fun _ => True) ?hr ?hp (fun _ hk => hk) trivial (Below.refl _ _) (Nat.le_refl _) (by simp) ?_; (case hd => rfl); (case hg => rfl); (case hr => first | (go_simp; done) | (go_simp; rfl)); (case hp => exact (Reps.one (show Kd.M (Kd.int .i64) _ _ _ a1 [.int .i64 a1] from rfl) (Reps.none _ _))); intro v312 w3 ho4 hb hg_ hnew_; clear hg_ hnew_; (first | rw [← Ny311.out] at ho4 | (simp only [Int.reduceToNat] at ho4; rw [← Ny311.out] at ho4)); have n0_ := Aside0.mk (Kd.R_lower ho4 (below_size (by repeat (first | (with_reducible first | exact HB.out | apply below_alloc | apply pw_below_drewN | apply below_drew1) | exact HB.out)))); have n1_ := Aside0.mk (below_step (by repeat (first | (with_reducible first | exact HB.out | apply below_alloc | apply pw_below_drewN | apply below_drew1) | exact HB.out)) hb); clear HB; have HO313 := n0_; have HB := n1_; clear n0_ n1_; clear hb ho4)))
  go_loopg [5, 6] k (fun kq v5 v6 w' => ∃ (x5_1 : List Int) (x6_1 : Int), v6 = .int .i64 x6_1 ∧ Aside0 (laws_reached.l0 kq l0 x5_1 x6_1 = some r) ∧ Aside0 (kq ≤ k) ∧ Aside0 (Kd.R (Kd.int .i64) 3 w' w.heap.size (fun _ => True) v5 x5_1) ∧ Aside0 (Below w.heap.size w w'))
  case atStart => exact ⟨(y311), (0), (by first | rfl | (simp; done) | (simp [*]; done)), H', ⟨Nat.le_refl _⟩, ⟨by (with_reducible repeat (first | apply Kd.R_alloc | apply Kd.R_drewN | apply Kd.R_drew)); exact HO313.out⟩, ⟨by repeat (first | (with_reducible first | exact HB.out | apply below_alloc | apply pw_below_drewN | apply below_drew1) | exact HB.out)⟩⟩
  case round =>
    clear H'
    try clear c2
    try clear p2
    obtain ⟨x5_1, x6_1, rfl, HA, HK1, HO_5, HB⟩ := hrel
    cases gk with
    | zero => exact absurd HA.out (by simp [laws_reached.l0])
    | succ k1 =>
      have H := HA.out
      clear HA
      simp only [laws_reached.l0] at H
      by_cases c5 : x6_1 < (x5_1.length : Int)
      · rw [if_pos c5] at H
        have c5b0 : decide (x6_1 < (x5_1.length : Int)) = true := decide_eq_true c5
        clear c5
        have H' := Aside0.mk H
        clear H
        obtain ⟨Ao6, co6, eo6⟩ := Kd.R_slice HO_5.out
        subst eo6
        go_wp2
        repeat (go_quiet (fail); try go_wp2)
        go_loopg [5, 7] k1 (fun kq v5 v7 w' => ∃ (x5_2 : List Int) (x7_2 : Int), v7 = .int .i64 x7_2 ∧ Aside0 (laws_reached.l1 kq l0 x5_2 x6_1 x7_2 = some r) ∧ Aside0 (kq ≤ k1) ∧ Aside0 (Kd.R (Kd.int .i64) 3 w' w.heap.size (fun _ => True) v5 x5_2) ∧ Aside0 (Below w.heap.size w w'))
        case atStart => exact ⟨(x5_1), (0), (by first | rfl | (simp; done) | (simp [*]; done)), H', ⟨Nat.le_refl _⟩, ⟨by (with_reducible repeat (first | apply Kd.R_alloc | apply Kd.R_drewN | apply Kd.R_drew)); exact HO_5.out⟩, ⟨by repeat (first | (with_reducible first | exact HB.out | apply below_alloc | apply pw_below_drewN | apply below_drew1) | exact HB.out)⟩⟩
        case round =>
          clear H'
          try clear c2
          try clear p2
          try clear c5
          try clear c5b0
          try clear p2
          obtain ⟨x5_2, x7_2, rfl, HA, HK2, HO_5, HB⟩ := hrel
          cases gk with
          | zero => exact absurd HA.out (by simp [laws_reached.l1])
          | succ k2 =>
            have H := HA.out
            clear HA
            simp only [laws_reached.l1] at H
            by_cases c7 : x7_2 < (l0.length : Int)
            · rw [if_pos c7] at H
              have c7b0 : decide (x7_2 < (l0.length : Int)) = true := decide_eq_true c7
              clear c7
              by_cases c8 : 0 ≤ x7_2
              · rw [if_pos c8] at H
                have c8b0 : decide (0 ≤ x7_2) = true := decide_eq_true c8
                clear c8
                by_cases c9 : 0 ≤ x6_1
                · rw [if_pos c9] at H
                  have c9b0 : decide (0 ≤ x6_1) = true := decide_eq_true c9
                  clear c9
                  by_cases c10 : x6_1 < (x5_2.length : Int)
                  · rw [if_pos c10] at H
                    have c10b0 : decide (x6_1 < (x5_2.length : Int)) = true := decide_eq_true c10
                    clear c10
                    by_cases c11 : ((rd_T54 l0 x7_2).f0) = (rd x5_2 x6_1)
                    · rw [if_pos c11] at H
                      have c11b0 : (((rd_T54 l0 x7_2).f0) == (rd x5_2 x6_1)) = true := beq_iff_eq.mpr c11
                      have c11b1 : (((rd_T54 l0 x7_2).f0) != (rd x5_2 x6_1)) = false := bne_eq_false_iff_eq.mpr c11
                      clear c11
                      replace H := Option.bind_eq_some_iff.mp H
                      obtain ⟨t317, A120, H⟩ := H
                      replace H : (if t317 = true then (laws_reached.l1 k2 l0 x5_2 x6_1 (wrap64 (x7_2 + 1))) else (if x5_2.length < 17592186044416 then (laws_reached.l1 k2 l0 (x5_2 ++ [(rd_T54 l0 x7_2).f1]) x6_1 (wrap64 (x7_2 + 1))) else (none))) = some r := H
                      have A12 := Aside0.mk A120
                      clear A120
                      by_cases c13 : t317 = true
                      · subst c13
                        have H1 : (laws_reached.l1 k2 l0 x5_2 x6_1 (wrap64 (x7_2 + 1))) = some r := by rw [if_pos rfl] at H; exact H
                        clear H
                        have H := H1
                        clear H1
                        have H' := Aside0.mk H
                        clear H
                        have p314 : 0 ≤ (x7_2 : Int) := of_decide_eq_true (by first | (with_reducible assumption) | assumption)
                        have q314 : x7_2 < (l0.length : Int) := of_decide_eq_true (by first | (with_reducible assumption) | assumption)
                        obtain ⟨ad314, e314, hx314_0, hx314_1, hx314_2⟩ := at_T54 HR0.out x7_2 p314 q314
                        cases e314
                        replace hx314_0 := (HB.out.cell (World.block_lt_of_cell? w _ hx314_0)).trans hx314_0
                        replace hx314_1 := (HB.out.cell (World.block_lt_of_cell? w _ hx314_1)).trans hx314_1
                        replace hx314_2 := (HB.out.cell (World.block_lt_of_cell? w _ hx314_2)).trans hx314_2
                        replace p314 := eq_true p314
                        replace q314 := eq_true q314
                        obtain ⟨Ao14, co14, eo14⟩ := Kd.R_slice HO_5.out
                        subst eo14
                        have p315 : 0 ≤ (x6_1 : Int) := of_decide_eq_true (by first | (with_reducible assumption) | assumption)
                        have q315 : x6_1 < (x5_2.length : Int) := of_decide_eq_true (by first | (with_reducible assumption) | assumption)
                        obtain ⟨ad315, e315, hx315_0⟩ := Kd.at_int (Kd.R_reads' HO_5.out).2.2 x6_1 p315 q315
                        cases e315
                        replace p315 := eq_true p315
                        replace q315 := eq_true q315
                        have p316 : 0 ≤ (x7_2 : Int) := of_decide_eq_true (by first | (with_reducible assumption) | assumption)
                        have q316 : x7_2 < (l0.length : Int) := of_decide_eq_true (by first | (with_reducible assumption) | assumption)
                        obtain ⟨ad316, e316, hx316_0, hx316_1, hx316_2⟩ := at_T54 HR0.out x7_2 p316 q316
                        obtain rfl : ad314 = ad316 := (by injection e316)
                        replace hx316_0 := (HB.out.cell (World.block_lt_of_cell? w _ hx316_0)).trans hx316_0
                        replace hx316_1 := (HB.out.cell (World.block_lt_of_cell? w _ hx316_1)).trans hx316_1
                        replace hx316_2 := (HB.out.cell (World.block_lt_of_cell? w _ hx316_2)).trans hx316_2
                        replace p316 := eq_true p316
                        replace q316 := eq_true q316
                        go_wp2_with (first | (go_at_call 24; (with_reducible refine (slices_Contains_int_int.calls k2 _ _ x5_2 ((rd_T54 l0 x7_2).f1) true _ ?side1 ?side2 A12.out).mono ?_); (case side1 => repeat (first | exact (Kd.R_reads' HO_5.out).2.2 | (with_reducible refine Kd.C_alloc ?_ _) | (with_reducible refine Kd.C_drewN ?_ _) | (with_reducible refine Kd.C_drew ?_))); (case side2 => exact (Kd.R_reads' HO_5.out).2.1); rintro e w' ⟨rfl, ⟨nd, rfl⟩⟩; (try first | exact ⟨rfl, _, World.drewN_drewN _ _ _⟩ | exact ⟨rfl, _, Eq.trans (World.drewN_drewN _ _ _) (congrArg (World.drewN _) (Nat.add_assoc _ _ _))⟩)))
                        repeat (go_quiet (first | (go_at_call 24; (with_reducible refine (slices_Contains_int_int.calls k2 _ _ x5_2 ((rd_T54 l0 x7_2).f1) true _ ?side1 ?side2 A12.out).mono ?_); (case side1 => repeat (first | exact (Kd.R_reads' HO_5.out).2.2 | (with_reducible refine Kd.C_alloc ?_ _) | (with_reducible refine Kd.C_drewN ?_ _) | (with_reducible refine Kd.C_drew ?_))); (case side2 => exact (Kd.R_reads' HO_5.out).2.1); rintro e w' ⟨rfl, ⟨nd, rfl⟩⟩; (try first | exact ⟨rfl, _, World.drewN_drewN _ _ _⟩ | exact ⟨rfl, _, Eq.trans (World.drewN_drewN _ _ _) (congrArg (World.drewN _) (Nat.add_assoc _ _ _))⟩))); try go_wp2_with (first | (go_at_call 24; (with_reducible refine (slices_Contains_int_int.calls k2 _ _ x5_2 ((rd_T54 l0 x7_2).f1) true _ ?side1 ?side2 A12.out).mono ?_); (case side1 => repeat (first | exact (Kd.R_reads' HO_5.out).2.2 | (with_reducible refine Kd.C_alloc ?_ _) | (with_reducible refine Kd.C_drewN ?_ _) | (with_reducible refine Kd.C_drew ?_))); (case side2 => exact (Kd.R_reads' HO_5.out).2.1); rintro e w' ⟨rfl, ⟨nd, rfl⟩⟩; (try first | exact ⟨rfl, _, World.drewN_drewN _ _ _⟩ | exact ⟨rfl, _, Eq.trans (World.drewN_drewN _ _ _) (congrArg (World.drewN _) (Nat.add_assoc _ _ _))⟩))))
                        go_roundg k2
                        case measure => have := HK1.out; have := HK2.out; omega
                        case rel => exact ⟨(x5_2), (wrap64 (x7_2 + 1)), (by first | rfl | (simp; done) | (simp [*]; done)), H', ⟨by have := HK1.out; have := HK2.out; omega⟩, ⟨by (with_reducible repeat (first | apply Kd.R_alloc | apply Kd.R_drewN | apply Kd.R_drew)); exact HO_5.out⟩, ⟨by repeat (first | (with_reducible first | exact HB.out | apply below_alloc | apply pw_below_drewN | apply below_drew1) | exact HB.out)⟩⟩
                      · replace c13 := Bool.eq_false_iff.mpr c13
                        subst c13
                        have H1 : (if x5_2.length < 17592186044416 then (laws_reached.l1 k2 l0 (x5_2 ++ [(rd_T54 l0 x7_2).f1]) x6_1 (wrap64 (x7_2 + 1))) else (none)) = some r := by rw [if_neg (show ¬ (false = true) by decide)] at H; exact H
                        clear H
                        have H := H1
                        clear H1
                        by_cases c15 : x5_2.length < 17592186044416
                        · rw [if_pos c15] at H
                          have LMc15 := Aside0.mk c15
                          clear c15
                          obtain ⟨y319, hy319⟩ : ∃ y_ : List Int, y_ = (x5_2 ++ [(rd_T54 l0 x7_2).f1]) := ⟨_, rfl⟩
                          replace H : (laws_reached.l1 k2 l0 y319 x6_1 (wrap64 (x7_2 + 1))) = some r := by first | (rw [hy319]; with_reducible exact H) | (have H2_ := (Option.bind_some _ _).symm.trans H; rw [hy319]; with_reducible exact H2_) | (have H2_ := (Option.bind_some _ _).symm.trans H; with_reducible exact H2_) | with_reducible exact H | (rw [hy319]; exact H) | exact H
                          have Ny319 := Aside0.mk hy319
                          clear hy319
                          have H' := Aside0.mk H
                          clear H
                          have p314 : 0 ≤ (x7_2 : Int) := of_decide_eq_true (by first | (with_reducible assumption) | assumption)
                          have q314 : x7_2 < (l0.length : Int) := of_decide_eq_true (by first | (with_reducible assumption) | assumption)
                          obtain ⟨ad314, e314, hx314_0, hx314_1, hx314_2⟩ := at_T54 HR0.out x7_2 p314 q314
                          cases e314
                          replace hx314_0 := (HB.out.cell (World.block_lt_of_cell? w _ hx314_0)).trans hx314_0
                          replace hx314_1 := (HB.out.cell (World.block_lt_of_cell? w _ hx314_1)).trans hx314_1
                          replace hx314_2 := (HB.out.cell (World.block_lt_of_cell? w _ hx314_2)).trans hx314_2
                          replace p314 := eq_true p314
                          replace q314 := eq_true q314
                          obtain ⟨Ao16, co16, eo16⟩ := Kd.R_slice HO_5.out
                          subst eo16
                          have p315 : 0 ≤ (x6_1 : Int) := of_decide_eq_true (by first | (with_reducible assumption) | assumption)
                          have q315 : x6_1 < (x5_2.length : Int) := of_decide_eq_true (by first | (with_reducible assumption) | assumption)
                          obtain ⟨ad315, e315, hx315_0⟩ := Kd.at_int (Kd.R_reads' HO_5.out).2.2 x6_1 p315 q315
                          cases e315
                          replace p315 := eq_true p315
                          replace q315 := eq_true q315
                          have p316 : 0 ≤ (x7_2 : Int) := of_decide_eq_true (by first | (with_reducible assumption) | assumption)
                          have q316 : x7_2 < (l0.length : Int) := of_decide_eq_true (by first | (with_reducible assumption) | assumption)
                          obtain ⟨ad316, e316, hx316_0, hx316_1, hx316_2⟩ := at_T54 HR0.out x7_2 p316 q316
                          obtain rfl : ad314 = ad316 := (by injection e316)
                          replace hx316_0 := (HB.out.cell (World.block_lt_of_cell? w _ hx316_0)).trans hx316_0
                          replace hx316_1 := (HB.out.cell (World.block_lt_of_cell? w _ hx316_1)).trans hx316_1
                          replace hx316_2 := (HB.out.cell (World.block_lt_of_cell? w _ hx316_2)).trans hx316_2
                          replace p316 := eq_true p316
                          replace q316 := eq_true q316
                          go_wp2_with (first | (go_at_call 24; (with_reducible refine (slices_Contains_int_int.calls k2 _ _ x5_2 ((rd_T54 l0 x7_2).f1) false _ ?side1 ?side2 A12.out).mono ?_); (case side1 => repeat (first | exact (Kd.R_reads' HO_5.out).2.2 | (with_reducible refine Kd.C_alloc ?_ _) | (with_reducible refine Kd.C_drewN ?_ _) | (with_reducible refine Kd.C_drew ?_))); (case side2 => exact (Kd.R_reads' HO_5.out).2.1); rintro e w' ⟨rfl, ⟨nd, rfl⟩⟩; (try first | exact ⟨rfl, _, World.drewN_drewN _ _ _⟩ | exact ⟨rfl, _, Eq.trans (World.drewN_drewN _ _ _) (congrArg (World.drewN _) (Nat.add_assoc _ _ _))⟩); have p318 : 0 ≤ (x7_2 : Int) := of_decide_eq_true (by first | (with_reducible assumption) | assumption); have q318 : x7_2 < (l0.length : Int) := of_decide_eq_true (by first | (with_reducible assumption) | assumption); obtain ⟨ad318, e318, hx318_0, hx318_1, hx318_2⟩ := at_T54 HR0.out x7_2 p318 q318; obtain rfl : ad314 = ad318 := (by injection e318); replace hx318_0 := (HB.out.cell (World.block_lt_of_cell? w _ hx318_0)).trans hx318_0; replace hx318_1 := (HB.out.cell (World.block_lt_of_cell? w _ hx318_1)).trans hx318_1; replace hx318_2 := (HB.out.cell (World.block_lt_of_cell? w _ hx318_2)).trans hx318_2; replace p318 := eq_true p318; replace q318 := eq_true q318) | ((with_reducible refine gate_builtin (b := .append) (xs := #[.tmp 42, .tmp 48]) rfl ?_); at_builtin; refine Kd.R_append (Kd.int .i64) (w0 := w) w.heap.size rfl (.tmp 42) (.tmp 48) 22 3 (.int .i64 0) 8 rfl Tryz.underlying22 info3 rfl (by decide) (by omega) (.slice (some ad315) x5_2.length co16) x5_2 ((rd_T54 l0 x7_2).f1) [.int .i64 ((rd_T54 l0 x7_2).f1)] (fun _ => True) (fun _ => False) rfl rfl ?aP (fun _ hk => hk.elim) ?aF ?aO ?aB ?aS ?aL ?_; (case aP => exact rfl); (case aB => exact (by repeat (first | (with_reducible first | exact HB.out | apply below_alloc | apply pw_below_drewN | apply below_drew1) | exact HB.out))); (case aF => exact (fun _ _ => trivial)); (case aO => exact (by (with_reducible repeat (first | apply Kd.R_alloc | apply Kd.R_drewN | apply Kd.R_drew)); exact HO_5.out)); (case aS => exact (below_size (by repeat (first | (with_reducible first | exact HB.out | apply below_alloc | apply pw_below_drewN | apply below_drew1) | exact HB.out)))); (case aL => have := LMc15.out; omega); intro v320 w17 ho hb hg hat; rw [← Ny319.out] at ho; have n0_ := Aside0.mk (hb); have n1_ := Aside0.mk (ho); clear HB; clear HO_5; have HB := n0_; have HO321 := n1_; clear n0_ n1_; clear ho hb hg hat))
                          repeat (go_quiet (first | (go_at_call 24; (with_reducible refine (slices_Contains_int_int.calls k2 _ _ x5_2 ((rd_T54 l0 x7_2).f1) false _ ?side1 ?side2 A12.out).mono ?_); (case side1 => repeat (first | exact (Kd.R_reads' HO_5.out).2.2 | (with_reducible refine Kd.C_alloc ?_ _) | (with_reducible refine Kd.C_drewN ?_ _) | (with_reducible refine Kd.C_drew ?_))); (case side2 => exact (Kd.R_reads' HO_5.out).2.1); rintro e w' ⟨rfl, ⟨nd, rfl⟩⟩; (try first | exact ⟨rfl, _, World.drewN_drewN _ _ _⟩ | exact ⟨rfl, _, Eq.trans (World.drewN_drewN _ _ _) (congrArg (World.drewN _) (Nat.add_assoc _ _ _))⟩); have p318 : 0 ≤ (x7_2 : Int) := of_decide_eq_true (by first | (with_reducible assumption) | assumption); have q318 : x7_2 < (l0.length : Int) := of_decide_eq_true (by first | (with_reducible assumption) | assumption); obtain ⟨ad318, e318, hx318_0, hx318_1, hx318_2⟩ := at_T54 HR0.out x7_2 p318 q318; obtain rfl : ad314 = ad318 := (by injection e318); replace hx318_0 := (HB.out.cell (World.block_lt_of_cell? w _ hx318_0)).trans hx318_0; replace hx318_1 := (HB.out.cell (World.block_lt_of_cell? w _ hx318_1)).trans hx318_1; replace hx318_2 := (HB.out.cell (World.block_lt_of_cell? w _ hx318_2)).trans hx318_2; replace p318 := eq_true p318; replace q318 := eq_true q318) | ((with_reducible refine gate_builtin (b := .append) (xs := #[.tmp 42, .tmp 48]) rfl ?_); at_builtin; refine Kd.R_append (Kd.int .i64) (w0 := w) w.heap.size rfl (.tmp 42) (.tmp 48) 22 3 (.int .i64 0) 8 rfl Tryz.underlying22 info3 rfl (by decide) (by omega) (.slice (some ad315) x5_2.length co16) x5_2 ((rd_T54 l0 x7_2).f1) [.int .i64 ((rd_T54 l0 x7_2).f1)] (fun _ => True) (fun _ => False) rfl rfl ?aP (fun _ hk => hk.elim) ?aF ?aO ?aB ?aS ?aL ?_; (case aP => exact rfl); (case aB => exact (by repeat (first | (with_reducible first | exact HB.out | apply below_alloc | apply pw_below_drewN | apply below_drew1) | exact HB.out))); (case aF => exact (fun _ _ => trivial)); (case aO => exact (by (with_reducible repeat (first | apply Kd.R_alloc | apply Kd.R_drewN | apply Kd.R_drew)); exact HO_5.out)); (case aS => exact (below_size (by repeat (first | (with_reducible first | exact HB.out | apply below_alloc | apply pw_below_drewN | apply below_drew1) | exact HB.out)))); (case aL => have := LMc15.out; omega); intro v320 w17 ho hb hg hat; rw [← Ny319.out] at ho; have n0_ := Aside0.mk (hb); have n1_ := Aside0.mk (ho); clear HB; clear HO_5; have HB := n0_; have HO321 := n1_; clear n0_ n1_; clear ho hb hg hat)); try go_wp2_with (first | (go_at_call 24; (with_reducible refine (slices_Contains_int_int.calls k2 _ _ x5_2 ((rd_T54 l0 x7_2).f1) false _ ?side1 ?side2 A12.out).mono ?_); (case side1 => repeat (first | exact (Kd.R_reads' HO_5.out).2.2 | (with_reducible refine Kd.C_alloc ?_ _) | (with_reducible refine Kd.C_drewN ?_ _) | (with_reducible refine Kd.C_drew ?_))); (case side2 => exact (Kd.R_reads' HO_5.out).2.1); rintro e w' ⟨rfl, ⟨nd, rfl⟩⟩; (try first | exact ⟨rfl, _, World.drewN_drewN _ _ _⟩ | exact ⟨rfl, _, Eq.trans (World.drewN_drewN _ _ _) (congrArg (World.drewN _) (Nat.add_assoc _ _ _))⟩); have p318 : 0 ≤ (x7_2 : Int) := of_decide_eq_true (by first | (with_reducible assumption) | assumption); have q318 : x7_2 < (l0.length : Int) := of_decide_eq_true (by first | (with_reducible assumption) | assumption); obtain ⟨ad318, e318, hx318_0, hx318_1, hx318_2⟩ := at_T54 HR0.out x7_2 p318 q318; obtain rfl : ad314 = ad318 := (by injection e318); replace hx318_0 := (HB.out.cell (World.block_lt_of_cell? w _ hx318_0)).trans hx318_0; replace hx318_1 := (HB.out.cell (World.block_lt_of_cell? w _ hx318_1)).trans hx318_1; replace hx318_2 := (HB.out.cell (World.block_lt_of_cell? w _ hx318_2)).trans hx318_2; replace p318 := eq_true p318; replace q318 := eq_true q318) | ((with_reducible refine gate_builtin (b := .append) (xs := #[.tmp 42, .tmp 48]) rfl ?_); at_builtin; refine Kd.R_append (Kd.int .i64) (w0 := w) w.heap.size rfl (.tmp 42) (.tmp 48) 22 3 (.int .i64 0) 8 rfl Tryz.underlying22 info3 rfl (by decide) (by omega) (.slice (some ad315) x5_2.length co16) x5_2 ((rd_T54 l0 x7_2).f1) [.int .i64 ((rd_T54 l0 x7_2).f1)] (fun _ => True) (fun _ => False) rfl rfl ?aP (fun _ hk => hk.elim) ?aF ?aO ?aB ?aS ?aL ?_; (case aP => exact rfl); (case aB => exact (by repeat (first | (with_reducible first | exact HB.out | apply below_alloc | apply pw_below_drewN | apply below_drew1) | exact HB.out))); (case aF => exact (fun _ _ => trivial)); (case aO => exact (by (with_reducible repeat (first | apply Kd.R_alloc | apply Kd.R_drewN | apply Kd.R_drew)); exact HO_5.out)); (case aS => exact (below_size (by repeat (first | (with_reducible first | exact HB.out | apply below_alloc | apply pw_below_drewN | apply below_drew1) | exact HB.out)))); (case aL => have := LMc15.out; omega); intro v320 w17 ho hb hg hat; rw [← Ny319.out] at ho; have n0_ := Aside0.mk (hb); have n1_ := Aside0.mk (ho); clear HB; clear HO_5; have HB := n0_; have HO321 := n1_; clear n0_ n1_; clear ho hb hg hat)))
                          go_roundg k2
                          case measure => have := HK1.out; have := HK2.out; omega
                          case rel => exact ⟨(y319), (wrap64 (x7_2 + 1)), (by first | rfl | (simp; done) | (simp [*]; done)), H', ⟨by have := HK1.out; have := HK2.out; omega⟩, ⟨by (with_reducible repeat (first | apply Kd.R_alloc | apply Kd.R_drewN | apply Kd.R_drew)); exact HO321.out⟩, ⟨by repeat (first | (with_reducible first | exact HB.out | apply below_alloc | apply pw_below_drewN | apply below_drew1) | exact HB.out)⟩⟩
                        · rw [if_neg c15] at H
                          exact absurd H (by simp)
                    · rw [if_neg c11] at H
                      have c11b0 : (((rd_T54 l0 x7_2).f0) == (rd x5_2 x6_1)) = false := beq_eq_false_iff_ne.mpr c11
                      have c11b1 : (((rd_T54 l0 x7_2).f0) != (rd x5_2 x6_1)) = true := bne_iff_ne.mpr c11
                      have H' := Aside0.mk H
                      clear H
                      have p314 : 0 ≤ (x7_2 : Int) := of_decide_eq_true (by first | (with_reducible assumption) | assumption)
                      have q314 : x7_2 < (l0.length : Int) := of_decide_eq_true (by first | (with_reducible assumption) | assumption)
                      obtain ⟨ad314, e314, hx314_0, hx314_1, hx314_2⟩ := at_T54 HR0.out x7_2 p314 q314
                      cases e314
                      replace hx314_0 := (HB.out.cell (World.block_lt_of_cell? w _ hx314_0)).trans hx314_0
                      replace hx314_1 := (HB.out.cell (World.block_lt_of_cell? w _ hx314_1)).trans hx314_1
                      replace hx314_2 := (HB.out.cell (World.block_lt_of_cell? w _ hx314_2)).trans hx314_2
                      replace p314 := eq_true p314
                      replace q314 := eq_true q314
                      obtain ⟨Ao18, co18, eo18⟩ := Kd.R_slice HO_5.out
                      subst eo18
                      have p315 : 0 ≤ (x6_1 : Int) := of_decide_eq_true (by first | (with_reducible assumption) | assumption)
                      have q315 : x6_1 < (x5_2.length : Int) := of_decide_eq_true (by first | (with_reducible assumption) | assumption)
                      obtain ⟨ad315, e315, hx315_0⟩ := Kd.at_int (Kd.R_reads' HO_5.out).2.2 x6_1 p315 q315
                      cases e315
                      replace p315 := eq_true p315
                      replace q315 := eq_true q315
                      go_wp2
                      repeat (go_quiet (fail); try go_wp2)
                      go_roundg k2
                      case measure => have := HK1.out; have := HK2.out; omega
                      case rel => exact ⟨(x5_2), (wrap64 (x7_2 + 1)), (by first | rfl | (simp; done) | (simp [*]; done)), H', ⟨by have := HK1.out; have := HK2.out; omega⟩, ⟨by (with_reducible repeat (first | apply Kd.R_alloc | apply Kd.R_drewN | apply Kd.R_drew)); exact HO_5.out⟩, ⟨by repeat (first | (with_reducible first | exact HB.out | apply below_alloc | apply pw_below_drewN | apply below_drew1) | exact HB.out)⟩⟩
                  · rw [if_neg c10] at H
                    exact absurd H (by simp)
                · rw [if_neg c9] at H
                  exact absurd H (by simp)
              · rw [if_neg c8] at H
                exact absurd H (by simp)
            · rw [if_neg c7] at H
              have c7b0 : decide (x7_2 < (l0.length : Int)) = false := decide_eq_false c7
              clear c7
              have H' := Aside0.mk H
              clear H
              go_wp2
              repeat (go_quiet (fail); try go_wp2)
              go_roundg k2
              case measure => have := HK1.out; have := HK2.out; omega
              case rel => exact ⟨(x5_2), (wrap64 (x6_1 + 1)), (by first | rfl | (simp; done) | (simp [*]; done)), H', ⟨by have := HK1.out; have := HK2.out; omega⟩, ⟨by (with_reducible repeat (first | apply Kd.R_alloc | apply Kd.R_drewN | apply Kd.R_drew)); exact HO_5.out⟩, ⟨by repeat (first | (with_reducible first | exact HB.out | apply below_alloc | apply pw_below_drewN | apply below_drew1) | exact HB.out)⟩⟩
      · rw [if_neg c5] at H
        have c5b0 : decide (x6_1 < (x5_1.length : Int)) = false := decide_eq_false c5
        clear c5
        obtain rfl := Option.some.inj H
        obtain ⟨Ao19, co19, eo19⟩ := Kd.R_slice HO_5.out
        subst eo19
        go_wp2
        repeat (go_quiet (fail); try go_wp2)
        go_ret
        exact ⟨_, by first | rfl | (simp [errW_none, errW_some] <;> rfl) | (simp [*, errW_none, errW_some] <;> rfl), by (with_reducible repeat (first | apply Kd.R_alloc | apply Kd.R_drewN | apply Kd.R_drew)); exact HO_5.out, by repeat (first | (with_reducible first | exact HB.out | apply below_alloc | apply pw_below_drewN | apply below_drew1) | exact HB.out)⟩

-- NOT PRINTED: function 6 (laws_FnDepthFirst)

end Go.Proofs.YtfkmpnpliadohaaGreat.PL
