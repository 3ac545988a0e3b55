import Derived.Test.YthkmblgehdofmaaGreatAG3
import Derived.Test.YthkmblgehdofmaaGreatProg
import Derived.Deep.RegionHeld3
import Derived.Maps.AppendAt
import Derived.Maps.Own
import Derived.WalkKit
import Derived.Laws.AppendOwn
import Derived.OwnWalk
import Derived.Test.YthkmblgehdofmaaGreatAG2
set_option linter.unusedVariables false
set_option linter.unusedSimpArgs false
/- simple.WeightedDirectedGraph: SetWeightedEdge. (Printed by wip/r6/sg8.py.) -/
namespace Go.Proofs.YthkmblgehdofmaaGreat.R
open Go.RowKit Go.Lab Go.Maps Go.MV Go.Proofs.YthkmblgehdofmaaGreatW.PrintWords Go.Proofs.YthkmblgehdofmaaGreatW.PrintLast Go.Proofs.YthkmblgehdofmaaGreatW.PrintMore

theorem GK.of_below {lo : Nat} {w w' : World} (h : Below w.heap.size w w') (hlo : lo ≤ w.heap.size) : GK lo w w' := ⟨h.os, h.tape, h.output, h.size, fun k hk => h.block k (by omega), fun k c t hk ht => h.block k (blk_lt hk)⟩
theorem setRow_ed {g : GS} {u v : Int} {x : Nat} (hu : u ∈ g.fk) (a b : Int) : (g.setRow u v x).ed a b = if a = u ∧ b = v then some x else g.ed a b := by
  show (if a ∈ g.fk ∧ b ∈ updF g.fe u (addK (g.fe u) v) a then some (upd3 g.W u v x a b) else none) = _
  by_cases e : a = u ∧ b = v
  · obtain ⟨rfl, rfl⟩ := e
    rw [updF_eq, if_pos ⟨hu, mem_addK.2 (.inr rfl)⟩, if_pos ⟨rfl, rfl⟩, upd3_eq]
  · rw [show (if a = u ∧ b = v then some x else g.ed a b) = g.ed a b from if_neg e, upd3_ne e]
    unfold GS.ed
    by_cases e1 : a = u
    · subst e1
      rw [updF_eq]
      have : b ∈ addK (g.fe a) v ↔ b ∈ g.fe a := mem_addK.trans ⟨fun q => q.resolve_right (fun q => e ⟨rfl, q⟩), .inl⟩
      simp only [this]
    · rw [updF_ne e1]
theorem newRow_ed {g : GS} {u v : Int} {x s : Nat} (hu : u ∉ g.fk) (a b : Int) : (g.newRow u v x s).ed a b = if a = u ∧ b = v then some x else g.ed a b := by
  show (if a ∈ g.fk ++ [u] ∧ b ∈ updF g.fe u [v] a then some (upd3 g.W u v x a b) else none) = _
  by_cases e : a = u ∧ b = v
  · obtain ⟨rfl, rfl⟩ := e
    rw [updF_eq, if_pos ⟨by simp, by simp⟩, if_pos ⟨rfl, rfl⟩, upd3_eq]
  · rw [show (if a = u ∧ b = v then some x else g.ed a b) = g.ed a b from if_neg e, upd3_ne e]
    unfold GS.ed
    by_cases e1 : a = u
    · subst e1
      rw [updF_eq, if_neg (fun q => e ⟨rfl, List.mem_singleton.1 q.2⟩), if_neg (fun q => hu q.1)]
    · rw [updF_ne e1]
      have : a ∈ g.fk ++ [u] ↔ a ∈ g.fk := by simp [e1]
      simp only [this]
theorem newRow_maps {g : GS} {u v : Int} {x s k : Nat} (hu : u ∉ g.fk) (h : k ∈ (g.newRow u v x s).maps) : k ∈ g.maps ∨ k = s := by
  simp only [GS.maps, GS.newRow, List.mem_cons, List.mem_append, List.mem_map] at h ⊢
  rcases h with h | h | h | h | h | ⟨a, ha, rfl⟩ | h
  · exact .inl (.inl h)
  · exact .inl (.inr (.inl h))
  · exact .inl (.inr (.inr (.inl h)))
  · exact .inl (.inr (.inr (.inr (.inl h))))
  · exact .inl (.inr (.inr (.inr (.inr (.inl h)))))
  · rcases ha with q | q
    · have e : a ≠ u := fun e => hu (e ▸ q)
      exact .inl (.inr (.inr (.inr (.inr (.inr (.inl ⟨a, q, (updF_ne e).symm⟩))))))
    · simp at q
      subst q
      exact .inr (updF_eq _ _ _)
  · exact .inl (.inr (.inr (.inr (.inr (.inr (.inr h))))))
theorem newCol_maps {g : GS} {u v : Int} {s k : Nat} (hv : v ∉ g.tk) (h : k ∈ (g.newCol u v s).maps) : k ∈ g.maps ∨ k = s := by
  simp only [GS.maps, GS.newCol, List.mem_cons, List.mem_append, List.mem_map] at h ⊢
  rcases h with h | h | h | h | h | h | ⟨a, ha, rfl⟩
  · exact .inl (.inl h)
  · exact .inl (.inr (.inl h))
  · exact .inl (.inr (.inr (.inl h)))
  · exact .inl (.inr (.inr (.inr (.inl h))))
  · exact .inl (.inr (.inr (.inr (.inr (.inl h)))))
  · exact .inl (.inr (.inr (.inr (.inr (.inr (.inl h))))))
  · rcases ha with q | q
    · have e : a ≠ v := fun e => hv (e ▸ q)
      exact .inl (.inr (.inr (.inr (.inr (.inr (.inr ⟨a, q, (updF_ne e).symm⟩))))))
    · simp at q
      subst q
      exact .inr (updF_eq _ _ _)

set_option maxHeartbeats 4000000 in
set_option maxRecDepth 100000 in
theorem setE_11 (lo : Nat) (g : GS) (u v : Int) (x : Nat) (w : World) (h : SG lo w g) (hu : u ∈ g.fk) (hv : v ∈ g.tk) (un : u ∈ g.ns) (vn : v ∈ g.ns) (huv : u ≠ v) (wu : (Lit.int .i64 u).wf = true) (wv : (Lit.int .i64 v).wf = true) (hlo : lo ≤ w.heap.size) :
    Calls Tryz.prog 65 #[.pointer (some ⟨g.gG, 0, none⟩), .iface 151 (.agg #[.iface 71 (.int .i64 u), .iface 71 (.int .i64 v), .float .f64 x])] w fun e w' => e = .returned (.tuple #[]) ∧ ∃ g', SG lo w' g' ∧ g'.gG = g.gG ∧ g'.gu = g.gu ∧ (∀ k ∈ g'.maps, k ∈ g.maps ∨ w.heap.size ≤ k) ∧ g'.ns = g.ns ∧ (∀ a b, g'.ed a b = if a = u ∧ b = v then some x else g.ed a b) ∧ GK lo w w' := by
  have m1 := meth_EFrom #[.iface 71 (.int .i64 u), .iface 71 (.int .i64 v), .float .f64 x]
  have m2 := meth_ETo #[.iface 71 (.int .i64 u), .iface 71 (.int .i64 v), .float .f64 x]
  have m3 := meth_ID u
  have m4 := meth_ID v
  have hne : (u == v) = false := by rw [beq_eq_false_iff_ne]; exact huv
  have HG := Aside0.mk h
  have HU := Aside0.mk (And.intro hu (And.intro hv (And.intro un vn)))
  clear h hu hv un vn
  go_enter Tryz.func65, Tryz.ntmps65
  go_wp2_with (first
    | (go_at_call 177; refine (eFrom_any u v x _).mono ?_; rintro e w1 ⟨rfl, hb1⟩; have H1 := Aside0.mk (And.intro (HG.out.below hb1) (GK.of_below hb1 hlo)); clear hb1)
    | (go_at_call 162; refine (nodeID_any _ _).mono ?_; rintro e w3 ⟨rfl, rfl⟩)
    | (go_at_call 179; refine (eTo_any u v x _).mono ?_; rintro e w2 ⟨rfl, hb2⟩; have lo1 : lo ≤ w1.heap.size := Nat.le_trans hlo H1.out.2.size; have S2 := Aside0.mk (And.intro (H1.out.1.below hb2) (H1.out.2.trans (GK.of_below hb2 lo1))); have lo2 : lo ≤ w2.heap.size := Nat.le_trans hlo S2.out.2.size; clear hb2 lo1
       have L6 : (Instr.lookup 142 (.map (some g.gn)) (.int .i64 u) true).run Tryz.prog w2 = .ok (.tuple #[.iface 71 (.int .i64 u), .bool true]) w2 := by
         have := S2.out.1.nodes.look_ok Tryz.underlying2 Tryz.underlying142 (zero89 w2) wu
         rw [if_pos HU.out.2.2.1, decide_eq_true HU.out.2.2.1] at this
         exact this
       obtain ⟨w3, U3, s3, k3⟩ := S2.out.1.putNode HU.out.2.2.1 wu lo2
       have S3 := Aside0.mk (And.intro s3 (S2.out.2.trans k3)); clear s3 k3
       have lo3 : lo ≤ w3.heap.size := Nat.le_trans hlo S3.out.2.size
       have c02 := S2.out.1.cells.1
       have c03 := S3.out.1.cells.1
       have L10 : (Instr.lookup 142 (.map (some g.gn)) (.int .i64 v) true).run Tryz.prog w3 = .ok (.tuple #[.iface 71 (.int .i64 v), .bool true]) w3 := by
         have := S3.out.1.nodes.look_ok Tryz.underlying2 Tryz.underlying142 (zero89 w3) wv
         rw [if_pos HU.out.2.2.2, decide_eq_true HU.out.2.2.2] at this
         exact this
       obtain ⟨w4, U4, s4, k4⟩ := S3.out.1.putNode HU.out.2.2.2 wv lo3
       have S4 := Aside0.mk (And.intro s4 (S3.out.2.trans k4)); clear s4 k4
       have lo4 : lo ≤ w4.heap.size := Nat.le_trans hlo S4.out.2.size
       have c14 := S4.out.1.cells.2.1
       have L14 : (Instr.lookup 143 (.map (some g.gf)) (.int .i64 u) true).run Tryz.prog w4 = .ok (.tuple #[.map (some (g.fb u)), .bool true]) w4 := by
         have := S4.out.1.from_.look_ok Tryz.underlying2 Tryz.underlying143 (zero152 w4) wu
         rw [if_pos HU.out.1, decide_eq_true HU.out.1] at this
         exact this
       obtain ⟨w5, U5, s5, k5⟩ := S4.out.1.putRow x HU.out.1 HU.out.2.2.2 wv lo4
       unfold eV at U5
       have S5 := Aside0.mk (And.intro s5 (S4.out.2.trans k5)); clear s5 k5
       have lo5 : lo ≤ w5.heap.size := Nat.le_trans hlo S5.out.2.size
       have c25 : w5.cell? ⟨g.gG, 2, none⟩ = some (.map (some g.gt)) := S5.out.1.cells.2.2.1
       have L18 : (Instr.lookup 143 (.map (some g.gt)) (.int .i64 v) true).run Tryz.prog w5 = .ok (.tuple #[.map (some (g.tb v)), .bool true]) w5 := by
         have := S5.out.1.to_.look_ok Tryz.underlying2 Tryz.underlying143 (zero152 w5) wv
         rw [if_pos (show v ∈ (g.setRow u v x).tk from HU.out.2.1), decide_eq_true (show v ∈ (g.setRow u v x).tk from HU.out.2.1)] at this
         exact this
       obtain ⟨w6, U6, s6, k6⟩ := S5.out.1.putCol x (show v ∈ (g.setRow u v x).tk from HU.out.2.1) HU.out.2.2.1 wu lo5
       have U6' : (Instr.mapUpdate 152 (.map (some (g.tb v))) (.int .i64 u) (.iface 151 (.agg #[.iface 71 (.int .i64 u), .iface 71 (.int .i64 v), .float .f64 x]))).run Tryz.prog w5 = .ok () w6 := U6
       clear U6
       have S6 := Aside0.mk (And.intro s6 (S5.out.2.trans k6)); clear s6 k6))
  go_end0
  refine ⟨rfl, _, S6.out.1, rfl, rfl, ?_, rfl, fun a b => ?_, S6.out.2⟩
  · intro k hk
    have z4 := S4.out.2.size
    have z5 := S5.out.2.size
    exact .inl hk
  · exact setRow_ed HU.out.1 a b

set_option maxHeartbeats 4000000 in
set_option maxRecDepth 100000 in
theorem setE_10 (lo : Nat) (g : GS) (u v : Int) (x : Nat) (w : World) (h : SG lo w g) (hu : u ∈ g.fk) (hv : v ∉ g.tk) (un : u ∈ g.ns) (vn : v ∈ g.ns) (huv : u ≠ v) (wu : (Lit.int .i64 u).wf = true) (wv : (Lit.int .i64 v).wf = true) (hlo : lo ≤ w.heap.size) :
    Calls Tryz.prog 65 #[.pointer (some ⟨g.gG, 0, none⟩), .iface 151 (.agg #[.iface 71 (.int .i64 u), .iface 71 (.int .i64 v), .float .f64 x])] w fun e w' => e = .returned (.tuple #[]) ∧ ∃ g', SG lo w' g' ∧ g'.gG = g.gG ∧ g'.gu = g.gu ∧ (∀ k ∈ g'.maps, k ∈ g.maps ∨ w.heap.size ≤ k) ∧ g'.ns = g.ns ∧ (∀ a b, g'.ed a b = if a = u ∧ b = v then some x else g.ed a b) ∧ GK lo w w' := by
  have m1 := meth_EFrom #[.iface 71 (.int .i64 u), .iface 71 (.int .i64 v), .float .f64 x]
  have m2 := meth_ETo #[.iface 71 (.int .i64 u), .iface 71 (.int .i64 v), .float .f64 x]
  have m3 := meth_ID u
  have m4 := meth_ID v
  have hne : (u == v) = false := by rw [beq_eq_false_iff_ne]; exact huv
  have hmm := @run_makeMap Tryz.prog
  have HG := Aside0.mk h
  have HU := Aside0.mk (And.intro hu (And.intro hv (And.intro un vn)))
  clear h hu hv un vn
  go_enter Tryz.func65, Tryz.ntmps65
  go_wp2_with (first
    | (go_at_call 177; refine (eFrom_any u v x _).mono ?_; rintro e w1 ⟨rfl, hb1⟩; have H1 := Aside0.mk (And.intro (HG.out.below hb1) (GK.of_below hb1 hlo)); clear hb1)
    | (go_at_call 162; refine (nodeID_any _ _).mono ?_; rintro e w3 ⟨rfl, rfl⟩)
    | (go_at_call 179; refine (eTo_any u v x _).mono ?_; rintro e w2 ⟨rfl, hb2⟩; have lo1 : lo ≤ w1.heap.size := Nat.le_trans hlo H1.out.2.size; have S2 := Aside0.mk (And.intro (H1.out.1.below hb2) (H1.out.2.trans (GK.of_below hb2 lo1))); have lo2 : lo ≤ w2.heap.size := Nat.le_trans hlo S2.out.2.size; clear hb2 lo1
       have L6 : (Instr.lookup 142 (.map (some g.gn)) (.int .i64 u) true).run Tryz.prog w2 = .ok (.tuple #[.iface 71 (.int .i64 u), .bool true]) w2 := by
         have := S2.out.1.nodes.look_ok Tryz.underlying2 Tryz.underlying142 (zero89 w2) wu
         rw [if_pos HU.out.2.2.1, decide_eq_true HU.out.2.2.1] at this
         exact this
       obtain ⟨w3, U3, s3, k3⟩ := S2.out.1.putNode HU.out.2.2.1 wu lo2
       have S3 := Aside0.mk (And.intro s3 (S2.out.2.trans k3)); clear s3 k3
       have lo3 : lo ≤ w3.heap.size := Nat.le_trans hlo S3.out.2.size
       have c02 := S2.out.1.cells.1
       have c03 := S3.out.1.cells.1
       have L10 : (Instr.lookup 142 (.map (some g.gn)) (.int .i64 v) true).run Tryz.prog w3 = .ok (.tuple #[.iface 71 (.int .i64 v), .bool true]) w3 := by
         have := S3.out.1.nodes.look_ok Tryz.underlying2 Tryz.underlying142 (zero89 w3) wv
         rw [if_pos HU.out.2.2.2, decide_eq_true HU.out.2.2.2] at this
         exact this
       obtain ⟨w4, U4, s4, k4⟩ := S3.out.1.putNode HU.out.2.2.2 wv lo3
       have S4 := Aside0.mk (And.intro s4 (S3.out.2.trans k4)); clear s4 k4
       have lo4 : lo ≤ w4.heap.size := Nat.le_trans hlo S4.out.2.size
       have c14 := S4.out.1.cells.2.1
       have L14 : (Instr.lookup 143 (.map (some g.gf)) (.int .i64 u) true).run Tryz.prog w4 = .ok (.tuple #[.map (some (g.fb u)), .bool true]) w4 := by
         have := S4.out.1.from_.look_ok Tryz.underlying2 Tryz.underlying143 (zero152 w4) wu
         rw [if_pos HU.out.1, decide_eq_true HU.out.1] at this
         exact this
       obtain ⟨w5, U5, s5, k5⟩ := S4.out.1.putRow x HU.out.1 HU.out.2.2.2 wv lo4
       unfold eV at U5
       have S5 := Aside0.mk (And.intro s5 (S4.out.2.trans k5)); clear s5 k5
       have lo5 : lo ≤ w5.heap.size := Nat.le_trans hlo S5.out.2.size
       have c25 : w5.cell? ⟨g.gG, 2, none⟩ = some (.map (some g.gt)) := S5.out.1.cells.2.2.1
       have L18 : (Instr.lookup 143 (.map (some g.gt)) (.int .i64 v) true).run Tryz.prog w5 = .ok (.tuple #[.map none, .bool false]) w5 := by
         have := S5.out.1.to_.look_ok Tryz.underlying2 Tryz.underlying143 (zero152 w5) wv
         rw [if_neg (show v ∉ (g.setRow u v x).tk from HU.out.2.1), decide_eq_false (show v ∉ (g.setRow u v x).tk from HU.out.2.1)] at this
         exact this
       obtain ⟨w6a, w6, U6a, U6, s6, k6⟩ := S5.out.1.newCol x (show v ∉ (g.setRow u v x).tk from HU.out.2.1) HU.out.2.2.1 HU.out.2.2.2 wu wv lo5
       unfold eV at U6a
       have U6' : (Instr.mapUpdate 143 (.map (some g.gt)) (.int .i64 v) (.map (some w5.heap.size))).run Tryz.prog w6a = .ok () w6 := U6
       clear U6
       have S6 := Aside0.mk (And.intro s6 (S5.out.2.trans k6)); clear s6 k6))
  go_end0
  refine ⟨rfl, _, S6.out.1, rfl, rfl, ?_, rfl, fun a b => ?_, S6.out.2⟩
  · intro k hk
    have z4 := S4.out.2.size
    have z5 := S5.out.2.size
    exact (newCol_maps (g := g.setRow u v x) HU.out.2.1 hk).imp id (fun e => by omega)
  · exact setRow_ed HU.out.1 a b

set_option maxHeartbeats 4000000 in
set_option maxRecDepth 100000 in
theorem setE_01 (lo : Nat) (g : GS) (u v : Int) (x : Nat) (w : World) (h : SG lo w g) (hu : u ∉ g.fk) (hv : v ∈ g.tk) (un : u ∈ g.ns) (vn : v ∈ g.ns) (huv : u ≠ v) (wu : (Lit.int .i64 u).wf = true) (wv : (Lit.int .i64 v).wf = true) (hlo : lo ≤ w.heap.size) :
    Calls Tryz.prog 65 #[.pointer (some ⟨g.gG, 0, none⟩), .iface 151 (.agg #[.iface 71 (.int .i64 u), .iface 71 (.int .i64 v), .float .f64 x])] w fun e w' => e = .returned (.tuple #[]) ∧ ∃ g', SG lo w' g' ∧ g'.gG = g.gG ∧ g'.gu = g.gu ∧ (∀ k ∈ g'.maps, k ∈ g.maps ∨ w.heap.size ≤ k) ∧ g'.ns = g.ns ∧ (∀ a b, g'.ed a b = if a = u ∧ b = v then some x else g.ed a b) ∧ GK lo w w' := by
  have m1 := meth_EFrom #[.iface 71 (.int .i64 u), .iface 71 (.int .i64 v), .float .f64 x]
  have m2 := meth_ETo #[.iface 71 (.int .i64 u), .iface 71 (.int .i64 v), .float .f64 x]
  have m3 := meth_ID u
  have m4 := meth_ID v
  have hne : (u == v) = false := by rw [beq_eq_false_iff_ne]; exact huv
  have hmm := @run_makeMap Tryz.prog
  have HG := Aside0.mk h
  have HU := Aside0.mk (And.intro hu (And.intro hv (And.intro un vn)))
  clear h hu hv un vn
  go_enter Tryz.func65, Tryz.ntmps65
  go_wp2_with (first
    | (go_at_call 177; refine (eFrom_any u v x _).mono ?_; rintro e w1 ⟨rfl, hb1⟩; have H1 := Aside0.mk (And.intro (HG.out.below hb1) (GK.of_below hb1 hlo)); clear hb1)
    | (go_at_call 162; refine (nodeID_any _ _).mono ?_; rintro e w3 ⟨rfl, rfl⟩)
    | (go_at_call 179; refine (eTo_any u v x _).mono ?_; rintro e w2 ⟨rfl, hb2⟩; have lo1 : lo ≤ w1.heap.size := Nat.le_trans hlo H1.out.2.size; have S2 := Aside0.mk (And.intro (H1.out.1.below hb2) (H1.out.2.trans (GK.of_below hb2 lo1))); have lo2 : lo ≤ w2.heap.size := Nat.le_trans hlo S2.out.2.size; clear hb2 lo1
       have L6 : (Instr.lookup 142 (.map (some g.gn)) (.int .i64 u) true).run Tryz.prog w2 = .ok (.tuple #[.iface 71 (.int .i64 u), .bool true]) w2 := by
         have := S2.out.1.nodes.look_ok Tryz.underlying2 Tryz.underlying142 (zero89 w2) wu
         rw [if_pos HU.out.2.2.1, decide_eq_true HU.out.2.2.1] at this
         exact this
       obtain ⟨w3, U3, s3, k3⟩ := S2.out.1.putNode HU.out.2.2.1 wu lo2
       have S3 := Aside0.mk (And.intro s3 (S2.out.2.trans k3)); clear s3 k3
       have lo3 : lo ≤ w3.heap.size := Nat.le_trans hlo S3.out.2.size
       have c02 := S2.out.1.cells.1
       have c03 := S3.out.1.cells.1
       have L10 : (Instr.lookup 142 (.map (some g.gn)) (.int .i64 v) true).run Tryz.prog w3 = .ok (.tuple #[.iface 71 (.int .i64 v), .bool true]) w3 := by
         have := S3.out.1.nodes.look_ok Tryz.underlying2 Tryz.underlying142 (zero89 w3) wv
         rw [if_pos HU.out.2.2.2, decide_eq_true HU.out.2.2.2] at this
         exact this
       obtain ⟨w4, U4, s4, k4⟩ := S3.out.1.putNode HU.out.2.2.2 wv lo3
       have S4 := Aside0.mk (And.intro s4 (S3.out.2.trans k4)); clear s4 k4
       have lo4 : lo ≤ w4.heap.size := Nat.le_trans hlo S4.out.2.size
       have c14 := S4.out.1.cells.2.1
       have L14 : (Instr.lookup 143 (.map (some g.gf)) (.int .i64 u) true).run Tryz.prog w4 = .ok (.tuple #[.map none, .bool false]) w4 := by
         have := S4.out.1.from_.look_ok Tryz.underlying2 Tryz.underlying143 (zero152 w4) wu
         rw [if_neg HU.out.1, decide_eq_false HU.out.1] at this
         exact this
       obtain ⟨w5a, w5, U5a, U5, s5, k5⟩ := S4.out.1.newRow x HU.out.1 HU.out.2.2.1 HU.out.2.2.2 wu wv lo4
       unfold eV at U5a
       have S5 := Aside0.mk (And.intro s5 (S4.out.2.trans k5)); clear s5 k5
       have lo5 : lo ≤ w5.heap.size := Nat.le_trans hlo S5.out.2.size
       have c25 : w5.cell? ⟨g.gG, 2, none⟩ = some (.map (some g.gt)) := S5.out.1.cells.2.2.1
       have L18 : (Instr.lookup 143 (.map (some g.gt)) (.int .i64 v) true).run Tryz.prog w5 = .ok (.tuple #[.map (some (g.tb v)), .bool true]) w5 := by
         have := S5.out.1.to_.look_ok Tryz.underlying2 Tryz.underlying143 (zero152 w5) wv
         rw [if_pos (show v ∈ (g.newRow u v x w4.heap.size).tk from HU.out.2.1), decide_eq_true (show v ∈ (g.newRow u v x w4.heap.size).tk from HU.out.2.1)] at this
         exact this
       obtain ⟨w6, U6, s6, k6⟩ := S5.out.1.putCol x (show v ∈ (g.newRow u v x w4.heap.size).tk from HU.out.2.1) HU.out.2.2.1 wu lo5
       have U6' : (Instr.mapUpdate 152 (.map (some (g.tb v))) (.int .i64 u) (.iface 151 (.agg #[.iface 71 (.int .i64 u), .iface 71 (.int .i64 v), .float .f64 x]))).run Tryz.prog w5 = .ok () w6 := U6
       clear U6
       have S6 := Aside0.mk (And.intro s6 (S5.out.2.trans k6)); clear s6 k6))
  go_end0
  refine ⟨rfl, _, S6.out.1, rfl, rfl, ?_, rfl, fun a b => ?_, S6.out.2⟩
  · intro k hk
    have z4 := S4.out.2.size
    have z5 := S5.out.2.size
    exact (newRow_maps (v := v) (x := x) HU.out.1 (show k ∈ (g.newRow u v x w4.heap.size).maps from hk)).imp id (fun e => by omega)
  · exact newRow_ed (s := w4.heap.size) HU.out.1 a b

set_option maxHeartbeats 4000000 in
set_option maxRecDepth 100000 in
theorem setE_00 (lo : Nat) (g : GS) (u v : Int) (x : Nat) (w : World) (h : SG lo w g) (hu : u ∉ g.fk) (hv : v ∉ g.tk) (un : u ∈ g.ns) (vn : v ∈ g.ns) (huv : u ≠ v) (wu : (Lit.int .i64 u).wf = true) (wv : (Lit.int .i64 v).wf = true) (hlo : lo ≤ w.heap.size) :
    Calls Tryz.prog 65 #[.pointer (some ⟨g.gG, 0, none⟩), .iface 151 (.agg #[.iface 71 (.int .i64 u), .iface 71 (.int .i64 v), .float .f64 x])] w fun e w' => e = .returned (.tuple #[]) ∧ ∃ g', SG lo w' g' ∧ g'.gG = g.gG ∧ g'.gu = g.gu ∧ (∀ k ∈ g'.maps, k ∈ g.maps ∨ w.heap.size ≤ k) ∧ g'.ns = g.ns ∧ (∀ a b, g'.ed a b = if a = u ∧ b = v then some x else g.ed a b) ∧ GK lo w w' := by
  have m1 := meth_EFrom #[.iface 71 (.int .i64 u), .iface 71 (.int .i64 v), .float .f64 x]
  have m2 := meth_ETo #[.iface 71 (.int .i64 u), .iface 71 (.int .i64 v), .float .f64 x]
  have m3 := meth_ID u
  have m4 := meth_ID v
  have hne : (u == v) = false := by rw [beq_eq_false_iff_ne]; exact huv
  have hmm := @run_makeMap Tryz.prog
  have HG := Aside0.mk h
  have HU := Aside0.mk (And.intro hu (And.intro hv (And.intro un vn)))
  clear h hu hv un vn
  go_enter Tryz.func65, Tryz.ntmps65
  go_wp2_with (first
    | (go_at_call 177; refine (eFrom_any u v x _).mono ?_; rintro e w1 ⟨rfl, hb1⟩; have H1 := Aside0.mk (And.intro (HG.out.below hb1) (GK.of_below hb1 hlo)); clear hb1)
    | (go_at_call 162; refine (nodeID_any _ _).mono ?_; rintro e w3 ⟨rfl, rfl⟩)
    | (go_at_call 179; refine (eTo_any u v x _).mono ?_; rintro e w2 ⟨rfl, hb2⟩; have lo1 : lo ≤ w1.heap.size := Nat.le_trans hlo H1.out.2.size; have S2 := Aside0.mk (And.intro (H1.out.1.below hb2) (H1.out.2.trans (GK.of_below hb2 lo1))); have lo2 : lo ≤ w2.heap.size := Nat.le_trans hlo S2.out.2.size; clear hb2 lo1
       have L6 : (Instr.lookup 142 (.map (some g.gn)) (.int .i64 u) true).run Tryz.prog w2 = .ok (.tuple #[.iface 71 (.int .i64 u), .bool true]) w2 := by
         have := S2.out.1.nodes.look_ok Tryz.underlying2 Tryz.underlying142 (zero89 w2) wu
         rw [if_pos HU.out.2.2.1, decide_eq_true HU.out.2.2.1] at this
         exact this
       obtain ⟨w3, U3, s3, k3⟩ := S2.out.1.putNode HU.out.2.2.1 wu lo2
       have S3 := Aside0.mk (And.intro s3 (S2.out.2.trans k3)); clear s3 k3
       have lo3 : lo ≤ w3.heap.size := Nat.le_trans hlo S3.out.2.size
       have c02 := S2.out.1.cells.1
       have c03 := S3.out.1.cells.1
       have L10 : (Instr.lookup 142 (.map (some g.gn)) (.int .i64 v) true).run Tryz.prog w3 = .ok (.tuple #[.iface 71 (.int .i64 v), .bool true]) w3 := by
         have := S3.out.1.nodes.look_ok Tryz.underlying2 Tryz.underlying142 (zero89 w3) wv
         rw [if_pos HU.out.2.2.2, decide_eq_true HU.out.2.2.2] at this
         exact this
       obtain ⟨w4, U4, s4, k4⟩ := S3.out.1.putNode HU.out.2.2.2 wv lo3
       have S4 := Aside0.mk (And.intro s4 (S3.out.2.trans k4)); clear s4 k4
       have lo4 : lo ≤ w4.heap.size := Nat.le_trans hlo S4.out.2.size
       have c14 := S4.out.1.cells.2.1
       have L14 : (Instr.lookup 143 (.map (some g.gf)) (.int .i64 u) true).run Tryz.prog w4 = .ok (.tuple #[.map none, .bool false]) w4 := by
         have := S4.out.1.from_.look_ok Tryz.underlying2 Tryz.underlying143 (zero152 w4) wu
         rw [if_neg HU.out.1, decide_eq_false HU.out.1] at this
         exact this
       obtain ⟨w5a, w5, U5a, U5, s5, k5⟩ := S4.out.1.newRow x HU.out.1 HU.out.2.2.1 HU.out.2.2.2 wu wv lo4
       unfold eV at U5a
       have S5 := Aside0.mk (And.intro s5 (S4.out.2.trans k5)); clear s5 k5
       have lo5 : lo ≤ w5.heap.size := Nat.le_trans hlo S5.out.2.size
       have c25 : w5.cell? ⟨g.gG, 2, none⟩ = some (.map (some g.gt)) := S5.out.1.cells.2.2.1
       have L18 : (Instr.lookup 143 (.map (some g.gt)) (.int .i64 v) true).run Tryz.prog w5 = .ok (.tuple #[.map none, .bool false]) w5 := by
         have := S5.out.1.to_.look_ok Tryz.underlying2 Tryz.underlying143 (zero152 w5) wv
         rw [if_neg (show v ∉ (g.newRow u v x w4.heap.size).tk from HU.out.2.1), decide_eq_false (show v ∉ (g.newRow u v x w4.heap.size).tk from HU.out.2.1)] at this
         exact this
       obtain ⟨w6a, w6, U6a, U6, s6, k6⟩ := S5.out.1.newCol x (show v ∉ (g.newRow u v x w4.heap.size).tk from HU.out.2.1) HU.out.2.2.1 HU.out.2.2.2 wu wv lo5
       unfold eV at U6a
       have U6' : (Instr.mapUpdate 143 (.map (some g.gt)) (.int .i64 v) (.map (some w5.heap.size))).run Tryz.prog w6a = .ok () w6 := U6
       clear U6
       have S6 := Aside0.mk (And.intro s6 (S5.out.2.trans k6)); clear s6 k6))
  go_end0
  refine ⟨rfl, _, S6.out.1, rfl, rfl, ?_, rfl, fun a b => ?_, S6.out.2⟩
  · intro k hk
    have z4 := S4.out.2.size
    have z5 := S5.out.2.size
    exact (newCol_maps (g := g.newRow u v x w4.heap.size) HU.out.2.1 hk).elim (fun q => (newRow_maps (v := v) (x := x) HU.out.1 q).imp id (fun e => by omega)) (fun e => .inr (by omega))
  · exact newRow_ed (s := w4.heap.size) HU.out.1 a b

theorem setE_any (lo : Nat) (g : GS) (u v : Int) (x : Nat) (w : World) (h : SG lo w g) (un : u ∈ g.ns) (vn : v ∈ g.ns) (huv : u ≠ v) (wu : (Lit.int .i64 u).wf = true) (wv : (Lit.int .i64 v).wf = true) (hlo : lo ≤ w.heap.size) :
    Calls Tryz.prog 65 #[.pointer (some ⟨g.gG, 0, none⟩), eV u v x] w fun e w' => e = .returned (.tuple #[]) ∧ ∃ g', SG lo w' g' ∧ g'.gG = g.gG ∧ g'.gu = g.gu ∧ (∀ k ∈ g'.maps, k ∈ g.maps ∨ w.heap.size ≤ k) ∧ g'.ns = g.ns ∧ (∀ a b, g'.ed a b = if a = u ∧ b = v then some x else g.ed a b) ∧ GK lo w w' := by
  by_cases hu : u ∈ g.fk <;> by_cases hv : v ∈ g.tk
  · exact setE_11 lo g u v x w h hu hv un vn huv wu wv hlo
  · exact setE_10 lo g u v x w h hu hv un vn huv wu wv hlo
  · exact setE_01 lo g u v x w h hu hv un vn huv wu wv hlo
  · exact setE_00 lo g u v x w h hu hv un vn huv wu wv hlo
end Go.Proofs.YthkmblgehdofmaaGreat.R

/- A region that draws its order and stores, last of all, over what it read: what is held till then is no longer asked for behind that store. -/
namespace Go.Proofs.YthkmblgehdofmaaGreat.R
section
variable {P : Program} {ops : Array Oper} {Q : Exit → Act → World → Prop} {md : Region.Mode} {S : World → Prop} {z : Nat}

/-- whatever comes up next, till number z has come up S holds -/
def heldTill (P : Program) (md : Region.Mode) (ops : Array Oper) (Q : Exit → Act → World → Prop) (S : World → Prop) (z : Nat) : Nat → Array Bool → Act → World → Prop
  | 0, ls, a, w => Region.ready md ops ls = [] ∧ Q .normal a w
  | n + 1, ls, a, w => (Region.ready md ops ls = [] → Q .normal a w) ∧
    ∀ i ∈ Region.ready md ops ls, wpOp P ops Q i (fun a' w' => (i ≠ z → S w') ∧ heldTill P md ops Q S z n (ls.setIfInBounds i true) a' w') a w
theorem heldTill.any : ∀ (n : Nat) (ls : Array Bool) (a : Act) (w : World), heldTill P md ops Q S z n ls a w → wpAny P md ops Q n ls a w
  | 0, _, _, _, h => h
  | n + 1, _, _, _, h => ⟨h.1, fun i hi => wpOp_mono (fun a' w' h' => heldTill.any n _ a' w' h'.2) (h.2 i hi)⟩
/-- number z waits for number i -/
def waitsFor (md : Region.Mode) (ops : Array Oper) (z i : Nat) : Bool := ((ops[z]?).map fun o => o.after.any fun e => Region.binds md e && e.on == i).getD false
theorem waits_ne {i j : Nat} {ls : Array Bool} (hw : waitsFor md ops z i = true) (hi : i ∈ Region.ready md ops ls) (hj : j ∈ Region.ready md ops ls) : j ≠ z := fun e => by
  subst e
  obtain ⟨_, o, ho, hall⟩ := mem_ready.1 hj
  unfold waitsFor at hw
  rw [ho] at hw
  simp only [Option.map_some, Option.getD_some] at hw
  obtain ⟨d, hd, hb⟩ := Array.any_eq_true'.1 hw
  rw [Bool.and_eq_true, beq_iff_eq] at hb
  have h1 := hall d hd hb.1
  rw [hb.2] at h1
  have h0 := (mem_ready.1 hi).1
  rcases Nat.lt_or_ge i ls.size with h' | h'
  · simp [h'] at h0 h1; rw [h0] at h1; cases h1
  · simp [Array.getElem?_eq_none h'] at h1
theorem heldTill.first {i : Nat} {oi : Oper} {v : Value} (hi : ops[i]? = some oi) (hsel : ∀ (j : Nat) (o : Oper) cs b, ops[j]? = some o → o.op ≠ .select cs b)
    (hz : waitsFor md ops z i = true) (hQ : ∀ c a w, Q (.panic c) (a.put oi.dst v) w → Q (.panic c) a w) :
    ∀ (n : Nat) (ls : Array Bool) (a : Act) (w : World),
      (∀ j oj, ops[j]? = some oj → j ≠ i → ls.getD j true = false → (∀ e ∈ oj.after, Region.binds md e = true → e.on ≠ i) → oi.apart ops oj = true) →
      i ∈ Region.ready md ops ls → YieldsIf P ops S oi v a → S w →
      heldTill P md ops Q S z n (ls.setIfInBounds i true) (a.put oi.dst v) w → heldTill P md ops Q S z (n + 1) ls a w := by
  intro n
  induction n with
  | zero =>
    intro ls a w _ hr hy hS H
    refine ⟨fun h => (by rw [h] at hr; cases hr), fun j hj => ?_⟩
    by_cases e : j = i
    · subst e; exact hy.wpOp hi hS ⟨fun _ => hS, H⟩
    · have h1 := ready_mono hj e
      rw [H.1] at h1
      cases h1
  | succ n ih =>
    intro ls a w hfree hr hy hS H
    refine ⟨fun h => (by rw [h] at hr; cases hr), fun j hj => ?_⟩
    by_cases e : j = i
    · subst e; exact hy.wpOp hi hS ⟨fun _ => hS, H⟩
    · have hjz : j ≠ z := waits_ne hz hr hj
      obtain ⟨hun, oj, hoj, hall⟩ := mem_ready.1 hj
      have hno : ∀ d ∈ oj.after, Region.binds md d = true → d.on ≠ i := fun d hd hb heq => by
        have h1 := hall d hd hb
        have h0 := (mem_ready.1 hr).1
        rw [heq] at h1
        rcases Nat.lt_or_ge i ls.size with h' | h'
        · simp [h'] at h0 h1; rw [h0] at h1; cases h1
        · simp [Array.getElem?_eq_none h'] at h1
      have h2 := wpOp_putIf hoj (hfree j oj hoj e hun hno) (fun cs b => hsel i oi cs b hi) (fun cs b => hsel j oj cs b hoj) hQ hy (H.2 j (ready_mono hj e))
      refine wpOp_mono (fun a' w' h3 => ⟨h3.2.1, ih (ls.setIfInBounds j true) a' w' (fun k ok hk hki hkn hkw => hfree k ok hk hki (by
        by_cases e2 : j = k
        · subst e2; exact hun
        · rw [getD_set_ne true e2] at hkn; exact hkn) hkw) (ready_mono hr (Ne.symm e)) h3.1 (h3.2.1 hjz) ?_⟩) h2
      rw [Array.setIfInBounds_comm _ _ e]
      exact h3.2.2
theorem heldTill.take {i : Nat} {oi : Oper} {v : Value} {n : Nat} {ls : Array Bool} {a : Act} {w : World} (hi : ops[i]? = some oi)
    (hs : Region.noSelect ops = true) (hz : waitsFor md ops z i = true) (hf : Region.free md ops ls i = true) (hr : (Region.ready md ops ls).contains i = true)
    (hQ : ∀ c a w, Q (.panic c) (a.put oi.dst v) w → Q (.panic c) a w) (hy : YieldsIf P ops S oi v a) (hS : S w)
    (h : heldTill P md ops Q S z n (ls.setIfInBounds i true) (a.put oi.dst v) w) : heldTill P md ops Q S z (n + 1) ls a w :=
  heldTill.first hi (Region.noSelect_spec hs) hz hQ n ls a w (Region.free_spec hi hf) (by simpa using hr) hy hS h
/-- number z itself -/
theorem heldTill.last {o : Oper} {n : Nat} {ls : Array Bool} {a : Act} {w : World} (hr : Region.ready md ops ls = [z]) (ho : ops[z]? = some o)
    (h : ∀ K' : Act → World → Prop, Shut (∀ a w, heldTill P md ops Q S z n (ls.setIfInBounds z true) a w → K' a w) → if Region.wanted o (yielded ops a.tmps) = true then Oper.wp P o a w K' Q else K' (a.put o.dst undef) w) :
    heldTill P md ops Q S z (n + 1) ls a w := by
  refine ⟨fun h0 => (by rw [hr] at h0; cases h0), fun j hj => ?_⟩
  rw [hr, List.mem_singleton] at hj
  subst hj
  exact wpOp_step ho fun K' hK => h K' fun a w hh => hK a w ⟨fun e => absurd rfl e, hh⟩
theorem heldTill.done {ls : Array Bool} {a : Act} {w : World} (hr : Region.ready md ops ls = []) (h : Q .normal a w) : ∀ n, heldTill P md ops Q S z n ls a w
  | 0 => ⟨hr, h⟩
  | _ + 1 => ⟨fun _ => h, by rw [hr]; simp⟩
theorem heldTill.region (z : Nat) (S : World → Prop) {id : Nat} {a : Act} {w : World} (hm : P.follows .mixedOrders = true) (hS : S w.drew)
    (h : S w.drew → heldTill P .any ops Q S z ops.size (Array.replicate ops.size false) a w.drew) : (Code.region id ops true).wp P Q a w :=
  wp_region_any hm (heldTill.any _ _ _ _ (h hS))

/-- .. and from number z on nothing is asked for -/
def heldTo (P : Program) (md : Region.Mode) (ops : Array Oper) (Q : Exit → Act → World → Prop) (S : World → Prop) (z : Nat) : Nat → Array Bool → Act → World → Prop
  | 0, ls, a, w => Region.ready md ops ls = [] ∧ Q .normal a w
  | n + 1, ls, a, w => (Region.ready md ops ls = [] → Q .normal a w) ∧
    ∀ i ∈ Region.ready md ops ls, wpOp P ops Q i (fun a' w' => (i = z → wpAny P md ops Q n (ls.setIfInBounds i true) a' w') ∧ (i ≠ z → S w' ∧ heldTo P md ops Q S z n (ls.setIfInBounds i true) a' w')) a w
theorem heldTo.any : ∀ (n : Nat) (ls : Array Bool) (a : Act) (w : World), heldTo P md ops Q S z n ls a w → wpAny P md ops Q n ls a w
  | 0, _, _, _, h => h
  | n + 1, _, _, _, h => ⟨h.1, fun i hi => wpOp_mono (fun a' w' h' => by
      by_cases e : i = z
      · exact h'.1 e
      · exact heldTo.any n _ a' w' (h'.2 e).2) (h.2 i hi)⟩
theorem heldTo.first {i : Nat} {oi : Oper} {v : Value} (hi : ops[i]? = some oi) (hsel : ∀ (j : Nat) (o : Oper) cs b, ops[j]? = some o → o.op ≠ .select cs b)
    (hiz : i ≠ z) (hz : waitsFor md ops z i = true) (hQ : ∀ c a w, Q (.panic c) (a.put oi.dst v) w → Q (.panic c) a w) :
    ∀ (n : Nat) (ls : Array Bool) (a : Act) (w : World),
      (∀ j oj, ops[j]? = some oj → j ≠ i → ls.getD j true = false → (∀ e ∈ oj.after, Region.binds md e = true → e.on ≠ i) → oi.apart ops oj = true) →
      i ∈ Region.ready md ops ls → YieldsIf P ops S oi v a → S w →
      heldTo P md ops Q S z n (ls.setIfInBounds i true) (a.put oi.dst v) w → heldTo P md ops Q S z (n + 1) ls a w := by
  intro n
  induction n with
  | zero =>
    intro ls a w _ hr hy hS H
    refine ⟨fun h => (by rw [h] at hr; cases hr), fun j hj => ?_⟩
    by_cases e : j = i
    · subst e; exact hy.wpOp hi hS ⟨fun q => absurd q hiz, fun _ => ⟨hS, H⟩⟩
    · have h1 := ready_mono hj e
      rw [H.1] at h1
      cases h1
  | succ n ih =>
    intro ls a w hfree hr hy hS H
    refine ⟨fun h => (by rw [h] at hr; cases hr), fun j hj => ?_⟩
    by_cases e : j = i
    · subst e; exact hy.wpOp hi hS ⟨fun q => absurd q hiz, fun _ => ⟨hS, H⟩⟩
    · have hjz : j ≠ z := waits_ne hz hr hj
      obtain ⟨hun, oj, hoj, hall⟩ := mem_ready.1 hj
      have hno : ∀ d ∈ oj.after, Region.binds md d = true → d.on ≠ i := fun d hd hb heq => by
        have h1 := hall d hd hb
        have h0 := (mem_ready.1 hr).1
        rw [heq] at h1
        rcases Nat.lt_or_ge i ls.size with h' | h'
        · simp [h'] at h0 h1; rw [h0] at h1; cases h1
        · simp [Array.getElem?_eq_none h'] at h1
      have h2 := wpOp_putIf hoj (hfree j oj hoj e hun hno) (fun cs b => hsel i oi cs b hi) (fun cs b => hsel j oj cs b hoj) hQ hy (H.2 j (ready_mono hj e))
      refine wpOp_mono (fun a' w' h3 => ⟨fun q => absurd q hjz, fun _ => ⟨(h3.2.2 hjz).1, ih (ls.setIfInBounds j true) a' w' (fun k ok hk hki hkn hkw => hfree k ok hk hki (by
        by_cases e2 : j = k
        · subst e2; exact hun
        · rw [getD_set_ne true e2] at hkn; exact hkn) hkw) (ready_mono hr (Ne.symm e)) h3.1 (h3.2.2 hjz).1 ?_⟩⟩) h2
      rw [Array.setIfInBounds_comm _ _ e]
      exact (h3.2.2 hjz).2
theorem heldTo.take {i : Nat} {oi : Oper} {v : Value} {n : Nat} {ls : Array Bool} {a : Act} {w : World} (d : Option Tmp) (hi : ops[i]? = some oi) (hd : oi.dst = d)
    (hs : Region.noSelect ops = true) (hiz : i ≠ z) (hz : waitsFor md ops z i = true) (hf : Region.free md ops ls i = true) (hr : (Region.ready md ops ls).contains i = true)
    (hQ : ∀ c a w, Q (.panic c) (a.put oi.dst v) w → Q (.panic c) a w) (hy : YieldsIf P ops S oi v a) (hS : S w)
    (h : heldTo P md ops Q S z n (ls.setIfInBounds i true) (a.put d v) w) : heldTo P md ops Q S z (n + 1) ls a w :=
  heldTo.first hi (Region.noSelect_spec hs) hiz hz hQ n ls a w (Region.free_spec hi hf) (by simpa using hr) hy hS (hd ▸ h)
/-- number z comes up, alone -/
theorem heldTo.turn {o : Oper} {n : Nat} {ls : Array Bool} {a : Act} {w : World} (hr : Region.ready md ops ls = [z]) (ho : ops[z]? = some o)
    (h : ∀ K' : Act → World → Prop, Shut (∀ a w, wpAny P md ops Q n (ls.setIfInBounds z true) a w → K' a w) → if Region.wanted o (yielded ops a.tmps) = true then Oper.wp P o a w K' Q else K' (a.put o.dst undef) w) :
    heldTo P md ops Q S z (n + 1) ls a w := by
  refine ⟨fun h0 => (by rw [hr] at h0; cases h0), fun j hj => ?_⟩
  rw [hr, List.mem_singleton] at hj
  subst hj
  exact wpOp_step ho fun K' hK => h K' fun a w hh => hK a w ⟨fun _ => hh, fun e => absurd rfl e⟩
theorem heldTo.region (z : Nat) (S : World → Prop) {id : Nat} {a : Act} {w : World} (hm : P.follows .mixedOrders = true) (hS : S w.drew)
    (h : S w.drew → heldTo P .any ops Q S z ops.size (Array.replicate ops.size false) a w.drew) : (Code.region id ops true).wp P Q a w :=
  wp_region_any hm (heldTo.any _ _ _ _ (h hS))
/-- what comes up alone -/
theorem anyStep {i : Nat} {o : Oper} {n : Nat} {ls : Array Bool} {a : Act} {w : World} (hr : Region.ready md ops ls = [i]) (ho : ops[i]? = some o)
    (h : ∀ K' : Act → World → Prop, Shut (∀ a w, wpAny P md ops Q n (ls.setIfInBounds i true) a w → K' a w) → if Region.wanted o (yielded ops a.tmps) = true then Oper.wp P o a w K' Q else K' (a.put o.dst undef) w) :
    wpAny P md ops Q (n + 1) ls a w := by
  refine ⟨fun h0 => (by rw [hr] at h0; cases h0), fun j hj => ?_⟩
  rw [hr, List.mem_singleton] at hj
  subst hj
  exact wpOp_step ho fun K' hK => h K' fun a w hh => hK a w hh
theorem anyDone {ls : Array Bool} {a : Act} {w : World} (hr : Region.ready md ops ls = []) (h : Q .normal a w) : ∀ n, wpAny P md ops Q n ls a w
  | 0 => ⟨hr, h⟩
  | _ + 1 => ⟨fun _ => h, by rw [hr]; simp⟩
end
end Go.Proofs.YthkmblgehdofmaaGreat.R

/- In a region that draws its order: what comes up alone and turns the world; an append there. -/
namespace Go.Proofs.YthkmblgehdofmaaGreat.R
open Go.Maps
section
variable {P : Program} {ops : Array Oper} {Q : Exit → Act → World → Prop} {md : Region.Mode} {S : World → Prop} {z : Nat}
theorem heldTo.step {i : Nat} {o : Oper} {n : Nat} {ls : Array Bool} {a : Act} {w : World} (hiz : i ≠ z) (hr : Region.ready md ops ls = [i]) (ho : ops[i]? = some o)
    (h : ∀ K' : Act → World → Prop, Shut (∀ a w, S w → heldTo P md ops Q S z n (ls.setIfInBounds i true) a w → K' a w) → if Region.wanted o (yielded ops a.tmps) = true then Oper.wp P o a w K' Q else K' (a.put o.dst undef) w) :
    heldTo P md ops Q S z (n + 1) ls a w := by
  refine ⟨fun h0 => (by rw [hr] at h0; cases h0), fun j hj => ?_⟩
  rw [hr, List.mem_singleton] at hj
  subst hj
  exact wpOp_step ho fun K' hK => h K' fun a w hS hh => hK a w ⟨fun q => absurd q hiz, fun _ => ⟨hS, hh⟩⟩
theorem operWp_append {o : Oper} {a : Act} {w : World} {K : Act → World → Prop} (s x : Operand) (t : TypeId)
    (ho : o.op = .call { callee := .builtin .append, args := #[s, x], argTypes := #[t, t] })
    (base : Nat) (e : TypeId) (i : TypeInfo) (z : Value) (size bytes : Nat) (ht : P.underlying t = some (.slice e)) (hi : P.info? e = some i) (hz : i.zero = some z)
    (hsize : i.size = size) (hby : i.bytes = bytes) (hzs : z.cells.size = size) (hsz : 0 < size)
    (v : Value) (n : Nat) (xs : List Value) (hs : a.eval s = v) (hown : w.ownsRow base e size v n xs)
    (ad : Addr) (m c : Nat) (news : List Value) (hx : a.eval x = .slice (some ad) m c) (hl : news.length = m * size) (hnews : ∀ j u, news[j]? = some u → w.cell? (ad.add j) = some u) (h1 : ∀ u ∈ news, u.oneCell' = true)
    (h63 : n + m ≤ maxLen) (hbytes : (n + m) * bytes ≤ 140737488355328) (hbase : base ≤ w.heap.size)
    (h : ∀ v' w', w'.ownsRow base e size v' (n + m) (xs ++ news) → w.grownBy w' v.ownBlock → (v' = .slice none 0 0 ↔ v = .slice none 0 0 ∧ m = 0) → (v'.ownBlock = v.ownBlock ∨ v'.ownBlock = some w.heap.size) → K (a.put o.dst v') w') :
    Oper.wp P o a w K Q := by
  obtain ⟨v', w', hr, h2, h3, h4, h5⟩ := run_append_own_at (P := P) w base t o.type e i z size bytes ht hi hz hsize hby hzs hsz v n xs hown ad m c news hl hnews h1 h63 hbytes hbase
  unfold Oper.wp execOp
  simp only [ho, resolve, invoke, builtin, Sem.run_bind, Sem.run_pure, Result.andThen_ok, List.map_toArray, List.map_cons, List.map_nil, hs, hx, hr]
  exact h v' w' h2 h3 h4 h5
end
end Go.Proofs.YthkmblgehdofmaaGreat.R

/- The iterator of the nodes to which edges lead. (Printed by wip/r6/sg9.py.) -/
namespace Go.Proofs.YthkmblgehdofmaaGreat.R
open Go.RowKit Go.Lab Go.Maps Go.MV Go.Proofs.YthkmblgehdofmaaGreatW.PrintWords Go.Proofs.YthkmblgehdofmaaGreatW.PrintLast Go.Proofs.YthkmblgehdofmaaGreatW.PrintMore
/-- an iterator of either kind: at place k of xs -/
structure MIt (T : TypeId) (lo : Nat) (w : World) (b : Nat) (xs : List Int) (k : Nat) : Prop where
  ex : ∃ (A : Option Addr) (c : Nat) (cur : Value), w.heap[b]? = some (.cells #[.slice A xs.length c, .int .i64 (k : Int), cur] T (0, 0)) ∧ w.ownsRow lo 89 1 (.slice A xs.length c) xs.length (nodeVs xs) ∧ (∀ j (h : j < xs.length), k = j + 1 → cur = .iface 71 (.int .i64 xs[j]))
  lo_ : lo ≤ b

/-- the state of the loop that lays down the keys of a map -/
structure NL (w : World) (b : Nat) (ks : List Int) (f : Int → Value) (r : Nat) (wr : World) (done : List Int) (n : Nat) : Prop where
  mr : MapR Tryz.prog 2 wr b r ks f done n
  ex : ∃ (A : Option Addr) (c : Nat), wr.heap[w.heap.size + 1]? = some (.cells #[.slice A done.length c, .int .i64 0, .nilIface] 179 (0, 0)) ∧ wr.ownsRow w.heap.size 89 1 (.slice A done.length c) done.length (nodeVs done)
  old : Below w.heap.size w wr
set_option maxHeartbeats 4000000 in
set_option maxRecDepth 100000 in
theorem newNE_any (gn b : Nat) (ns ks : List Int) (f : Int → Value) (w : World) (hN : MapV Tryz.prog 2 w gn ns nV) (hE : MapV Tryz.prog 2 w b ks f) (hs : ∀ x ∈ ks, x ∈ ns) (hl : ks.length ≤ 1000) :
    Calls Tryz.prog 96 #[.map (some gn), .map (some b)] w fun e w' => ∃ it xs, e = .returned (.pointer (some ⟨it, 0, none⟩)) ∧ MIt 179 w.heap.size w' it xs 0 ∧ xs.Perm ks ∧ Below w.heap.size w w' := by
  have hlen := fun ty => hE.len Tryz.underlying152 ty
  have hmk := make_nodes ks.length hl
  have hu := Tryz.underlying179
  have HM := Aside0.mk (And.intro hN (And.intro hE hs))
  have hE2 : ∀ o1 o2, MapV Tryz.prog 2 ((w.alloc o1).alloc o2) b ks f := fun o1 o2 => hE.stay (by rw [Below.heap_alloc _ _ _ (by have := hE.lt; simp; omega), Below.heap_alloc _ _ _ hE.lt])
  clear hN hE hs
  go_enter Tryz.func96, Tryz.ntmps96
  go_wp2_with (first
    | (at_range; refine wpList_range_mapV Tryz.underlying2 rfl _ rfl Tryz.underlying152 rfl (hE2 _ _) ?_; intro w0 hr0 hg0 hs0; have H0 := Aside0.mk (And.intro hr0 (And.intro hg0 hs0)); clear hr0 hg0 hs0))
  go_frame
  have e2 : ∀ o1 o2, ((w.alloc o1).alloc o2).heap.size = w.heap.size + 2 := fun o1 o2 => by simp
  rw [e2] at H0 ⊢
  have HN0 := Aside0.mk (show NL w b ks f (w.heap.size + 2) w0 [] ks.length from ⟨H0.out.1, ⟨some ⟨w.heap.size, 0, none⟩, ks.length, by
      rw [H0.out.2.1.block _ (by simp) (by simp)]
      have : (w.alloc (.cells (madeCells #[.nilIface] ks.length) 89)).heap.size = w.heap.size + 1 := by simp
      rw [← this]; exact heap_alloc_new _ _, by
      have h1 := World.ownsRow_made (e := 89) w (madeCells #[.nilIface] ks.length) ks.length (Nat.le_refl _) (by unfold maxLen; omega) (by rw [size_madeCells, Nat.mul_one])
      exact own_of_heap h1 fun q hq => by
        simp [Value.ownBlock] at hq
        subst hq
        rw [H0.out.2.1.block _ (by simp; omega) (by simp), Below.heap_alloc _ _ _ (by simp)]⟩, (((Below.refl _ _).alloc (Nat.le_refl _) _).alloc (by simp) _).grown H0.out.2.1 (by simp; omega) (fun k hk => by cases hk)⟩)
  clear hE2 hlen hmk
  go_loopw [6] (fun _ wr => ∃ done n, Aside0 (NL w b ks f (w.heap.size + 2) wr done n)) (fun _ wr => wr.rangeLeft b (w.heap.size + 2))
  case atStart => exact ⟨_, _, HN0⟩
  case round =>
    clear HN0 H0
    obtain ⟨done, n, hrel⟩ := hrel
    have hmr := hrel.out.mr
    have hle := hmr.left_eq
    have hdl : done.length ≤ 1000 := Nat.le_trans (nodup_len hmr.dn hmr.sub) hl
    go_wp2_with (first
      | (at_next; refine wpList_next_mapV Tryz.underlying2 rfl _ rfl rfl hmr ?_ ?_))
    · intro hp
      have HP := Aside0.mk hp
      clear hp hmr
      go_wp2
      go_ret
      obtain ⟨A, c, hb, ho⟩ := hrel.out.ex
      exact ⟨_, done, rfl, ⟨⟨A, c, _, hb, ho, fun j h e => by cases e⟩, by omega⟩, HP.out, hrel.out.old⟩
    · intro x w1 n' hxk hxd wx hmr1 hlt hg1 hs1 hen
      obtain ⟨A, c, hb, ho⟩ := hrel.out.ex
      have hrr := hmr.lt
      have hs0 := hrel.out.old.size
      have hb1 : w1.heap[w.heap.size + 1]? = some (.cells #[.slice A done.length c, .int .i64 0, .nilIface] 179 (0, 0)) := (hg1.block _ (blk_lt hb) (fun e => by have := Option.some.inj e; omega)).trans hb
      have ho1 := own_of_heap ho fun q hq => by
        obtain ⟨cc, hcc⟩ := own_block ho hq
        exact hg1.block q (blk_lt hcc) (fun e => hmr.cells_ne hcc (Option.some.inj e))
      have hold1 : Below w.heap.size w w1 := hrel.out.old.grown hg1 hs0 (fun k e => by have := Option.some.inj e; omega)
      have hN1 := HM.out.1.stay (hold1.block gn HM.out.1.lt)
      have c0 : w1.cell? ⟨w.heap.size + 1, 0, none⟩ = some (.slice A done.length c) := (blk_cell hb1 0).trans rfl
      have hxn := HM.out.2.2 x hxk
      have HR1 := Aside0.mk (And.intro hmr1 (And.intro hb1 (And.intro ho1 (And.intro hold1 (And.intro hN1 (And.intro hs1 hlt))))))
      have HMR := Aside0.mk hmr
      obtain ⟨i0, hi, hz0, hz1, hz2⟩ := info_parts Tryz.info89
      have HI := Aside0.mk (And.intro hi (And.intro hz0 (And.intro hz1 hz2)))
      clear hmr hb ho hmr1 hb1 ho1 hold1 hg1 hlt hs1 hi hz0 hz1 hz2
      go_wp2_with fail
      refine heldTo.region 10 (fun w' => w'.cell? ⟨w.heap.size + 1, 0, none⟩ = some (.slice A done.length c) ∧ MapV Tryz.prog 2 w' gn ns nV) (by kernel_rfl) ⟨by simpa using c0, hN1.stay rfl⟩ (fun hHeld => ?_)
      refine heldTo.take (some 18) (i := 0) (oi := _) (v := ?_) rfl rfl (by kernel_rfl) (by decide) (by kernel_rfl) (by kernel_rfl) (by kernel_rfl) (fun _ _ _ h => h) (Or.inl ⟨by rfl, ?_⟩) (by assumption) ?_
      rotate_left
      · intro w' hSw; (try dsimp only at hSw); go_simp; with_reducible rfl
      (try dsimp only); try simp only [Act.put, List.setIfInBounds_toArray, List.set_cons_zero, List.set_cons_succ]
      refine heldTo.take (some 19) (i := 1) (oi := _) (v := ?_) rfl rfl (by kernel_rfl) (by decide) (by kernel_rfl) (by kernel_rfl) (by kernel_rfl) (fun _ _ _ h => h) (Or.inl ⟨by rfl, ?_⟩) (by assumption) ?_
      rotate_left
      · intro w' hSw; (try dsimp only at hSw); go_simp; with_reducible rfl
      (try dsimp only); try simp only [Act.put, List.setIfInBounds_toArray, List.set_cons_zero, List.set_cons_succ]
      refine heldTo.take (some 20) (i := 2) (oi := _) (v := ?_) rfl rfl (by kernel_rfl) (by decide) (by kernel_rfl) (by kernel_rfl) (by kernel_rfl) (fun _ _ _ h => h) (Or.inl ⟨by rfl, ?_⟩) (by assumption) ?_
      rotate_left
      · intro w' hSw; (try dsimp only at hSw); go_simp; with_reducible rfl
      (try dsimp only); try simp only [Act.put, List.setIfInBounds_toArray, List.set_cons_zero, List.set_cons_succ]
      refine heldTo.take (some 21) (i := 3) (oi := _) (v := ?_) rfl rfl (by kernel_rfl) (by decide) (by kernel_rfl) (by kernel_rfl) (by kernel_rfl) (fun _ _ _ h => h) (Or.inl ⟨by rfl, ?_⟩) (by assumption) ?_
      rotate_left
      · intro w' hSw; (try dsimp only at hSw); go_simp; with_reducible rfl
      (try dsimp only); try simp only [Act.put, List.setIfInBounds_toArray, List.set_cons_zero, List.set_cons_succ]
      refine heldTo.take (some 22) (i := 4) (oi := _) (v := ?_) rfl rfl (by kernel_rfl) (by decide) (by kernel_rfl) (by kernel_rfl) (by kernel_rfl) (fun _ _ _ h => h) (Or.inl ⟨by rfl, ?_⟩) (by assumption) ?_
      rotate_left
      · intro w' hSw; (try dsimp only at hSw); obtain ⟨hSw, hSm⟩ := hSw; go_simp; with_reducible rfl
      (try dsimp only); try simp only [Act.put, List.setIfInBounds_toArray, List.set_cons_zero, List.set_cons_succ]
      refine heldTo.take (some 23) (i := 5) (oi := _) (v := ?_) rfl rfl (by kernel_rfl) (by decide) (by kernel_rfl) (by kernel_rfl) (by kernel_rfl) (fun _ _ _ h => h) (Or.inl ⟨by rfl, ?_⟩) (by assumption) ?_
      rotate_left
      · intro w' hSw; (try dsimp only at hSw); go_simp; with_reducible rfl
      (try dsimp only); try simp only [Act.put, List.setIfInBounds_toArray, List.set_cons_zero, List.set_cons_succ]
      refine heldTo.take (some 24) (i := 6) (oi := _) (v := ?_) rfl rfl (by kernel_rfl) (by decide) (by kernel_rfl) (by kernel_rfl) (by kernel_rfl) (fun _ _ _ h => h) (Or.inl ⟨by rfl, ?_⟩) (by assumption) ?_
      rotate_left
      · intro w' hSw; (try dsimp only at hSw); go_simp; with_reducible rfl
      (try dsimp only); try simp only [Act.put, List.setIfInBounds_toArray, List.set_cons_zero, List.set_cons_succ]
      refine heldTo.take (some 25) (i := 7) (oi := _) (v := ?_) rfl rfl (by kernel_rfl) (by decide) (by kernel_rfl) (by kernel_rfl) (by kernel_rfl) (fun _ _ _ h => h) (Or.inl ⟨by rfl, ?_⟩) (by assumption) ?_
      rotate_left
      · intro w' hSw; (try dsimp only at hSw); obtain ⟨hSw, hSm⟩ := hSw; have L := hSm.look Tryz.underlying2 Tryz.underlying142 (zero89 w') wx; rw [if_pos hxn] at L; have L' : (Instr.lookup 142 (.map (some gn)) (.int .i64 x) false).run Tryz.prog w' = .ok (.iface 71 (.int .i64 x)) w' := L; clear L hSm; go_simp; with_reducible rfl
      (try dsimp only); try simp only [Act.put, List.setIfInBounds_toArray, List.set_cons_zero, List.set_cons_succ]
      refine heldTo.step (i := 8) (by decide) (by kernel_rfl) rfl (fun K hK => ?_)
      go_simp
      refine hK.out _ _ ⟨(blk_cell ((Below.heap_alloc _ _ _ (blk_lt HR1.out.2.1)).trans HR1.out.2.1) 0).trans rfl, HR1.out.2.2.2.2.1.stay (Below.heap_alloc _ _ _ HR1.out.2.2.2.2.1.lt)⟩ ?_
      (try dsimp only); try simp only [Act.put, List.setIfInBounds_toArray, List.set_cons_zero, List.set_cons_succ]
      clear hK K
      refine heldTo.step (i := 9) (by decide) (by kernel_rfl) rfl (fun K hK => ?_)
      rw [if_pos (by rfl)]
      refine operWp_append (.tmp 22) (.tmp 26) 119 rfl w.heap.size 89 i0 .nilIface 1 16 Tryz.underlying119 HI.out.1 HI.out.2.1 HI.out.2.2.1 HI.out.2.2.2 rfl (by decide) _ done.length (nodeVs done) rfl (World.ownsRow.alloc (own_of_heap HR1.out.2.2.1 (fun _ _ => rfl)) _) ⟨w1.heap.size, 0, none⟩ 1 1 [.iface 71 (.int .i64 x)] rfl rfl (cell_one_new _ _ _) ?q2 ?q3 ?q4 ?q5 ?_
      case q2 => intro u hu; simp at hu; subst hu; rfl
      case q3 => unfold maxLen; omega
      case q4 => omega
      case q5 => have := HR1.out.2.2.2.1.size; simp; omega
      intro v' w3 hown hgr _ hat
      obtain ⟨A3, c3, rfl⟩ := own_slice hown
      have hg3 : w1.grownBy w3 (Value.slice A done.length c).ownBlock := (World.grownBy_alloc w1 (.cells #[.iface 71 (.int .i64 x)] 89) (Value.slice A done.length c).ownBlock).trans ⟨hgr.os, hgr.tape, hgr.output, hgr.size, hgr.block⟩
      have hbit := HR1.out.2.1
      have hne3 : some (w.heap.size + 1) ≠ (Value.slice A done.length c).ownBlock := fun e => by
        obtain ⟨cc, hcc⟩ := own_block HR1.out.2.2.1 e.symm
        exact absurd (blk_type hbit hcc) (by decide)
      have hb3 := (hg3.block _ (blk_lt hbit) hne3).trans hbit
      have hN3 : MapV Tryz.prog 2 w3 gn ns nV := HR1.out.2.2.2.2.1.stay (hg3.block gn HR1.out.2.2.2.2.1.lt (fun e => by
        obtain ⟨cc, hcc⟩ := own_block HR1.out.2.2.1 e.symm
        exact HR1.out.2.2.2.2.1.cells_ne hcc rfl))
      refine hK.out _ _ ⟨(blk_cell hb3 0).trans rfl, hN3⟩ ?_
      (try dsimp only); try simp only [Act.put, List.setIfInBounds_toArray, List.set_cons_zero, List.set_cons_succ]
      have d3 : w3.cell? ⟨w.heap.size + 1, 0, none⟩ = some (.slice A done.length c) := (blk_cell hb3 0).trans rfl
      have f3 := blk_frozen hb3 0
      have H3 := Aside0.mk (And.intro hown (And.intro hg3 hb3))
      clear hK K hown hgr hat hg3 hb3 hbit hne3 hN3
      refine heldTo.turn (by kernel_rfl) rfl (fun K hK => ?_)
      go_simp
      refine hK.out _ _ ?_
      (try dsimp only); try simp only [Act.put, List.setIfInBounds_toArray, List.set_cons_zero, List.set_cons_succ]
      clear hK K
      refine anyStep (i := 11) (by kernel_rfl) rfl (fun K hK => ?_)
      go_simp
      refine hK.out _ _ ?_
      (try dsimp only); try simp only [Act.put, List.setIfInBounds_toArray, List.set_cons_zero, List.set_cons_succ]
      clear hK K
      refine anyStep (i := 12) (by kernel_rfl) rfl (fun K hK => ?_)
      go_simp
      refine hK.out _ _ ?_
      (try dsimp only); try simp only [Act.put, List.setIfInBounds_toArray, List.set_cons_zero, List.set_cons_succ]
      clear hK K
      refine anyDone (by kernel_rfl) ?_ _
      have HF := Aside0.mk (show NL w b ks f (w.heap.size + 2) (w3.setCell ⟨w.heap.size + 1, 0, none⟩ (.slice A3 (done.length + 1) c3)) (done ++ [x]) n' from by
        obtain ⟨hown, hg3, hb3⟩ := H3.out
        obtain ⟨hmr1, hb1, ho1, hold1, hN1, hs1, hlt⟩ := HR1.out
        have nc : ∀ q, some q = (Value.slice A done.length c).ownBlock → ∃ cc, w1.heap[q]? = some (.cells cc 89 (0, 0)) := fun q e => own_block ho1 e.symm
        have m1 : w3.heap[b]? = w1.heap[b]? := hg3.block b hmr1.map.lt (fun e => by obtain ⟨cc, hcc⟩ := nc _ e; exact hmr1.map.cells_ne hcc rfl)
        have m2 : w3.heap[w.heap.size + 2]? = w1.heap[w.heap.size + 2]? := hg3.block _ hmr1.lt (fun e => by obtain ⟨cc, hcc⟩ := nc _ e; exact hmr1.cells_ne hcc rfl)
        have nb : b ≠ w.heap.size + 1 := fun e => hmr1.map.cells_ne hb1 e.symm
        refine ⟨hmr1.stay ((Below.heap_setCell _ _ _ _ nb).trans m1) ((Below.heap_setCell _ _ _ _ (by show w.heap.size + 2 ≠ w.heap.size + 1; omega)).trans m2), ⟨A3, c3, by
          rw [List.length_append]
          exact blk_put (cs := #[.slice A done.length c, .int .i64 0, .nilIface]) hb3 0 _ rfl, ?_⟩, ?_⟩
        · rw [List.length_append, nodeVs_append]
          refine own_of_heap hown fun q hq => Below.heap_setCell _ _ _ _ (fun e => ?_)
          obtain ⟨cc, hcc⟩ := own_block hown hq
          have e' : q = w.heap.size + 1 := e
          subst e'
          exact absurd (blk_type hb3 hcc) (by decide)
        · exact (hold1.grown hg3 hold1.size (fun q hq => own_base ho1 q hq)).setCell (by show w.heap.size ≤ w.heap.size + 1; omega) _)
      clear c0 d3 f3 hen hHeld
      go_wp2
      go_roundw
      case rel => exact ⟨_, _, HF⟩
      case measure =>
        rw [HF.out.mr.left_eq, hle]
        exact HR1.out.2.2.2.2.2.2
end Go.Proofs.YthkmblgehdofmaaGreat.R

/- simple.WeightedDirectedGraph: From; the iterators' methods. -/
namespace Go.Proofs.YthkmblgehdofmaaGreat.R
open Go.RowKit Go.Lab Go.Maps Go.MV Go.Proofs.YthkmblgehdofmaaGreatW.PrintWords Go.Proofs.YthkmblgehdofmaaGreatW.PrintLast Go.Proofs.YthkmblgehdofmaaGreatW.PrintMore

theorem meth_MNext (a : Addr) (w : World) : (method 325 160 (.pointer (some a)) "Next").run Tryz.prog w = .ok (192, .pointer (some a)) w := by kernel_rfl
theorem meth_MNode (a : Addr) (w : World) : (method 325 160 (.pointer (some a)) "Node").run Tryz.prog w = .ok (193, .pointer (some a)) w := by kernel_rfl
theorem meth_ZNext (x : Int) (w : World) : (method 325 156 (.int .i64 x) "Next").run Tryz.prog w = .ok (182, .int .i64 x) w := by kernel_rfl

set_option maxHeartbeats 400000 in
theorem nextZ_any (x : Int) (w : World) : Calls Tryz.prog 182 #[.int .i64 x] w fun e w' => e = .returned (.bool false) ∧ w' = w := by
  go_enter Tryz.func182, Tryz.ntmps182
  go_wp2
  go_ret
  exact ⟨rfl, rfl⟩

set_option maxHeartbeats 1000000 in
theorem nodeM_any (lo it k : Nat) (xs : List Int) (w : World) (h : MIt 179 lo w it xs (k + 1)) (hk : k < xs.length) :
    Calls Tryz.prog 193 #[.pointer (some ⟨it, 0, none⟩)] w fun e w' => e = .returned (.iface 71 (.int .i64 xs[k])) ∧ w' = w := by
  obtain ⟨A, c, cur, hb, _, hc⟩ := h.ex
  have hcur := hc k hk rfl
  subst hcur
  have c2 : w.cell? ⟨it, 2, none⟩ = some (.iface 71 (.int .i64 xs[k])) := (blk_cell hb 2).trans rfl
  generalize xs[k] = x at c2
  clear hc hb h
  go_enter Tryz.func193, Tryz.ntmps193
  go_wp2
  go_ret
  exact ⟨rfl, rfl⟩

set_option maxHeartbeats 2000000 in
set_option maxRecDepth 100000 in
theorem nextM_end (lo it : Nat) (xs : List Int) (w : World) (h : MIt 179 lo w it xs xs.length) (hl : xs.length ≤ 100000) :
    Calls Tryz.prog 192 #[.pointer (some ⟨it, 0, none⟩)] w fun e w' => e = .returned (.bool false) ∧ Below w.heap.size w w' := by
  obtain ⟨A, c, cur, hb, _, hc⟩ := h.ex
  have c0 : w.cell? ⟨it, 0, none⟩ = some (.slice A xs.length c) := (blk_cell hb 0).trans rfl
  have c1 : w.cell? ⟨it, 1, none⟩ = some (.int .i64 (xs.length : Int)) := (blk_cell hb 1).trans rfl
  clear hc hb h
  go_enter Tryz.func192, Tryz.ntmps192
  go_wp2_with fail
  go_region_held3 (fun w' => w'.cell? ⟨it, 0, none⟩ = some (.slice A xs.length c) ∧ w'.cell? ⟨it, 1, none⟩ = some (.int .i64 (xs.length : Int)))
    (go_keep)
    (fail)
  go_wp2
  go_ret
  exact ⟨rfl, (Below.refl _ _).drew⟩

end Go.Proofs.YthkmblgehdofmaaGreat.R

/- simple.WeightedDirectedGraph: From. -/
namespace Go.Proofs.YthkmblgehdofmaaGreat.R
open Go.RowKit Go.Lab Go.Maps Go.MV Go.Proofs.YthkmblgehdofmaaGreatW.PrintWords Go.Proofs.YthkmblgehdofmaaGreatW.PrintLast Go.Proofs.YthkmblgehdofmaaGreatW.PrintMore

/-- what From hands back -/
def FromOk (g : GS) (u : Int) (lo : Nat) (w' : World) (iv : Value) (xs : List Int) : Prop :=
  xs.Nodup ∧ (∀ v, v ∈ xs ↔ (g.ed u v).isSome = true) ∧ ((iv = .iface 156 (.int .i64 0) ∧ xs = []) ∨ ∃ it, iv = .iface 160 (.pointer (some ⟨it, 0, none⟩)) ∧ MIt 179 lo w' it xs 0)
theorem ed_mem {g : GS} {u v : Int} : (g.ed u v).isSome = true ↔ u ∈ g.fk ∧ v ∈ g.fe u := by
  unfold GS.ed
  split <;> simp_all

set_option maxHeartbeats 2000000 in
set_option maxRecDepth 100000 in
theorem fromS_any (lo : Nat) (g : GS) (u : Int) (w : World) (h : SG lo w g) (wu : (Lit.int .i64 u).wf = true) :
    Calls Tryz.prog 71 #[.pointer (some ⟨g.gG, 0, none⟩), .int .i64 u] w fun e w' => ∃ iv xs, e = .returned iv ∧ FromOk g u w.heap.size w' iv xs ∧ Below w.heap.size w w' := by
  have c0 := h.cells.1
  have c1 := h.cells.2.1
  have L1 := h.from_.look Tryz.underlying2 Tryz.underlying143 (zero152 w) wu
  by_cases hu : u ∈ g.fk
  · rw [if_pos hu] at L1
    have L1' : (Instr.lookup 143 (.map (some g.gf)) (.int .i64 u) false).run Tryz.prog w = .ok (.map (some (g.fb u))) w := L1
    have hrow := h.row u hu
    have hlen := fun ty => hrow.len Tryz.underlying152 ty
    clear L1
    by_cases he : g.fe u = []
    · rw [he] at hlen
      simp only [List.length_nil] at hlen
      have HE := Aside0.mk (show ∀ v, v ∈ ([] : List Int) ↔ (g.ed u v).isSome = true from fun v => by rw [ed_mem, he]; simp)
      clear h hrow hu he
      go_enter Tryz.func71, Tryz.ntmps71
      go_wp2
      go_ret
      exact ⟨_, [], rfl, ⟨List.nodup_nil, HE.out, .inl ⟨rfl, rfl⟩⟩, Below.refl _ _⟩
    · have hn0 : ((g.fe u).length : Int) ≠ 0 := by
        intro e
        exact he (List.eq_nil_of_length_eq_zero (by omega))
      have hnb : (((g.fe u).length : Int) == 0) = false := by rw [beq_eq_false_iff_ne]; exact hn0
      have hlr := h.len
      have hln : (g.fe u).length ≤ 1000 := Nat.le_trans (nodup_len hrow.nd (h.fes u hu)) h.len
      have L2 : (Instr.lookup 143 (.map (some g.gf)) (.int .i64 u) false).run Tryz.prog w.drew = .ok (.map (some (g.fb u))) w.drew := by
        have := h.drew.from_.look Tryz.underlying2 Tryz.underlying143 (zero152 w.drew) wu
        rw [if_pos hu] at this
        exact this
      have H := Aside0.mk (And.intro h (And.intro hrow (And.intro hu (h.fes u hu))))
      clear h hrow hu he
      go_enter Tryz.func71, Tryz.ntmps71
      go_wp2_with fail
      go_region_held3 (fun w' => w'.cell? ⟨g.gG, 0, none⟩ = some (.map (some g.gn)) ∧ w'.cell? ⟨g.gG, 1, none⟩ = some (.map (some g.gf)))
        (first | exact ⟨below_cellOf hbel c0, below_cellOf hbel c1⟩ | go_keep)
        (first | (go_at_call 96; refine (newNE_any g.gn (g.fb u) g.ns (g.fe u) _ w.drew (H.out.1.nodes.stay rfl) (H.out.2.1.stay rfl) H.out.2.2.2 hln).mono ?_; rintro e w3 ⟨it, xs, rfl, hit, hp, hbel⟩; have H3 := Aside0.mk (And.intro hit hp)))
      go_wp2
      go_ret
      refine ⟨_, xs, rfl, ⟨H3.out.2.nodup_iff.2 H.out.2.1.nd, fun v => ?_, .inr ⟨it, rfl, H3.out.1⟩⟩, (Below.refl _ _).drew.trans (hbel.mono (by simp))⟩
      rw [ed_mem, H3.out.2.mem_iff]
      exact ⟨fun q => ⟨H.out.2.2.1, q⟩, fun q => q.2⟩
  · rw [if_neg hu] at L1
    have hlen := fun ty => Maps.len_nil (w := w) (P := Tryz.prog) Tryz.underlying152 ty
    have HE := Aside0.mk (show ∀ v, v ∈ ([] : List Int) ↔ (g.ed u v).isSome = true from fun v => by rw [ed_mem]; exact ⟨fun q => absurd q List.not_mem_nil, fun q => absurd q.1 hu⟩)
    clear h hu
    go_enter Tryz.func71, Tryz.ntmps71
    go_wp2
    go_ret
    exact ⟨_, [], rfl, ⟨List.nodup_nil, HE.out, .inl ⟨rfl, rfl⟩⟩, Below.refl _ _⟩
end Go.Proofs.YthkmblgehdofmaaGreat.R

/- simple.WeightedDirectedGraph: Nodes, and how many there are. -/
namespace Go.Proofs.YthkmblgehdofmaaGreat.R
open Go.RowKit Go.Lab Go.Maps Go.MV Go.Proofs.YthkmblgehdofmaaGreatW.PrintWords Go.Proofs.YthkmblgehdofmaaGreatW.PrintLast Go.Proofs.YthkmblgehdofmaaGreatW.PrintMore

structure NL2 (w : World) (b : Nat) (ks : List Int) (f : Int → Value) (r : Nat) (wr : World) (done : List Int) (n : Nat) : Prop where
  mr : MapR Tryz.prog 2 wr b r ks f done n
  ex : ∃ (A : Option Addr) (c : Nat), wr.heap[w.heap.size + 1]? = some (.cells #[.slice A done.length c, .int .i64 0, .nilIface] 178 (0, 0)) ∧ wr.ownsRow w.heap.size 89 1 (.slice A done.length c) done.length (nodeVs done)
  old : Below w.heap.size w wr
set_option maxHeartbeats 4000000 in
set_option maxRecDepth 100000 in
theorem newN_any (gn : Nat) (ks : List Int) (w : World) (hE : MapV Tryz.prog 2 w gn ks nV) (hl : ks.length ≤ 1000) :
    Calls Tryz.prog 95 #[.map (some gn)] w fun e w' => ∃ it xs, e = .returned (.pointer (some ⟨it, 0, none⟩)) ∧ MIt 178 w.heap.size w' it xs 0 ∧ xs.Perm ks ∧ Below w.heap.size w w' := by
  have hlen := fun ty => hE.len Tryz.underlying142 ty
  have hmk := make_nodes ks.length hl
  have hu := Tryz.underlying178
  have hE2 : ∀ o1 o2, MapV Tryz.prog 2 ((w.alloc o1).alloc o2) gn ks nV := fun o1 o2 => hE.stay (by rw [Below.heap_alloc _ _ _ (by have := hE.lt; simp; omega), Below.heap_alloc _ _ _ hE.lt])
  clear hE
  go_enter Tryz.func95, Tryz.ntmps95
  go_wp2_with (first
    | (at_range; refine wpList_range_mapV Tryz.underlying2 rfl _ rfl Tryz.underlying142 rfl (hE2 _ _) ?_; intro w0 hr0 hg0 hs0; have H0 := Aside0.mk (And.intro hr0 (And.intro hg0 hs0)); clear hr0 hg0 hs0))
  go_frame
  have e2 : ∀ o1 o2, ((w.alloc o1).alloc o2).heap.size = w.heap.size + 2 := fun o1 o2 => by simp
  rw [e2] at H0 ⊢
  have HN0 := Aside0.mk (show NL2 w gn ks nV (w.heap.size + 2) w0 [] ks.length from ⟨H0.out.1, ⟨some ⟨w.heap.size, 0, none⟩, ks.length, by
      rw [H0.out.2.1.block _ (by simp) (by simp)]
      have : (w.alloc (.cells (madeCells #[.nilIface] ks.length) 89)).heap.size = w.heap.size + 1 := by simp
      rw [← this]; exact heap_alloc_new _ _, by
      have h1 := World.ownsRow_made (e := 89) w (madeCells #[.nilIface] ks.length) ks.length (Nat.le_refl _) (by unfold maxLen; omega) (by rw [size_madeCells, Nat.mul_one])
      exact own_of_heap h1 fun q hq => by
        simp [Value.ownBlock] at hq
        subst hq
        rw [H0.out.2.1.block _ (by simp; omega) (by simp), Below.heap_alloc _ _ _ (by simp)]⟩, (((Below.refl _ _).alloc (Nat.le_refl _) _).alloc (by simp) _).grown H0.out.2.1 (by simp; omega) (fun k hk => by cases hk)⟩)
  clear hE2 hlen hmk
  go_loopw [5] (fun _ wr => ∃ done n, Aside0 (NL2 w gn ks nV (w.heap.size + 2) wr done n)) (fun _ wr => wr.rangeLeft gn (w.heap.size + 2))
  case atStart => exact ⟨_, _, HN0⟩
  case round =>
    clear HN0 H0
    obtain ⟨done, n, hrel⟩ := hrel
    have hmr := hrel.out.mr
    have hle := hmr.left_eq
    have hdl : done.length ≤ 1000 := Nat.le_trans (nodup_len hmr.dn hmr.sub) hl
    go_wp2_with (first
      | (at_next; refine wpList_next_mapV Tryz.underlying2 rfl _ rfl rfl hmr ?_ ?_))
    · intro hp
      have HP := Aside0.mk hp
      clear hp hmr
      go_wp2
      go_ret
      obtain ⟨A, c, hb, ho⟩ := hrel.out.ex
      exact ⟨_, done, rfl, ⟨⟨A, c, _, hb, ho, fun j h e => by cases e⟩, by omega⟩, HP.out, hrel.out.old⟩
    · intro x w1 n' hxk hxd wx hmr1 hlt hg1 hs1 hen
      obtain ⟨A, c, hb, ho⟩ := hrel.out.ex
      have hrr := hmr.lt
      have hs0 := hrel.out.old.size
      have hb1 : w1.heap[w.heap.size + 1]? = some (.cells #[.slice A done.length c, .int .i64 0, .nilIface] 178 (0, 0)) := (hg1.block _ (blk_lt hb) (fun e => by have := Option.some.inj e; omega)).trans hb
      have ho1 := own_of_heap ho fun q hq => by
        obtain ⟨cc, hcc⟩ := own_block ho hq
        exact hg1.block q (blk_lt hcc) (fun e => hmr.cells_ne hcc (Option.some.inj e))
      have hold1 : Below w.heap.size w w1 := hrel.out.old.grown hg1 hs0 (fun k e => by have := Option.some.inj e; omega)
      have c0 : w1.cell? ⟨w.heap.size + 1, 0, none⟩ = some (.slice A done.length c) := (blk_cell hb1 0).trans rfl
      have hen' : (Instr.entry (.pointer (some ⟨w.heap.size + 2, 0, none⟩))).run Tryz.prog w1 = .ok (.tuple #[.int .i64 x, .iface 71 (.int .i64 x)]) w1 := hen
      have HR1 := Aside0.mk (And.intro hmr1 (And.intro hb1 (And.intro ho1 (And.intro hold1 (And.intro hs1 hlt)))))
      obtain ⟨i0, hi, hz0, hz1, hz2⟩ := info_parts Tryz.info89
      have HI := Aside0.mk (And.intro hi (And.intro hz0 (And.intro hz1 hz2)))
      clear hmr hb ho hmr1 hb1 ho1 hold1 hg1 hlt hs1 hi hz0 hz1 hz2 hen
      go_wp2_with (at_builtin; refine wpList_append_own_at _ rfl _ _ 119 rfl w.heap.size 89 i0 .nilIface 1 16 Tryz.underlying119 HI.out.1 HI.out.2.1 HI.out.2.2.1 HI.out.2.2.2 rfl (by decide) _ done.length (nodeVs done) rfl (World.ownsRow.alloc HR1.out.2.2.1 _) ⟨w1.heap.size, 0, none⟩ 1 1 [.iface 71 (.int .i64 x)] rfl rfl (cell_one_new _ _ _) ?q2 ?q3 ?q4 ?q5 ?_)
      case q2 => intro u hu; simp at hu; subst hu; rfl
      case q3 => unfold maxLen; omega
      case q4 => omega
      case q5 => have := HR1.out.2.2.2.1.size; simp; omega
      intro v' w3 hown hgr _ hat
      obtain ⟨A3, c3, rfl⟩ := own_slice hown
      have hg3 : w1.grownBy w3 (Value.slice A done.length c).ownBlock := (World.grownBy_alloc w1 (.cells #[.iface 71 (.int .i64 x)] 89) (Value.slice A done.length c).ownBlock).trans hgr
      have hbit := HR1.out.2.1
      have hne3 : some (w.heap.size + 1) ≠ (Value.slice A done.length c).ownBlock := fun e => by
        obtain ⟨cc, hcc⟩ := own_block HR1.out.2.2.1 e.symm
        exact absurd (blk_type hbit hcc) (by decide)
      have hb3 := (hg3.block _ (blk_lt hbit) hne3).trans hbit
      have d3 : w3.cell? ⟨w.heap.size + 1, 0, none⟩ = some (.slice A done.length c) := (blk_cell hb3 0).trans rfl
      have f3 := blk_frozen hb3 0
      have HF := Aside0.mk (show NL2 w gn ks nV (w.heap.size + 2) (w3.setCell ⟨w.heap.size + 1, 0, none⟩ (.slice A3 (done.length + 1) c3)) (done ++ [x]) n' from by
        obtain ⟨hmr1, hb1, ho1, hold1, hs1, hlt⟩ := HR1.out
        have nc : ∀ q, some q = (Value.slice A done.length c).ownBlock → ∃ cc, w1.heap[q]? = some (.cells cc 89 (0, 0)) := fun q e => own_block ho1 e.symm
        have m1 : w3.heap[gn]? = w1.heap[gn]? := hg3.block gn hmr1.map.lt (fun e => by obtain ⟨cc, hcc⟩ := nc _ e; exact hmr1.map.cells_ne hcc rfl)
        have m2 : w3.heap[w.heap.size + 2]? = w1.heap[w.heap.size + 2]? := hg3.block _ hmr1.lt (fun e => by obtain ⟨cc, hcc⟩ := nc _ e; exact hmr1.cells_ne hcc rfl)
        have nb : gn ≠ w.heap.size + 1 := fun e => hmr1.map.cells_ne hb1 e.symm
        refine ⟨hmr1.stay ((Below.heap_setCell _ _ _ _ nb).trans m1) ((Below.heap_setCell _ _ _ _ (by show w.heap.size + 2 ≠ w.heap.size + 1; omega)).trans m2), ⟨A3, c3, by
          rw [List.length_append]
          exact blk_put (cs := #[.slice A done.length c, .int .i64 0, .nilIface]) hb3 0 _ rfl, ?_⟩, ?_⟩
        · rw [List.length_append, nodeVs_append]
          refine own_of_heap hown fun q hq => Below.heap_setCell _ _ _ _ (fun e => ?_)
          obtain ⟨cc, hcc⟩ := own_block hown hq
          have e' : q = w.heap.size + 1 := e
          subst e'
          exact absurd (blk_type hb3 hcc) (by decide)
        · exact (hold1.grown hg3 hold1.size (fun q hq => own_base ho1 q hq)).setCell (by show w.heap.size ≤ w.heap.size + 1; omega) _)
      clear c0 hen' hown hgr hat hg3 hbit hne3 hb3
      go_wp2
      go_roundw
      case rel => exact ⟨_, _, HF⟩
      case measure =>
        rw [HF.out.mr.left_eq, hle]
        exact HR1.out.2.2.2.2.2

theorem meth_NLen (a : Addr) (w : World) : (method 325 157 (.pointer (some a)) "Len").run Tryz.prog w = .ok (186, .pointer (some a)) w := by kernel_rfl
theorem meth_OLen (a : Addr) (w : World) : (method 325 215 (.pointer (some a)) "Len").run Tryz.prog w = .ok (196, .pointer (some a)) w := by kernel_rfl
set_option maxHeartbeats 1000000 in
set_option maxRecDepth 100000 in
theorem lenN_any (lo it : Nat) (xs : List Int) (w : World) (h : MIt 178 lo w it xs 0) (hl : xs.length ≤ 100000) :
    Calls Tryz.prog 186 #[.pointer (some ⟨it, 0, none⟩)] w fun e w' => e = .returned (.int .i64 (xs.length : Int)) ∧ Below w.heap.size w w' := by
  obtain ⟨A, c, cur, hb, _, hc⟩ := h.ex
  have c0 : w.cell? ⟨it, 0, none⟩ = some (.slice A xs.length c) := (blk_cell hb 0).trans rfl
  have c1 : w.cell? ⟨it, 1, none⟩ = some (.int .i64 0) := (blk_cell hb 1).trans rfl
  have hwr : IntKind.i64.wrap ((xs.length : Int) - 0) = (xs.length : Int) := by rw [IntKind.wrap_i64]; omega
  clear hc hb h
  go_enter Tryz.func186, Tryz.ntmps186
  go_wp2_with fail
  go_region_held3 (fun w' => w'.cell? ⟨it, 0, none⟩ = some (.slice A xs.length c) ∧ w'.cell? ⟨it, 1, none⟩ = some (.int .i64 0))
    (go_keep)
    (fail)
  go_wp2
  go_ret
  have e : IntKind.i64.wrap (xs.length : Int) = (xs.length : Int) := by rw [IntKind.wrap_i64]; omega
  exact ⟨by simp [e], (Below.refl _ _).drew⟩

set_option maxHeartbeats 1000000 in
set_option maxRecDepth 100000 in
theorem nodesS_any (lo : Nat) (g : GS) (w : World) (h : SG lo w g) (hn : g.ns ≠ []) :
    Calls Tryz.prog 67 #[.pointer (some ⟨g.gG, 0, none⟩)] w fun e w' => ∃ it xs, e = .returned (.iface 157 (.pointer (some ⟨it, 0, none⟩))) ∧ MIt 178 w.heap.size w' it xs 0 ∧ xs.Perm g.ns ∧ Below w.heap.size w w' := by
  have c0 := h.cells.1
  have hlen := fun ty => h.nodes.len Tryz.underlying142 ty
  have hn0 : (g.ns.length : Int) ≠ 0 := by
    intro e
    exact hn (List.eq_nil_of_length_eq_zero (by omega))
  have hnb : ((g.ns.length : Int) == 0) = false := by rw [beq_eq_false_iff_ne]; exact hn0
  have H := Aside0.mk h
  clear h hn
  go_enter Tryz.func67, Tryz.ntmps67
  go_wp2_with (go_at_call 95; refine (newN_any g.gn g.ns _ H.out.nodes H.out.len).mono ?_; rintro e w3 ⟨it, xs, rfl, hit, hp, hbel⟩; have H3 := Aside0.mk (And.intro hit (And.intro hp hbel)); clear hit hp hbel)
  go_ret
  exact ⟨it, xs, rfl, H3.out.1, H3.out.2.1, H3.out.2.2⟩
end Go.Proofs.YthkmblgehdofmaaGreat.R

/- What stays of a plain graph and its iterators while a simple graph is filled. -/
namespace Go.Proofs.YthkmblgehdofmaaGreat.R
open Go.RowKit Go.Lab Go.Maps Go.MV Go.Proofs.YthkmblgehdofmaaGreatW.PrintWords Go.Proofs.YthkmblgehdofmaaGreatW.PrintLast Go.Proofs.YthkmblgehdofmaaGreatW.PrintMore PL

theorem meth_DNodes (a : Addr) (w : World) : (method 325 70 (.agg #[.pointer (some a)]) "Nodes").run Tryz.prog w = .ok (151, .agg #[.pointer (some a)]) w := by kernel_rfl
theorem meth_DFrom (a : Addr) (w : World) : (method 325 70 (.agg #[.pointer (some a)]) "From").run Tryz.prog w = .ok (148, .agg #[.pointer (some a)]) w := by kernel_rfl
theorem meth_DWeight (a : Addr) (w : World) : (method 325 70 (.agg #[.pointer (some a)]) "Weight").run Tryz.prog w = .ok (153, .agg #[.pointer (some a)]) w := by kernel_rfl
theorem nil_DFrom (a : Addr) (w : World) : (nilAhead 325 70 (.agg #[.pointer (some a)]) "From").run Tryz.prog w = .ok (some false) w := by kernel_rfl
theorem nil_DWeight (a : Addr) (w : World) : (nilAhead 325 70 (.agg #[.pointer (some a)]) "Weight").run Tryz.prog w = .ok (some false) w := by kernel_rfl
theorem meth_OReset (a : Addr) (w : World) : (method 325 215 (.pointer (some a)) "Reset").run Tryz.prog w = .ok (199, .pointer (some a)) w := by kernel_rfl

set_option maxHeartbeats 1000000 in
theorem reset_any (lo B b k : Nat) (xs : List Int) (w : World) (h : OIt lo B w b xs k) :
    Calls Tryz.prog 199 #[.pointer (some ⟨b, 0, none⟩)] w fun e w' => e = .returned (.tuple #[]) ∧ OIt lo B w' b xs 0 ∧ Mid lo B w w' := by
  obtain ⟨A, c, h0, h1, hf, hx⟩ := h.cells
  have HE := Aside0.mk (h.to 0 (by omega))
  have hb := h.lt
  have hb2 := h.hb
  clear h hx
  go_enter Tryz.func199, Tryz.ntmps199
  go_wp2
  go_end0
  exact ⟨rfl, HE.out, Mid.set _ _ _ hb2.1 hb2.2⟩

theorem OIt.gk {lo lo' B : Nat} {w w' : World} {b k : Nat} {xs : List Int} (h : OIt lo B w b xs k) (hk : GK lo' w w') : OIt lo B w' b xs k := by
  obtain ⟨v, h1, h2, h3⟩ := h.ex
  exact ⟨⟨v, (hk.cells _ _ _ h1 (by decide)).trans h1, own_of_heap h2 (fun q hq => by obtain ⟨cc, hcc⟩ := own_block h2 hq; exact hk.cells _ _ _ hcc (by decide)), h3⟩, h.hb, h.hk⟩
theorem PlOk.gk {lo' : Nat} {w w' : World} {base bp : Nat} {p : Pl} (h : PlOk w base bp p) (hk : GK lo' w w') : PlOk w' base bp p := by
  obtain ⟨ro, ri, vi, vo, vn, hp⟩ := h
  have ho : ∀ {e : TypeId} {size n : Nat} {v : Value} {xs : List Value}, e ≠ 176 → w.ownsRow base e size v n xs → w'.ownsRow base e size v n xs := fun he h => own_of_heap h fun k hk' => by
    obtain ⟨c, hc⟩ := own_block h hk'
    exact hk.cells k c _ hc he
  refine ⟨ro, ri, vi, vo, vn, ⟨(hk.cells bp _ _ hp.blk (by decide)).trans hp.blk, hp.hb, ho (by decide) hp.ids, ?_, hp.po, hp.pi⟩⟩
  have hr := hp.rows
  exact ⟨ho (by decide) hr.a, ho (by decide) hr.b, hr.la, hr.lb, fun i hi => ho (by decide) (hr.rowA i hi), fun i hi => ho (by decide) (hr.rowB i hi), hr.sepT, hr.sepA, hr.sepB, hr.sepAB⟩
/-- a graph's blocks lie outside -/
def SG.Out (g : GS) (lo B : Nat) : Prop := (g.gG < lo ∨ B ≤ g.gG) ∧ (g.gu < lo ∨ B ≤ g.gu) ∧ ∀ k ∈ g.maps, k < lo ∨ B ≤ k
theorem SG.mid {lo lo1 B1 : Nat} {w w1 : World} {g : GS} (h : SG lo w g) (ho : SG.Out g lo1 B1) (hm : Mid lo1 B1 w w1) : SG lo w1 g := by
  obtain ⟨z1, z2, hb⟩ := h.blk
  obtain ⟨mx, hu⟩ := h.uid.blk
  exact h.keep (hm.block _ (blk_lt hb) ho.1) (hm.block _ (blk_lt hu) ho.2.1) (fun k hk => hm.block k (h.lts k hk) (ho.2.2 k hk))
theorem OIt.belowB {lo B : Nat} {w w' : World} {b k : Nat} {xs : List Int} (h : OIt lo B w b xs k) (hB : B ≤ w.heap.size) (hb : Below w.heap.size w w') : OIt lo B w' b xs k := h.far fun q _ hq => hb.block q (by omega)
section
variable {gG : Nat}
theorem addNode_at (lo : Nat) (g : GS) (hG : g.gG = gG) (x : Int) (w : World) (h : SG lo w g) (hx : x ∉ g.ns) (wx : (Lit.int .i64 x).wf = true) (hl : g.ns.length < 1000) (hlo : lo ≤ w.heap.size) :
    Calls Tryz.prog 63 #[.pointer (some ⟨gG, 0, none⟩), .iface 71 (.int .i64 x)] w fun e w' => e = .returned (.tuple #[]) ∧ SG lo w' { g with ns := g.ns ++ [x] } ∧ GK lo w w' := by
  subst hG; exact addNode_any lo g x w h hx wx hl hlo
theorem setE_at (lo : Nat) (g : GS) (hG : g.gG = gG) (u v : Int) (x : Nat) (w : World) (h : SG lo w g) (un : u ∈ g.ns) (vn : v ∈ g.ns) (huv : u ≠ v) (wu : (Lit.int .i64 u).wf = true) (wv : (Lit.int .i64 v).wf = true) (hlo : lo ≤ w.heap.size) :
    Calls Tryz.prog 65 #[.pointer (some ⟨gG, 0, none⟩), eV u v x] w fun e w' => e = .returned (.tuple #[]) ∧ ∃ g', SG lo w' g' ∧ g'.gG = g.gG ∧ g'.gu = g.gu ∧ (∀ k ∈ g'.maps, k ∈ g.maps ∨ w.heap.size ≤ k) ∧ g'.ns = g.ns ∧ (∀ a b, g'.ed a b = if a = u ∧ b = v then some x else g.ed a b) ∧ GK lo w w' := by
  subst hG; exact setE_any lo g u v x w h un vn huv wu wv hlo
theorem weightS_at (lo : Nat) (g : GS) (hG : g.gG = gG) (u v : Int) (w : World) (h : SG lo w g) (huv : u ≠ v) (wu : (Lit.int .i64 u).wf = true) (wv : (Lit.int .i64 v).wf = true) :
    Calls Tryz.prog 66 #[.pointer (some ⟨gG, 0, none⟩), .int .i64 u, .int .i64 v] w fun e w' => (∃ x, e = .returned (.tuple #[.float .f64 x, .bool (g.ed u v).isSome]) ∧ ∀ y, g.ed u v = some y → x = y) ∧ Below w.heap.size w w' := by
  subst hG; exact weightS_any lo g u v w h huv wu wv
theorem fromS_at (lo : Nat) (g : GS) (hG : g.gG = gG) (u : Int) (w : World) (h : SG lo w g) (wu : (Lit.int .i64 u).wf = true) :
    Calls Tryz.prog 71 #[.pointer (some ⟨gG, 0, none⟩), .int .i64 u] w fun e w' => ∃ iv xs, e = .returned iv ∧ FromOk g u w.heap.size w' iv xs ∧ Below w.heap.size w w' := by
  subst hG; exact fromS_any lo g u w h wu
theorem nodeS_at (lo : Nat) (g : GS) (hG : g.gG = gG) (u : Int) (w : World) (h : SG lo w g) (hu : u ∈ g.ns) (wu : (Lit.int .i64 u).wf = true) :
    Calls Tryz.prog 73 #[.pointer (some ⟨gG, 0, none⟩), .int .i64 u] w fun e w' => e = .returned (.iface 71 (.int .i64 u)) ∧ w' = w := by
  subst hG; exact nodeS_any lo g u w h hu wu
theorem nodesS_at (lo : Nat) (g : GS) (hG : g.gG = gG) (w : World) (h : SG lo w g) (hn : g.ns ≠ []) :
    Calls Tryz.prog 67 #[.pointer (some ⟨gG, 0, none⟩)] w fun e w' => ∃ it xs, e = .returned (.iface 157 (.pointer (some ⟨it, 0, none⟩))) ∧ MIt 178 w.heap.size w' it xs 0 ∧ xs.Perm g.ns ∧ Below w.heap.size w w' := by
  subst hG; exact nodesS_any lo g w h hn
end
end Go.Proofs.YthkmblgehdofmaaGreat.R

/- The search by levels: canReachTargetInLevelGraph. -/
namespace Go.Proofs.YthkmblgehdofmaaGreat.R
open Go.RowKit Go.Lab Go.Maps Go.MV Go.Proofs.YthkmblgehdofmaaGreatW.PrintWords Go.Proofs.YthkmblgehdofmaaGreatW.PrintLast Go.Proofs.YthkmblgehdofmaaGreatW.PrintMore PL

theorem set_front {α : Type} (z : α) : ∀ (i : Nat) (l : List α), i < l.length → (List.replicate i z ++ l.drop i).set i z = List.replicate (i + 1) z ++ l.drop (i + 1)
  | 0, [], h => by simp at h
  | 0, a :: l, h => by simp
  | i + 1, [], h => by simp at h
  | i + 1, a :: l, h => by
    have ih := set_front z i l (by simpa using h)
    rw [List.replicate_succ, List.drop_succ_cons, List.cons_append, List.set_cons_succ, ih]
    rfl
/-- a step that leaves maps and the graph's own cells alone -/
structure CK (lo : Nat) (w w' : World) : Prop where
  os : w'.os = w.os
  tape : w'.tape = w.tape
  output : w'.output = w.output
  size : w.heap.size ≤ w'.heap.size
  low : ∀ k, k < lo → w'.heap[k]? = w.heap[k]?
  other : ∀ k, k < w.heap.size → (∀ (c : Array Value) (t : TypeId), w.heap[k]? = some (.cells c t (0, 0)) → t = 147 ∨ t = 176) → w'.heap[k]? = w.heap[k]?
theorem CK.refl (lo : Nat) (w : World) : CK lo w w := ⟨rfl, rfl, rfl, Nat.le_refl _, fun _ _ => rfl, fun _ _ _ => rfl⟩
theorem CK.trans {lo : Nat} {a b c : World} (h : CK lo a b) (k : CK lo b c) : CK lo a c :=
  ⟨k.os.trans h.os, k.tape.trans h.tape, k.output.trans h.output, Nat.le_trans h.size k.size, fun i hi => (k.low i hi).trans (h.low i hi), fun i hi ht => by
    have e := h.other i hi ht
    exact (k.other i (Nat.lt_of_lt_of_le hi h.size) (fun cs t hc => ht cs t (e ▸ hc))).trans e⟩
theorem CK.below {lo : Nat} {w w' : World} (h : CK lo w w') : Below lo w w' := ⟨h.os, h.tape, h.output, h.size, h.low⟩
theorem CK.of_below {lo : Nat} {w w' : World} (h : Below w.heap.size w w') (hlo : lo ≤ w.heap.size) : CK lo w w' :=
  ⟨h.os, h.tape, h.output, h.size, fun k hk => h.block k (by omega), fun k hk _ => h.block k hk⟩
theorem CK.grown {lo : Nat} {w w' : World} {row : Option Nat} (hg : w.grownBy w' row) (hr : ∀ k, row = some k → lo ≤ k ∧ ∃ (c : Array Value) (t : TypeId), w.heap[k]? = some (.cells c t (0, 0)) ∧ t ≠ 147 ∧ t ≠ 176) (hlo : lo ≤ w.heap.size) : CK lo w w' :=
  ⟨hg.os, hg.tape, hg.output, hg.size, fun k hk => hg.block k (by omega) (fun e => by have := (hr k e.symm).1; omega), fun k hk ht => hg.block k hk (fun e => by
    obtain ⟨_, c, t, h1, h2, h3⟩ := hr k e.symm
    exact (ht c t h1).elim h2 h3)⟩
theorem CK.set {lo k : Nat} {w : World} {c : Array Value} {t : TypeId} (h : w.heap[k]? = some (.cells c t (0, 0))) (hl : lo ≤ k) (h1 : t ≠ 147) (h2 : t ≠ 176) (i : Nat) (v : Value) : CK lo w (w.setCell ⟨k, i, none⟩ v) :=
  CK.grown (grown_set w k i v) (fun k' e => by cases e; exact ⟨hl, c, t, h, h1, h2⟩) (Nat.le_of_lt (Nat.lt_of_le_of_lt hl (blk_lt h)))
theorem CK.keep {lo : Nat} {w w' : World} (h : CK lo w w') {m : Nat} {ks : List Int} {f : Int → Value} (hm : MapV Tryz.prog 2 w m ks f) : w'.heap[m]? = w.heap[m]? :=
  h.other m hm.lt (fun c t e => absurd e (mapV_no_cells hm c t))
theorem SG.ck {lo : Nat} {w w1 : World} {g : GS} (h : SG lo w g) (hk : CK lo w w1) : SG lo w1 g := by
  obtain ⟨z1, z2, hb⟩ := h.blk
  obtain ⟨mx, hu⟩ := h.uid.blk
  refine h.keep (hk.other _ (blk_lt hb) fun c t e => .inl (blk_type hb e).symm) (hk.other _ (blk_lt hu) fun c t e => .inr (blk_type hu e).symm) ?_
  intro k hm
  simp only [GS.maps, List.mem_cons, List.mem_append, List.mem_map] at hm
  rcases hm with rfl | rfl | rfl | rfl | rfl | ⟨u, hu, rfl⟩ | ⟨u, hu, rfl⟩
  · exact hk.keep h.nodes
  · exact hk.keep h.from_
  · exact hk.keep h.to_
  · exact hk.other _ h.uid.used.lt fun c t e => absurd rfl (h.uid.used.cells_ne e)
  · exact hk.other _ h.uid.free.lt fun c t e => absurd rfl (h.uid.free.cells_ne e)
  · exact hk.keep (h.row u hu)
  · obtain ⟨f, hf⟩ := h.col u hu
    exact hk.keep hf
theorem PT.gk {lo A : Nat} {w w1 : World} {rows : List Value} {par : List (List Nat)} (h : PT lo w A rows par) {l : Nat} (hk : GK l w w1) : PT lo w1 A rows par :=
  h.stay fun k hp => by
    rcases hp with rfl | ⟨i, hi, e⟩
    · exact hk.cells _ _ _ h.tab (by decide)
    · obtain ⟨c, hc⟩ := own_block (h.row i hi) e
      exact hk.cells k c 2 hc (by decide)
end Go.Proofs.YthkmblgehdofmaaGreat.R

/- A blocking path: what stands while the way of first parents is followed and pushed. -/
namespace Go.Proofs.YthkmblgehdofmaaGreat.R
open Go.RowKit Go.Lab Go.Maps Go.MV Go.Flow Go.Proofs.FLN Go.Proofs.YthkmblgehdofmaaGreatW.PrintWords Go.Proofs.YthkmblgehdofmaaGreatW.PrintLast Go.Proofs.YthkmblgehdofmaaGreatW.PrintMore PL

/-- the way that is to be pushed -/
structure WayOk (n k s t : Nat) (par : List (List Nat)) (W : List Nat) : Prop where
  len : W.length = k + 1
  k1 : 1 ≤ k
  nd : W.Nodup
  lt : ∀ v ∈ W, v < n
  hd : ∀ h : 0 < W.length, W[0] = t
  tl : ∀ h : k < W.length, W[k] = s
  st : ∀ (i : Nat) (h : i + 1 < W.length), ∃ rest, par[W[i]]? = some (W[i + 1] :: rest)
  ps : par[s]? = some []
structure BP (lo A L : Nat) (g : GS) (rows : List Value) (par : List (List Nat)) (w wr : World) (pv : Value) (xs : List Nat) : Prop where
  pt : PT lo wr A rows par
  sg : SG lo wr g
  path : wr.ownsRow L 2 1 pv xs.length (idV xs)
  bel : Below lo w wr
  ptl : ∀ k, PB2 A rows k → k < L
  lL : lo ≤ L
  Lw : L ≤ wr.heap.size
section
variable {lo A L : Nat} {g g' : GS} {rows : List Value} {par : List (List Nat)} {w wr w1 : World} {pv pv' : Value} {xs ys : List Nat}
theorem BP.below (h : BP lo A L g rows par w wr pv xs) (hb : Below wr.heap.size wr w1) : BP lo A L g rows par w w1 pv xs :=
  ⟨h.pt.stay fun k hk => hb.block k (by have := h.ptl k hk; have := h.Lw; omega), h.sg.below hb, own_of_heap h.path fun k hk => hb.block k (by obtain ⟨c, hc⟩ := own_block h.path hk; exact blk_lt hc), h.bel.trans (hb.mono (Nat.le_trans h.lL h.Lw)), h.ptl, h.lL, Nat.le_trans h.Lw hb.size⟩
theorem BP.gk (h : BP lo A L g rows par w wr pv xs) (hk : GK lo wr w1) (hs : SG lo w1 g') : BP lo A L g' rows par w w1 pv xs :=
  ⟨h.pt.gk hk, hs, own_of_heap h.path fun k e => by obtain ⟨c, hc⟩ := own_block h.path e; exact hk.cells k c 2 hc (by decide), h.bel.trans hk.below, h.ptl, h.lL, Nat.le_trans h.Lw hk.size⟩
theorem own_base {w : World} {base : Nat} {e : TypeId} {size n : Nat} {v : Value} {xs : List Value} (h : w.ownsRow base e size v n xs) {k : Nat} (hk : v.ownBlock = some k) : base ≤ k := by
  rcases h.2 with ⟨e2, _⟩ | ⟨g', cap, cu, e2, hg, _⟩
  · rw [e2] at hk; cases hk
  · rw [e2] at hk
    have : g' = k := Option.some.inj hk
    omega
/-- the path grows, or is laid anew -/
theorem BP.row (h : BP lo A L g rows par w wr pv xs) {r : Option Nat} (hr : ∀ k, r = some k → L ≤ k ∧ ∃ c, wr.heap[k]? = some (.cells c 2 (0, 0))) (hg : wr.grownBy w1 r) (hp : w1.ownsRow L 2 1 pv' ys.length (idV ys)) : BP lo A L g rows par w w1 pv' ys := by
  have hl := h.lL
  have hw := h.Lw
  have hck : CK lo wr w1 := CK.grown hg (fun k e => by
    obtain ⟨h1, c, h2⟩ := hr k e
    exact ⟨by omega, c, 2, h2, by decide, by decide⟩) (by omega)
  refine ⟨h.pt.stay fun k hk => hg.block k (by have := h.ptl k hk; omega) (fun e => ?_), h.sg.ck hck, hp, h.bel.trans hck.below, h.ptl, hl, Nat.le_trans hw hg.size⟩
  have := h.ptl k hk
  have := (hr k e.symm).1
  omega
theorem BP.weight (h : BP lo A L g rows par w wr pv xs) {gG : Nat} (hG : g.gG = gG) {u v : Int} (huv : u ≠ v) (wu : (Lit.int .i64 u).wf = true) (wv : (Lit.int .i64 v).wf = true) {y : Nat} (hy : g.ed u v = some y) :
    Calls Tryz.prog 66 #[.pointer (some ⟨gG, 0, none⟩), .int .i64 u, .int .i64 v] wr fun ex w' => ex = .returned (.tuple #[.float .f64 y, .bool true]) ∧ BP lo A L g rows par w w' pv xs := by
  refine (weightS_at lo g hG u v wr h.sg huv wu wv).mono ?_
  rintro ex w' ⟨⟨x, rfl, hx⟩, hb⟩
  rw [hx y hy, hy]
  exact ⟨rfl, h.below hb⟩
theorem BP.setE (h : BP lo A L g rows par w wr pv xs) {gG : Nat} (hG : g.gG = gG) {u v : Int} (un : u ∈ g.ns) (vn : v ∈ g.ns) (huv : u ≠ v) (wu : (Lit.int .i64 u).wf = true) (wv : (Lit.int .i64 v).wf = true) (x : Nat) :
    Calls Tryz.prog 65 #[.pointer (some ⟨gG, 0, none⟩), eV u v x] wr fun ex w' => ex = .returned (.tuple #[]) ∧ ∃ g', BP lo A L g' rows par w w' pv xs ∧ g'.gG = gG ∧ g'.ns = g.ns ∧ ∀ a b, g'.ed a b = if a = u ∧ b = v then some x else g.ed a b := by
  refine (setE_at lo g hG u v x wr h.sg un vn huv wu wv (Nat.le_trans h.lL h.Lw)).mono ?_
  rintro ex w' ⟨rfl, g', h1, h2, _, _, h5, h6, h7⟩
  exact ⟨rfl, g', h.gk h7 h1, h2.trans hG, h5, h6⟩
end
section
variable {g g1 g2 : GS} {E : Int → Int → Bool} {r : Int → Int → Int}
/-- one arc pushed: what the graph carries then -/
theorem RG.push (h : RG g E r) {b p c : Int} (hE : E p c = true) (hb : 0 ≤ b) (hbr : b ≤ r p c) (h1 : ∀ u v, g1.ed u v = if u = p ∧ v = c then some (FLN.fl (r p c - b)) else g.ed u v) (h2 : ∀ u v, g2.ed u v = if u = c ∧ v = p then some (FLN.fl (r c p + b)) else g1.ed u v) : RG g2 E (push b p c r) := by
  have hpc : p ≠ c := fun e => by rw [e, h.irr] at hE; cases hE
  have hEs : E c p = true := by rw [h.sym]; exact hE
  have hs := fun u v => push_sum (b := b) hpc r u v
  refine ⟨fun u v => ?_, h.sym, fun u v he => ?_, h.irr, fun u v => ?_, fun u v => by rw [hs]; exact h.bd u v⟩
  · rw [h2, h1]
    by_cases e1 : u = c ∧ v = p
    · obtain ⟨rfl, rfl⟩ := e1
      rw [if_pos ⟨rfl, rfl⟩, if_pos hEs, push_bwd hpc]
    · rw [if_neg e1]
      by_cases e2 : u = p ∧ v = c
      · obtain ⟨rfl, rfl⟩ := e2
        rw [if_pos ⟨rfl, rfl⟩, if_pos hE, push_fwd hpc]
      · rw [if_neg e2, push_ne e2 e1]
        exact h.ed u v
  · rw [push_ne, h.off u v he]
    · rintro ⟨rfl, rfl⟩; rw [hE] at he; cases he
    · rintro ⟨rfl, rfl⟩; rw [hEs] at he; cases he
  · by_cases e2 : u = p ∧ v = c
    · obtain ⟨rfl, rfl⟩ := e2
      rw [push_fwd hpc]; omega
    · by_cases e1 : u = c ∧ v = p
      · obtain ⟨rfl, rfl⟩ := e1
        rw [push_bwd hpc]
        have := h.pos u v
        omega
      · rw [push_ne e2 e1]; exact h.pos u v
end
end Go.Proofs.YthkmblgehdofmaaGreat.R

/- A blocking path: computeBlockingPath follows the first parents from t up to s and pushes what can flow. -/
namespace Go.Proofs.YthkmblgehdofmaaGreat.R
open Go.RowKit Go.Lab Go.Maps Go.MV Go.Flow Go.Proofs.FLN Go.Proofs.YthkmblgehdofmaaGreatW.PrintWords Go.Proofs.YthkmblgehdofmaaGreatW.PrintLast Go.Proofs.YthkmblgehdofmaaGreatW.PrintMore PL

theorem info2y : (Tryz.prog.info? 2).map (fun i => (i.zero, i.size, i.bytes)) = some (some (.int .i64 0), 1, 8) := by kernel_rfl
theorem own_slice1 {w : World} {lo : Nat} {e : TypeId} {n : Nat} {v : Value} {xs : List Value} (h : w.ownsRow lo e 1 v n xs) : ∃ B c, v = .slice B n c ∧ n ≤ c := by
  rcases h.2 with ⟨e, e2⟩ | ⟨g, cap, cur, e, h1, h2, h3, _⟩
  · exact ⟨none, 0, by rw [e, e2], by omega⟩
  · exact ⟨_, cap, e, h3⟩
theorem toI_append2 (l m : List Nat) : toI (l ++ m) = toI l ++ toI m := List.map_append
/-- the least residual of the first j steps, as a number of the program -/
def bnF (r : Int → Int → Int) (W : List Nat) (j : Nat) : Nat := if j = 0 then infW else FLN.fl (bneck r (toI (W.take (j + 1))))
theorem bnF_zero (r : Int → Int → Int) (W : List Nat) : bnF r W 0 = infW := by unfold bnF; rw [if_pos rfl]
theorem bnF_pos (r : Int → Int → Int) (W : List Nat) {j : Nat} (h : j ≠ 0) : bnF r W j = FLN.fl (bneck r (toI (W.take (j + 1)))) := by unfold bnF; rw [if_neg h]
theorem bneck_bd {r : Int → Int → Int} {M : Int} (h0 : ∀ u v, 0 ≤ r u v) (hM : ∀ u v, r u v ≤ M) (hM0 : 0 ≤ M) : ∀ l : List Int, 0 ≤ bneck r l ∧ bneck r l ≤ M
  | [] => ⟨Int.le_refl _, hM0⟩
  | [_] => ⟨Int.le_refl _, hM0⟩
  | [a, b] => ⟨h0 b a, hM b a⟩
  | a :: b :: c :: l => by
    have ih := bneck_bd h0 hM hM0 (b :: c :: l)
    have h1 := h0 b a
    have h2 := hM b a
    show 0 ≤ min (r b a) (bneck r (b :: c :: l)) ∧ min (r b a) (bneck r (b :: c :: l)) ≤ M
    omega
theorem bn_step {g : GS} {E : Int → Int → Bool} {r : Int → Int → Int} (h : RG g E r) (W : List Nat) (j p c : Nat) (hj : j + 1 < W.length) (hc : W[j] = c) (hp : W[j + 1] = p) :
    (FloatKind.f64.format.order (FLN.fl (r p c)) (bnF r W j) = some .lt ∧ FLN.fl (r p c) = bnF r W (j + 1)) ∨ (∃ o, FloatKind.f64.format.order (FLN.fl (r p c)) (bnF r W j) = some o ∧ o ≠ .lt ∧ bnF r W j = bnF r W (j + 1)) := by
  have hb := h.le p c
  have h0 := h.pos p c
  have ht : toI (W.take (j + 2)) = toI (W.take j) ++ [(c : Int), (p : Int)] := by rw [take_snoc2 W j hj, toI_append2, hc, hp]; rfl
  have ht1 : toI (W.take (j + 1)) = toI (W.take j) ++ [(c : Int)] := by rw [take_snoc1 W j (by omega), toI_append2, hc]; rfl
  by_cases hj0 : j = 0
  · subst hj0
    left
    have e0 : bneck r (toI (W.take (0 + 2))) = r p c := by rw [ht]; rfl
    refine ⟨by rw [bnF_zero]; exact order_inf _ (by omega), ?_⟩
    rw [bnF_pos r W (by omega), show 0 + 1 + 1 = 0 + 2 from rfl, e0]
  · have hne : toI (W.take j) ≠ [] := by
      intro e
      have := congrArg List.length e
      rw [toI_len, List.length_take, List.length_nil] at this
      omega
    have hs : bneck r (toI (W.take (j + 2))) = min (bneck r (toI (W.take (j + 1)))) (r p c) := by rw [ht, ht1, bneck_snoc r _ _ _ hne]
    have e1 : bnF r W j = FLN.fl (bneck r (toI (W.take (j + 1)))) := bnF_pos r W hj0
    have e2 : bnF r W (j + 1) = FLN.fl (bneck r (toI (W.take (j + 2)))) := bnF_pos r W (by omega)
    have hbd := bneck_bd h.pos h.le (by decide) (toI (W.take (j + 1)))
    rw [e1, e2, hs]
    generalize bneck r (toI (W.take (j + 1))) = y at *
    have ho := order_fl (r p c) y (by omega) (by omega)
    rcases Int.lt_trichotomy (r p c) y with h1 | h1 | h1
    · left
      rw [cmp_lt h1] at ho
      exact ⟨ho, by rw [show min y (r p c) = r p c by omega]⟩
    · right
      rw [h1, cmp_eq] at ho
      exact ⟨_, by rw [h1]; exact ho, by decide, by rw [show min y (r p c) = y by omega]⟩
    · right
      rw [cmp_gt h1] at ho
      exact ⟨_, ho, by decide, by rw [show min y (r p c) = y by omega]⟩
theorem along_get {r : Int → Int → Int} {b : Int} : ∀ {l : List Int}, Along r b l → ∀ (j : Nat) (h : j + 1 < l.length), b ≤ r l[j + 1] l[j]
  | [], _, j, h => by simp at h
  | [_], _, j, h => by simp at h
  | a :: c :: l, ha, 0, h => ha.1
  | a :: c :: l, ha, j + 1, h => along_get (l := c :: l) ha.2 j (by simpa using h)
theorem push_step (r : Int → Int → Int) (W : List Nat) (hnd : W.Nodup) (j p c : Nat) (hj : j + 1 < W.length) (hc : W[j] = c) (hp : W[j + 1] = p) (q : Int) (hq : bneck r (toI W) = q) :
    q ≤ pushAll q (toI (W.take (j + 1))) r p c ∧ pushAll q (toI (W.take (j + 2))) r = push q p c (pushAll q (toI (W.take (j + 1))) r) := by
  have ht : toI (W.take (j + 2)) = toI (W.take j) ++ [(c : Int), (p : Int)] := by rw [take_snoc2 W j hj, toI_append2, hc, hp]; rfl
  have ht1 : toI (W.take (j + 1)) = toI (W.take j) ++ [(c : Int)] := by rw [take_snoc1 W j (by omega), toI_append2, hc]; rfl
  constructor
  · rw [pushAll_ne]
    · have hal := along_get (along_bneck r (toI W)) j (by rw [toI_len]; exact hj)
      rw [hq, toI_get W (j + 1) hj, toI_get W j (by omega), hc, hp] at hal
      exact hal
    · left
      intro hm
      obtain ⟨v, hv, e⟩ := toI_mem hm
      have e2 : p = v := Int.ofNat.inj e
      subst e2
      obtain ⟨i, hi, e3⟩ := List.mem_iff_getElem.1 hv
      rw [List.length_take] at hi
      rw [List.getElem_take] at e3
      exact (List.pairwise_iff_getElem.1 hnd) i (j + 1) (by omega) hj (by omega) (by rw [e3, hp])
  · rw [ht, pushAll_snoc, ← ht1]
/-- between two rounds: the way is followed up to its i-th node, or it is pushed -/
def BL (lo A L k s t : Nat) (g : GS) (E : Int → Int → Bool) (r : Int → Int → Int) (rows : List Value) (par : List (List Nat)) (W : List Nat) (w : World) (kq : Nat) (v9 v10 v11 : Value) (wr : World) : Prop :=
  (∃ i a : Nat, i < k ∧ kq = k + 2 - i ∧ W[i]? = some a ∧ v9 = .float .f64 0 ∧ v11 = .int .i64 (a : Int) ∧ BP lo A L g rows par w wr v10 (W.take (i + 1))) ∨
  (∃ g', v9 = .float .f64 (FLN.fl (bneck r (toI W))) ∧ v11 = .int .i64 (s : Int) ∧ BP lo A L g' rows par w wr v10 [t] ∧ g'.gG = g.gG ∧ g'.ns = g.ns ∧ RG g' E (pushAll (bneck r (toI W)) (toI W) r))
/-- while the way is pushed: j of its steps are done -/
def P2 (lo A L : Nat) (g : GS) (E : Int → Int → Bool) (r : Int → Int → Int) (q : Int) (rows : List Value) (par : List (List Nat)) (W : List Nat) (w : World) (pv : Value) (j : Nat) (wq : World) : Prop :=
  ∃ g', BP lo A L g' rows par w wq pv W ∧ g'.gG = g.gG ∧ g'.ns = g.ns ∧ RG g' E (pushAll q (toI (W.take (j + 1))) r)
end Go.Proofs.YthkmblgehdofmaaGreat.R
