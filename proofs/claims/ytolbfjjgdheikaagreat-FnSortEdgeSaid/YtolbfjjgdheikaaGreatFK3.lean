import Derived.Test.YtolbfjjgdheikaaGreatFK1
set_option linter.unusedVariables false
set_option linter.unusedSimpArgs false
/- What is done at each node: it is gathered. -/
namespace Go.Proofs.YtolbfjjgdheikaaGreat.R
open Go.RowKit Go.Lab Go.Maps Go.Proofs.YtolbfjjgdheikaaGreatW.PrintWords Go.Proofs.YtolbfjjgdheikaaGreatW.PrintLast Go.Proofs.YtolbfjjgdheikaaGreatW.PrintMore PL

theorem Gat.put {K : Kp} {lo : Nat} {w : World} {gv : Nat} {vv vv' : Value} {ys : List Int} (h : w.heap[gv]? = some (.cells #[vv] K.T (0, 0))) (ho : w.ownsRow lo K.E 1 vv' ys.length (K.val ys)) (hne : vv'.ownBlock ≠ some gv) : Gat K lo (w.setCell ⟨gv, 0, none⟩ vv') gv vv' ys :=
  ⟨blk_put (cs := #[vv]) h 0 _ rfl, own_of_heap ho fun k hk => Below.heap_setCell _ _ _ _ (fun e => hne (by rw [hk, e]))⟩
theorem Gat.ne {lo : Nat} {w : World} {gv : Nat} {vv : Value} {pt : List Int} (h : Gat kpI lo w gv vv pt) : vv.ownBlock ≠ some gv := fun e => by
  obtain ⟨c, hc⟩ := own_block h.own e
  exact absurd (blk_type h.blk hc) (by decide)
end Go.Proofs.YtolbfjjgdheikaaGreat.R

/- The walk's until: it calls what is done at each node, and goes on. -/
namespace Go.Proofs.YtolbfjjgdheikaaGreat.R
open Go.RowKit Go.Lab Go.Maps Go.Proofs.YtolbfjjgdheikaaGreatW.PrintWords Go.Proofs.YtolbfjjgdheikaaGreatW.PrintLast Go.Proofs.YtolbfjjgdheikaaGreatW.PrintMore PL

end Go.Proofs.YtolbfjjgdheikaaGreat.R

namespace Go.Proofs.YtolbfjjgdheikaaGreat.R
open Go.RowKit Go.Lab Go.Maps Go.Proofs.YtolbfjjgdheikaaGreatW.PrintWords Go.Proofs.YtolbfjjgdheikaaGreatW.PrintLast Go.Proofs.YtolbfjjgdheikaaGreatW.PrintMore PL

set_option maxHeartbeats 2000000 in
set_option maxRecDepth 100000 in
/-- a set that is not there holds nothing -/
theorem has_none (x : Int) (w : World) (hw : (Lit.int .i64 x).wf = true) :
    Calls Tryz.prog 95 #[.map none, .int .i64 x] w fun e w' => e = .returned (.bool false) ∧ Below w.heap.size w w' := by
  have hkey : keyOf Tryz.prog 2 (.int .i64 x) = some (.int .i64 x) := keyOf_int_mk Tryz.underlying2 hw
  have hl : ∀ w : World, (Instr.lookup 78 (.map none) (.int .i64 x) true).run Tryz.prog w = .ok (.tuple #[.agg #[], .bool false]) w := by
    intro w
    kernel_rfl
  go_enter Tryz.func95, Tryz.ntmps95
  go_wp2
  go_ret
  exact ⟨rfl, (Below.refl _ _).alloc (Nat.le_refl _) _⟩
end Go.Proofs.YtolbfjjgdheikaaGreat.R

/- Was a node visited; a walk's object made new. -/
namespace Go.Proofs.YtolbfjjgdheikaaGreat.R
open Go.RowKit Go.Lab Go.Maps Go.Proofs.YtolbfjjgdheikaaGreatW.PrintWords Go.Proofs.YtolbfjjgdheikaaGreatW.PrintLast Go.Proofs.YtolbfjjgdheikaaGreatW.PrintMore PL

set_option maxHeartbeats 2000000 in
set_option maxRecDepth 100000 in
theorem visited_some (gd gm : Nat) (vis : List Int) (x : Int) (w : World) (h : SetOk w gm vis) (hc : w.cell? ⟨gd, 3, none⟩ = some (.map (some gm))) (hw : (Lit.int .i64 x).wf = true) :
    Calls Tryz.prog 61 #[.pointer (some ⟨gd, 0, none⟩), .iface 97 (.int .i64 x)] w fun e w' => e = .returned (.bool (decide (x ∈ vis))) ∧ Below w.heap.size w w' := by
  have HS := Aside0.mk h
  have m1 := meth_ID x
  clear h
  go_enter Tryz.func61, Tryz.ntmps61
  go_wp2
  go_region_held3 (fun w' => w'.cell? ⟨gd, 3, none⟩ = some (.map (some gm)))
    (first | exact below_cellOf hbel (by assumption) | go_keep)
    (first
      | (go_at_call 202; refine (nodeID_any x _).mono ?_; rintro e w3 ⟨rfl, rfl⟩)
      | (go_at_call 95; refine (has_any gm vis x w.drew (HS.out.stay rfl) hw).mono ?_; rintro e w4 ⟨rfl, hbel⟩))
  go_wp2
  go_ret
  exact ⟨rfl, (Below.refl _ _).drew.trans (hbel.mono (by simp))⟩

set_option maxHeartbeats 2000000 in
set_option maxRecDepth 100000 in
theorem visited_none (gd : Nat) (x : Int) (w : World) (hc : w.cell? ⟨gd, 3, none⟩ = some (.map none)) (hw : (Lit.int .i64 x).wf = true) :
    Calls Tryz.prog 61 #[.pointer (some ⟨gd, 0, none⟩), .iface 97 (.int .i64 x)] w fun e w' => e = .returned (.bool false) ∧ Below w.heap.size w w' := by
  have m1 := meth_ID x
  go_enter Tryz.func61, Tryz.ntmps61
  go_wp2
  go_region_held3 (fun w' => w'.cell? ⟨gd, 3, none⟩ = some (.map none))
    (first | exact below_cellOf hbel (by assumption) | go_keep)
    (first
      | (go_at_call 202; refine (nodeID_any x _).mono ?_; rintro e w3 ⟨rfl, rfl⟩)
      | (go_at_call 95; refine (has_none x w.drew hw).mono ?_; rintro e w4 ⟨rfl, hbel⟩))
  go_wp2
  go_ret
  exact ⟨rfl, (Below.refl _ _).drew.trans (hbel.mono (by simp))⟩
end Go.Proofs.YtolbfjjgdheikaaGreat.R

/- Was a node visited; a walk's object made new. -/
namespace Go.Proofs.YtolbfjjgdheikaaGreat.R
open Go.RowKit Go.Lab Go.Maps Go.Proofs.YtolbfjjgdheikaaGreatW.PrintWords Go.Proofs.YtolbfjjgdheikaaGreatW.PrintLast Go.Proofs.YtolbfjjgdheikaaGreatW.PrintMore PL


end Go.Proofs.YtolbfjjgdheikaaGreat.R

/- What ConnectedComponents does at each node: it is gathered as a node. -/
namespace Go.Proofs.YtolbfjjgdheikaaGreat.R
open Go.RowKit Go.Lab Go.Maps Go.Proofs.YtolbfjjgdheikaaGreatW.PrintWords Go.Proofs.YtolbfjjgdheikaaGreatW.PrintLast Go.Proofs.YtolbfjjgdheikaaGreatW.PrintMore PL

end Go.Proofs.YtolbfjjgdheikaaGreat.R

/- The parts that were laid down, as rows of their own. -/
namespace Go.Proofs.YtolbfjjgdheikaaGreat.R
open Go.RowKit Go.Lab Go.Maps Go.Proofs.YtolbfjjgdheikaaGreatW.PrintWords Go.Proofs.YtolbfjjgdheikaaGreatW.PrintLast Go.Proofs.YtolbfjjgdheikaaGreatW.PrintMore PL

/-- the parts, in a variable: a row of rows (TL: the variable's type) -/
structure Rws (K : Kp) (TL : TypeId) (lo : Nat) (w : World) (gl : Nat) (lv : Value) (rows : List Value) (ps : List (List Int)) : Prop where
  blk : w.heap[gl]? = some (.cells #[lv] TL (0, 0))
  own : w.ownsRow lo K.T 1 lv rows.length rows
  len : rows.length = ps.length
  each : ∀ (i : Nat) (h : i < rows.length), w.ownsRow lo K.E 1 rows[i] (ps.getD i []).length (K.val (ps.getD i []))
theorem Rws.stay {K : Kp} {TL : TypeId} {lo : Nat} {w w1 : World} {gl : Nat} {lv : Value} {rows : List Value} {ps : List (List Int)} (h : Rws K TL lo w gl lv rows ps) (h1 : w1.heap[gl]? = w.heap[gl]?) (h2 : ∀ k, lv.ownBlock = some k → w1.heap[k]? = w.heap[k]?) (h3 : ∀ v ∈ rows, ∀ k, v.ownBlock = some k → w1.heap[k]? = w.heap[k]?) : Rws K TL lo w1 gl lv rows ps :=
  ⟨h1.trans h.blk, own_of_heap h.own h2, h.len, fun i hi => own_of_heap (h.each i hi) (h3 _ (List.getElem_mem hi))⟩
/-- a new row behind the others -/
theorem Rws.snoc {K : Kp} {TL : TypeId} {lo : Nat} {w : World} {gl : Nat} {lv : Value} {rows : List Value} {ps : List (List Int)} {v : Value} {pt : List Int} (h1 : w.heap[gl]? = some (.cells #[lv] TL (0, 0))) (h2 : w.ownsRow lo K.T 1 lv (rows ++ [v]).length (rows ++ [v])) (hl : rows.length = ps.length)
    (h3 : ∀ (i : Nat) (h : i < rows.length), w.ownsRow lo K.E 1 rows[i] (ps.getD i []).length (K.val (ps.getD i []))) (h4 : w.ownsRow lo K.E 1 v pt.length (K.val pt)) : Rws K TL lo w gl lv (rows ++ [v]) (ps ++ [pt]) := by
  refine ⟨h1, h2, by simp [hl], fun i hi => ?_⟩
  rw [List.length_append, List.length_singleton] at hi
  by_cases hlt : i < rows.length
  · have e1 : (rows ++ [v])[i]'(by simp; omega) = rows[i] := List.getElem_append_left hlt
    have e2 : (ps ++ [pt]).getD i [] = ps.getD i [] := by
      rw [List.getD_eq_getElem?_getD, List.getD_eq_getElem?_getD, List.getElem?_append_left (by omega)]
    rw [e1, e2]
    exact h3 i hlt
  · have hi2 : i = rows.length := by omega
    subst hi2
    have e1 : (rows ++ [v])[rows.length]'(by simp) = v := by simp
    have e2 : (ps ++ [pt]).getD rows.length [] = pt := by
      rw [hl, List.getD_eq_getElem?_getD]; simp
    rw [e1, e2]
    exact h4
end Go.Proofs.YtolbfjjgdheikaaGreat.R
