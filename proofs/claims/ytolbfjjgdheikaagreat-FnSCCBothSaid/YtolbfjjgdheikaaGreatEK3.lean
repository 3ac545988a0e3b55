import Derived.Test.YtolbfjjgdheikaaGreatEK1
set_option linter.unusedVariables false
set_option linter.unusedSimpArgs false
/- What is done at each node: it is gathered. -/
namespace Go.Proofs.YtolbfjjgdheikaaGreat.R
open Go.RowKit Go.Lab Go.Maps Go.Proofs.YtolbfjjgdheikaaGreatW.PrintWords Go.Proofs.YtolbfjjgdheikaaGreatW.PrintLast Go.Proofs.YtolbfjjgdheikaaGreatW.PrintMore PL

theorem Gat.put {K : Kp} {lo : Nat} {w : World} {gv : Nat} {vv vv' : Value} {ys : List Int} (h : w.heap[gv]? = some (.cells #[vv] K.T (0, 0))) (ho : w.ownsRow lo K.E 1 vv' ys.length (K.val ys)) (hne : vv'.ownBlock ≠ some gv) : Gat K lo (w.setCell ⟨gv, 0, none⟩ vv') gv vv' ys :=
  ⟨blk_put (cs := #[vv]) h 0 _ rfl, own_of_heap ho fun k hk => Below.heap_setCell _ _ _ _ (fun e => hne (by rw [hk, e]))⟩
theorem Gat.ne {lo : Nat} {w : World} {gv : Nat} {vv : Value} {pt : List Int} (h : Gat kpI lo w gv vv pt) : vv.ownBlock ≠ some gv := fun e => by
  obtain ⟨c, hc⟩ := own_block h.own e
  exact absurd (blk_type h.blk hc) (by decide)
end Go.Proofs.YtolbfjjgdheikaaGreat.R

/- The walk's until: it calls what is done at each node, and goes on. -/
namespace Go.Proofs.YtolbfjjgdheikaaGreat.R
open Go.RowKit Go.Lab Go.Maps Go.Proofs.YtolbfjjgdheikaaGreatW.PrintWords Go.Proofs.YtolbfjjgdheikaaGreatW.PrintLast Go.Proofs.YtolbfjjgdheikaaGreatW.PrintMore PL

end Go.Proofs.YtolbfjjgdheikaaGreat.R

namespace Go.Proofs.YtolbfjjgdheikaaGreat.R
open Go.RowKit Go.Lab Go.Maps Go.Proofs.YtolbfjjgdheikaaGreatW.PrintWords Go.Proofs.YtolbfjjgdheikaaGreatW.PrintLast Go.Proofs.YtolbfjjgdheikaaGreatW.PrintMore PL

set_option maxHeartbeats 2000000 in
set_option maxRecDepth 100000 in
/-- a set that is not there holds nothing -/
theorem has_none (x : Int) (w : World) (hw : (Lit.int .i64 x).wf = true) :
    Calls Tryz.prog 95 #[.map none, .int .i64 x] w fun e w' => e = .returned (.bool false) ∧ Below w.heap.size w w' := by
  have hkey : keyOf Tryz.prog 2 (.int .i64 x) = some (.int .i64 x) := keyOf_int_mk Tryz.underlying2 hw
  have hl : ∀ w : World, (Instr.lookup 78 (.map none) (.int .i64 x) true).run Tryz.prog w = .ok (.tuple #[.agg #[], .bool false]) w := by
    intro w
    kernel_rfl
  go_enter Tryz.func95, Tryz.ntmps95
  go_wp2
  go_ret
  exact ⟨rfl, (Below.refl _ _).alloc (Nat.le_refl _) _⟩
end Go.Proofs.YtolbfjjgdheikaaGreat.R

/- Was a node visited; a walk's object made new. -/
namespace Go.Proofs.YtolbfjjgdheikaaGreat.R
open Go.RowKit Go.Lab Go.Maps Go.Proofs.YtolbfjjgdheikaaGreatW.PrintWords Go.Proofs.YtolbfjjgdheikaaGreatW.PrintLast Go.Proofs.YtolbfjjgdheikaaGreatW.PrintMore PL

set_option maxHeartbeats 2000000 in
set_option maxRecDepth 100000 in
theorem visited_some (gd gm : Nat) (vis : List Int) (x : Int) (w : World) (h : SetOk w gm vis) (hc : w.cell? ⟨gd, 3, none⟩ = some (.map (some gm))) (hw : (Lit.int .i64 x).wf = true) :
    Calls Tryz.prog 61 #[.pointer (some ⟨gd, 0, none⟩), .iface 97 (.int .i64 x)] w fun e w' => e = .returned (.bool (decide (x ∈ vis))) ∧ Below w.heap.size w w' := by
  have HS := Aside0.mk h
  have m1 := meth_ID x
  clear h
  go_enter Tryz.func61, Tryz.ntmps61
  go_wp2
  go_region_held3 (fun w' => w'.cell? ⟨gd, 3, none⟩ = some (.map (some gm)))
    (first | exact below_cellOf hbel (by assumption) | go_keep)
    (first
      | (go_at_call 202; refine (nodeID_any x _).mono ?_; rintro e w3 ⟨rfl, rfl⟩)
      | (go_at_call 95; refine (has_any gm vis x w.drew (HS.out.stay rfl) hw).mono ?_; rintro e w4 ⟨rfl, hbel⟩))
  go_wp2
  go_ret
  exact ⟨rfl, (Below.refl _ _).drew.trans (hbel.mono (by simp))⟩

set_option maxHeartbeats 2000000 in
set_option maxRecDepth 100000 in
theorem visited_none (gd : Nat) (x : Int) (w : World) (hc : w.cell? ⟨gd, 3, none⟩ = some (.map none)) (hw : (Lit.int .i64 x).wf = true) :
    Calls Tryz.prog 61 #[.pointer (some ⟨gd, 0, none⟩), .iface 97 (.int .i64 x)] w fun e w' => e = .returned (.bool false) ∧ Below w.heap.size w w' := by
  have m1 := meth_ID x
  go_enter Tryz.func61, Tryz.ntmps61
  go_wp2
  go_region_held3 (fun w' => w'.cell? ⟨gd, 3, none⟩ = some (.map none))
    (first | exact below_cellOf hbel (by assumption) | go_keep)
    (first
      | (go_at_call 202; refine (nodeID_any x _).mono ?_; rintro e w3 ⟨rfl, rfl⟩)
      | (go_at_call 95; refine (has_none x w.drew hw).mono ?_; rintro e w4 ⟨rfl, hbel⟩))
  go_wp2
  go_ret
  exact ⟨rfl, (Below.refl _ _).drew.trans (hbel.mono (by simp))⟩
end Go.Proofs.YtolbfjjgdheikaaGreat.R

/- Was a node visited; a walk's object made new. -/
namespace Go.Proofs.YtolbfjjgdheikaaGreat.R
open Go.RowKit Go.Lab Go.Maps Go.Proofs.YtolbfjjgdheikaaGreatW.PrintWords Go.Proofs.YtolbfjjgdheikaaGreatW.PrintLast Go.Proofs.YtolbfjjgdheikaaGreatW.PrintMore PL


set_option maxHeartbeats 2000000 in
set_option maxRecDepth 100000 in
/-- a walk's object that was not used yet -/
theorem reset_new (gd : Nat) (w : World) (h : w.heap[gd]? = some (.cells #[.nilFunc, .nilFunc, .slice none 0 0, .map none] 80 (0, 0))) :
    Calls Tryz.prog 60 #[.pointer (some ⟨gd, 0, none⟩)] w fun e w' => e = .returned (.tuple #[]) ∧ w'.heap[gd]? = some (.cells #[.nilFunc, .nilFunc, .slice none 0 0, .map none] 80 (0, 0)) ∧ w.grownBy w' (some gd) := by
  have c2 : w.cell? ⟨gd, 2, none⟩ = some (.slice none 0 0) := (blk_cell h 2).trans rfl
  have f2 := blk_frozen h 2
  have c3' : w.cell? ⟨gd, 3, none⟩ = some (.map none) := (blk_cell h 3).trans rfl
  have f3' := blk_frozen h 3
  have hb2 := blk_put (cs := #[.nilFunc, .nilFunc, .slice none 0 0, .map none]) h 2 (.slice none 0 0) rfl
  have c3 : (w.setCell ⟨gd, 2, none⟩ (.slice none 0 0)).cell? ⟨gd, 3, none⟩ = some (.map none) := (blk_cell hb2 3).trans rfl
  have f3 := blk_frozen hb2 3
  have H := Aside0.mk h
  clear h hb2
  go_enter Tryz.func60, Tryz.ntmps60
  go_wp2_with fail
  go_end0
  exact ⟨rfl, blk_put (blk_put H.out 2 _ rfl) 3 _ rfl, (grown_set _ _ _ _).trans (grown_set _ _ _ _)⟩
end Go.Proofs.YtolbfjjgdheikaaGreat.R

/- What ConnectedComponents does at each node: it is gathered as a node. -/
namespace Go.Proofs.YtolbfjjgdheikaaGreat.R
open Go.RowKit Go.Lab Go.Maps Go.Proofs.YtolbfjjgdheikaaGreatW.PrintWords Go.Proofs.YtolbfjjgdheikaaGreatW.PrintLast Go.Proofs.YtolbfjjgdheikaaGreatW.PrintMore PL

theorem Gat.neN {lo : Nat} {w : World} {gv : Nat} {vv : Value} {pt : List Int} (h : Gat kpN lo w gv vv pt) : vv.ownBlock ≠ some gv := fun e => by
  obtain ⟨c, hc⟩ := own_block h.own e
  exact absurd (blk_type h.blk hc) (by decide)

set_option maxHeartbeats 2000000 in
set_option maxRecDepth 100000 in
theorem dur55_any (lo gv : Nat) (vv : Value) (xs : List Int) (x : Int) (w : World) (h : Gat kpN lo w gv vv xs) (hn : xs.length ≤ 10000000) (hlo : lo ≤ w.heap.size) :
    Calls Tryz.prog 55 #[.iface 97 (.int .i64 x), .pointer (some ⟨gv, 0, none⟩)] w fun e w' => e = .returned (.tuple #[]) ∧ ∃ vv' w1, Gat kpN lo w' gv vv' (xs ++ [x]) ∧ w.grownBy w1 vv.ownBlock ∧ w1.grownBy w' (some gv) ∧ (vv'.ownBlock = vv.ownBlock ∨ ∃ q, vv'.ownBlock = some q ∧ w.heap.size ≤ q) := by
  obtain ⟨A, c, rfl⟩ := own_slice h.own
  have hblk0 : w.heap[gv]? = some (.cells #[.slice A xs.length c] 68 (0, 0)) := h.blk
  have hown0 : w.ownsRow lo 72 1 (.slice A xs.length c) xs.length (nodeVs xs) := h.own
  have h2 : w.cell? ⟨gv, 0, none⟩ = some (.slice A xs.length c) := (blk_cell hblk0 0).trans rfl
  have hf := blk_frozen hblk0 0
  have hgl := blk_lt hblk0
  have HO := Aside0.mk hown0
  have HBK := Aside0.mk hblk0
  have HNE := Aside0.mk h.neN
  obtain ⟨i0, hi, hz0, hz1, hz2⟩ := info_parts Tryz.info72
  have HI := Aside0.mk (And.intro hi (And.intro hz0 (And.intro hz1 hz2)))
  clear h hi hz0 hz1 hz2 hblk0 hown0
  go_enter Tryz.func55, Tryz.ntmps55
  go_wp2_with (at_builtin; refine wpList_append_own_at _ rfl _ _ 68 rfl lo 72 i0 .nilIface 1 16 Tryz.underlying68 HI.out.1 HI.out.2.1 HI.out.2.2.1 HI.out.2.2.2 rfl (by decide) _ xs.length (nodeVs xs) rfl (World.ownsRow.alloc HO.out _) ⟨w.heap.size, 0, none⟩ 1 1 [.iface 97 (.int .i64 x)] rfl rfl (cell_one_new _ _ _) ?q2 ?q3 ?q4 ?q5 ?_)
  case q2 => intro u hu; simp at hu; subst hu; rfl
  case q3 => unfold maxLen; omega
  case q4 => omega
  case q5 => simp; omega
  intro v' w1 hown hgr _ hat
  obtain ⟨A', c', rfl⟩ := own_slice hown
  have hg0 := (World.grownBy_alloc w (.cells #[.iface 97 (.int .i64 x)] 72) (Value.slice A xs.length c).ownBlock).trans hgr
  have hblk := (hg0.block gv hgl (fun e => HNE.out e.symm)).trans HBK.out
  have hc2 : w1.cell? ⟨gv, 0, none⟩ = some (.slice A xs.length c) := (blk_cell hblk 0).trans rfl
  have hf2 := blk_frozen hblk 0
  have hne : (Value.slice A' (xs.length + 1) c').ownBlock ≠ some gv := fun e => by
    obtain ⟨cc, hcc⟩ := own_block hown e
    exact absurd (blk_type hblk hcc) (by decide)
  have HS := Aside0.mk (show Gat kpN lo (w1.setCell ⟨gv, 0, none⟩ (Value.slice A' (xs.length + 1) c')) gv (Value.slice A' (xs.length + 1) c') (xs ++ [x]) from Gat.put hblk (show w1.ownsRow lo 72 1 (Value.slice A' (xs.length + 1) c') (xs ++ [x]).length (nodeVs (xs ++ [x])) by rw [nodeVs_append, List.length_append]; exact hown) hne)
  have HG := Aside0.mk hg0
  clear hown hgr hg0 hblk hne
  go_wp2
  go_end0
  exact ⟨rfl, _, w1, HS.out, HG.out, grown_set _ _ _ _, hat.imp id (fun h => ⟨_, h, by simp⟩)⟩

def durN (gv : Nat) : Value := .func (.func 55) #[] #[.pointer (some ⟨gv, 0, none⟩)]
theorem vnN (gv : Nat) (w : World) : (binOp .neq 74 (.func (.func 55) #[] #[.pointer (some ⟨gv, 0, none⟩)]) .nilFunc).run Tryz.prog w = .ok (.bool true) w := by kernel_rfl

set_option maxHeartbeats 2000000 in
set_option maxRecDepth 100000 in
theorem untilN (lo gv gu : Nat) : UntilOk kpN lo gv gu (durN gv) := by
  intro w vv pt x hg hn hlo hc
  unfold durN at hc
  have k := vnN gv
  have HG := Aside0.mk hg
  clear hg
  go_enter Tryz.func63, Tryz.ntmps63
  go_wp2_with (go_at_call 55; refine (dur55_any lo gv vv pt x _ HG.out hn hlo).mono ?_; rintro e w1 ⟨rfl, vv', w2, h1, h2, h3, h4⟩; have H1 := Aside0.mk (And.intro h1 (And.intro h2 (And.intro h3 h4))); clear h1 h2 h3 h4)
  go_ret
  exact ⟨rfl, vv', w2, H1.out.1, H1.out.2.1, H1.out.2.2.1, H1.out.2.2.2⟩
end Go.Proofs.YtolbfjjgdheikaaGreat.R

/- The parts that were laid down, as rows of their own. -/
namespace Go.Proofs.YtolbfjjgdheikaaGreat.R
open Go.RowKit Go.Lab Go.Maps Go.Proofs.YtolbfjjgdheikaaGreatW.PrintWords Go.Proofs.YtolbfjjgdheikaaGreatW.PrintLast Go.Proofs.YtolbfjjgdheikaaGreatW.PrintMore PL

/-- the parts, in a variable: a row of rows (TL: the variable's type) -/
structure Rws (K : Kp) (TL : TypeId) (lo : Nat) (w : World) (gl : Nat) (lv : Value) (rows : List Value) (ps : List (List Int)) : Prop where
  blk : w.heap[gl]? = some (.cells #[lv] TL (0, 0))
  own : w.ownsRow lo K.T 1 lv rows.length rows
  len : rows.length = ps.length
  each : ∀ (i : Nat) (h : i < rows.length), w.ownsRow lo K.E 1 rows[i] (ps.getD i []).length (K.val (ps.getD i []))
theorem Rws.stay {K : Kp} {TL : TypeId} {lo : Nat} {w w1 : World} {gl : Nat} {lv : Value} {rows : List Value} {ps : List (List Int)} (h : Rws K TL lo w gl lv rows ps) (h1 : w1.heap[gl]? = w.heap[gl]?) (h2 : ∀ k, lv.ownBlock = some k → w1.heap[k]? = w.heap[k]?) (h3 : ∀ v ∈ rows, ∀ k, v.ownBlock = some k → w1.heap[k]? = w.heap[k]?) : Rws K TL lo w1 gl lv rows ps :=
  ⟨h1.trans h.blk, own_of_heap h.own h2, h.len, fun i hi => own_of_heap (h.each i hi) (h3 _ (List.getElem_mem hi))⟩
/-- a new row behind the others -/
theorem Rws.snoc {K : Kp} {TL : TypeId} {lo : Nat} {w : World} {gl : Nat} {lv : Value} {rows : List Value} {ps : List (List Int)} {v : Value} {pt : List Int} (h1 : w.heap[gl]? = some (.cells #[lv] TL (0, 0))) (h2 : w.ownsRow lo K.T 1 lv (rows ++ [v]).length (rows ++ [v])) (hl : rows.length = ps.length)
    (h3 : ∀ (i : Nat) (h : i < rows.length), w.ownsRow lo K.E 1 rows[i] (ps.getD i []).length (K.val (ps.getD i []))) (h4 : w.ownsRow lo K.E 1 v pt.length (K.val pt)) : Rws K TL lo w gl lv (rows ++ [v]) (ps ++ [pt]) := by
  refine ⟨h1, h2, by simp [hl], fun i hi => ?_⟩
  rw [List.length_append, List.length_singleton] at hi
  by_cases hlt : i < rows.length
  · have e1 : (rows ++ [v])[i]'(by simp; omega) = rows[i] := List.getElem_append_left hlt
    have e2 : (ps ++ [pt]).getD i [] = ps.getD i [] := by
      rw [List.getD_eq_getElem?_getD, List.getD_eq_getElem?_getD, List.getElem?_append_left (by omega)]
    rw [e1, e2]
    exact h3 i hlt
  · have hi2 : i = rows.length := by omega
    subst hi2
    have e1 : (rows ++ [v])[rows.length]'(by simp) = v := by simp
    have e2 : (ps ++ [pt]).getD rows.length [] = pt := by
      rw [hl, List.getD_eq_getElem?_getD]; simp
    rw [e1, e2]
    exact h4
end Go.Proofs.YtolbfjjgdheikaaGreat.R
