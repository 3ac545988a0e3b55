import Derived.Test.YtolbfjjgdheikaaGreatFB1
import Derived.Test.YtolbfjjgdheikaaGreatFB5
import Derived.Test.YtolbfjjgdheikaaGreatFB4
import Derived.Maps.OwnSet
import Derived.Maps.AppendAt
import Derived.OwnWalk
import Derived.Deep.RegionLawGrows
set_option linter.unusedVariables false
set_option linter.unusedSimpArgs false
/- A law of no program: append of whatever slice is read, the nil one too, onto a row of the call's own. -/
namespace Go.Lab
open Go.RowKit

end Go.Lab


/- A set of nodes, a stack of nodes. -/
namespace Go.Proofs.YtolbfjjgdheikaaGreat.R
open Go.RowKit Go.Lab Go.Maps Go.Proofs.YtolbfjjgdheikaaGreatW.PrintWords Go.Proofs.YtolbfjjgdheikaaGreatW.PrintLast Go.Proofs.YtolbfjjgdheikaaGreatW.PrintMore PL

theorem lawS2 : Keyed Tryz.prog 2 := int_keyed Tryz.underlying2
theorem zero234 (w : World) : (zeroValue 194).run Tryz.prog w = .ok (.agg #[]) w := by kernel_rfl

/-- block gm is a set of just these numbers -/
structure SetOk (w : World) (gm : Nat) (vis : List Int) : Prop where
  ex : ∃ (n : Nat) (D : DataW Unit), w.ownsMap Tryz.prog 2 unitElem gm n D ∧ n ≤ vis.length ∧ ∀ x, Maps.has D (.int .i64 x) = decide (x ∈ vis)
theorem SetOk.lt {w : World} {gm : Nat} {vis : List Int} (h : SetOk w gm vis) : gm < w.heap.size := by
  obtain ⟨n, D, h1, _, _⟩ := h.ex
  exact h1.lt
theorem SetOk.stay {w w1 : World} {gm : Nat} {vis : List Int} (h : SetOk w gm vis) (hm : w1.heap[gm]? = w.heap[gm]?) : SetOk w1 gm vis := by
  obtain ⟨n, D, ⟨es, clock, hb, hr⟩, h2, h3⟩ := h.ex
  exact ⟨n, D, ⟨es, clock, hm.trans hb, hr⟩, h2, h3⟩
theorem SetOk.made (w : World) : SetOk (w.alloc (.map #[] 0)) w.heap.size [] :=
  ⟨0, .map [], World.ownsMap_made _ _ _ _, Nat.le_refl _, fun x => by simp [Maps.has]⟩

set_option maxHeartbeats 1000000 in
theorem has_any (gm : Nat) (vis : List Int) (x : Int) (w : World) (h : SetOk w gm vis) (hw : (Lit.int .i64 x).wf = true) :
    Calls Tryz.prog 95 #[.map (some gm), .int .i64 x] w fun e w' => e = .returned (.bool (decide (x ∈ vis))) ∧ Below w.heap.size w w' := by
  obtain ⟨n, D, hown, hn, hh⟩ := h.ex
  have hkey : keyOf Tryz.prog 2 (.int .i64 x) = some (.int .i64 x) := keyOf_int_mk Tryz.underlying2 hw
  have HH := Aside0.mk (hh x)
  clear hh
  go_enter Tryz.func95, Tryz.ntmps95
  go_wp2_with (at_lookup; refine wpList_lookup_own_unit _ rfl _ _ 78 rfl 2 194 lawS2 Tryz.underlying78 (zero234 _) gm n D rfl hown _ _ rfl hkey ?_)
  go_ret
  exact ⟨by rw [← HH.out]; rfl, (Below.refl _ _).alloc (Nat.le_refl _) _⟩

set_option maxHeartbeats 1000000 in
theorem add_any (gm : Nat) (vis : List Int) (x : Int) (w : World) (h : SetOk w gm vis) (hw : (Lit.int .i64 x).wf = true) (hl : vis.length ≤ 10000000) :
    Calls Tryz.prog 99 #[.map (some gm), .int .i64 x] w fun e w' => e = .returned (.tuple #[]) ∧ SetOk w' gm (vis ++ [x]) ∧ w.grownBy w' (some gm) := by
  obtain ⟨n, D, hown, hn, hh⟩ := h.ex
  have hkey : keyOf Tryz.prog 2 (.int .i64 x) = some (.int .i64 x) := keyOf_int_mk Tryz.underlying2 hw
  have HH := Aside0.mk hh
  have HM := Aside0.mk hown.isMap
  clear hh
  go_enter Tryz.func99, Tryz.ntmps99
  go_wp2_with (at_mapUpdate; refine wpList_mapUpdate_own _ rfl _ _ _ 78 rfl 2 194 lawS2 Tryz.underlying78 (unitElem (H := Unit)) gm n D rfl hown (by unfold maxLen; omega) _ _ _ rfl rfl hkey _ [] unitElem_mk ?_; intro w1 hown1 hgrow1; have HG := Aside0.mk (And.intro hown1 hgrow1); clear hown1 hgrow1)
  go_end0
  refine ⟨rfl, ⟨n + 1, _, HG.out.1, by simp; omega, fun y => ?_⟩, HG.out.2⟩
  by_cases hy : y = x
  · subst hy
    rw [Maps.has_put_same HM.out (show WideAt.IsKeyLit (.int .i64 y) from trivial)]; simp
  · rw [Maps.has_put_other (fun e => hy (by injection e)), HH.out y]
    simp [hy]

theorem nodeVs_append (a b : List Int) : nodeVs (a ++ b) = nodeVs a ++ nodeVs b := by unfold nodeVs; simp
theorem nodeVs_len (a : List Int) : (nodeVs a).length = a.length := by unfold nodeVs; simp
theorem grown_set (w : World) (g i : Nat) (v : Value) : w.grownBy (w.setCell ⟨g, i, none⟩ v) (some g) :=
  ⟨rfl, rfl, rfl, by simp, fun k hk hn => Below.heap_setCell _ _ _ _ (fun e => hn (by rw [e]))⟩
/-- the beginning of a row -/
theorem own_cut {w : World} {base : Nat} {e : TypeId} {g n cap m : Nat} {xs : List Value} (h : w.ownsRow base e 1 (.slice (some ⟨g, 0, none⟩) n cap) n xs) (hm : m ≤ n) : w.ownsRow base e 1 (.slice (some ⟨g, 0, none⟩) m cap) m (xs.take m) := by
  obtain ⟨h1, h2⟩ := h
  rcases h2 with ⟨hv, _⟩ | ⟨g', cap', cur, hv, h3, h4, h5, h6, h7, h8⟩
  · cases hv
  · simp only [Value.slice.injEq, Option.some.injEq, Addr.mk.injEq] at hv
    obtain ⟨⟨rfl, _⟩, _, rfl⟩ := hv
    refine ⟨by rw [List.length_take]; omega, .inr ⟨g, cap, cur, rfl, h3, h4, by omega, h6, h7, ?_⟩⟩
    rw [← h8, List.take_take]
    congr 1
    omega
theorem own_cells {w : World} {base : Nat} {e : TypeId} {v : Value} {n : Nat} {xs : List Value} (h : w.ownsRow base e 1 v n xs) (h0 : 0 < n) : ∃ g c, v = .slice (some ⟨g, 0, none⟩) n c ∧ n ≤ c ∧ (∀ j u, xs[j]? = some u → w.cell? ⟨g, j, none⟩ = some u) ∧ (∃ cur, w.heap[g]? = some (.cells cur e (0, 0))) := by
  have hc := h
  rcases h.2 with ⟨_, h2⟩ | ⟨g, cap, cur, rfl, h3, h4, h5, h6, h7, h8⟩
  · omega
  · refine ⟨g, cap, rfl, h5, fun j u hu => ?_, cur, h4⟩
    have := hc.cells (g := g) rfl j u hu
    have hadd : (⟨g, 0, none⟩ : Addr).add j = ⟨g, j, none⟩ := by unfold Addr.add; split <;> simp_all
    rwa [hadd] at this

/-- a walk's object in block gd with its stack -/
structure Stk (lo : Nat) (w : World) (gd : Nat) (vf tf mp st : Value) (xs : List Int) : Prop where
  blk : w.heap[gd]? = some (.cells #[vf, tf, st, mp] 80 (0, 0))
  own : w.ownsRow lo 72 1 st xs.length (nodeVs xs)
theorem Stk.ne {lo : Nat} {w : World} {gd : Nat} {vf tf mp st : Value} {xs : List Int} (h : Stk lo w gd vf tf mp st xs) : st.ownBlock ≠ some gd := fun e => by
  obtain ⟨c, hc⟩ := own_block h.own e
  exact absurd (blk_type h.blk hc) (by decide)
theorem Stk.put {lo : Nat} {w : World} {gd : Nat} {vf tf mp st st' : Value} {ys : List Int} (h : w.heap[gd]? = some (.cells #[vf, tf, st, mp] 80 (0, 0))) (ho : w.ownsRow lo 72 1 st' ys.length (nodeVs ys)) (hne : st'.ownBlock ≠ some gd) : Stk lo (w.setCell ⟨gd, 2, none⟩ st') gd vf tf mp st' ys :=
  ⟨blk_put (cs := #[vf, tf, st, mp]) h 2 _ rfl, own_of_heap ho fun k hk => Below.heap_setCell _ _ _ _ (fun e => hne (by rw [hk, e]))⟩

set_option maxHeartbeats 1000000 in
theorem slen_any (lo gd : Nat) (vf tf mp st : Value) (xs : List Int) (w : World) (h : Stk lo w gd vf tf mp st xs) :
    Calls Tryz.prog 97 #[.pointer (some ⟨gd, 2, none⟩)] w fun e w' => e = .returned (.int .i64 xs.length) ∧ w = w' := by
  obtain ⟨A, c, rfl⟩ := own_slice h.own
  have h2 : w.cell? ⟨gd, 2, none⟩ = some (.slice A xs.length c) := (blk_cell h.blk 2).trans rfl
  clear h
  go_enter Tryz.func97, Tryz.ntmps97
  go_wp2
  go_ret
  exact ⟨rfl, rfl⟩

set_option maxHeartbeats 2000000 in
set_option maxRecDepth 100000 in
theorem spop_any (lo gd : Nat) (vf tf mp st : Value) (s : List Int) (u : Int) (w : World) (h : Stk lo w gd vf tf mp st (s ++ [u])) (hn : s.length ≤ 10000000) :
    Calls Tryz.prog 98 #[.pointer (some ⟨gd, 2, none⟩)] w fun e w' => e = .returned (.iface 97 (.int .i64 u)) ∧ ∃ st', Stk lo w' gd vf tf mp st' s ∧ st'.ownBlock = st.ownBlock ∧ w.grownBy w' (some gd) := by
  have hl : (s ++ [u]).length = s.length + 1 := by simp
  obtain ⟨g, c, rfl, hc, hcell, _⟩ := own_cells h.own (by omega)
  have h2 : w.cell? ⟨gd, 2, none⟩ = some (.slice (some ⟨g, 0, none⟩) (s.length + 1) c) := (blk_cell h.blk 2).trans (by rw [hl]; rfl)
  have hf := blk_frozen h.blk 2
  have hu : w.cell? ⟨g, s.length, none⟩ = some (.iface 97 (.int .i64 u)) := hcell s.length _ (by rw [nodeVs_append, List.getElem?_append_right (by rw [nodeVs_len]; exact Nat.le_refl _), nodeVs_len]; simp [nodeVs, nodeV])
  have hcut := own_cut h.own (m := s.length) (by omega)
  rw [nodeVs_append, List.take_left' (nodeVs_len s)] at hcut
  have hne := h.ne
  have HS := Aside0.mk (show Stk lo (w.setCell ⟨gd, 2, none⟩ (.slice (some ⟨g, 0, none⟩) s.length c)) gd vf tf mp (.slice (some ⟨g, 0, none⟩) s.length c) s from Stk.put h.blk hcut hne)
  rw [hl] at hc
  clear h hcell hcut hne hl
  go_enter Tryz.func98, Tryz.ntmps98
  go_wp2
  go_region
  all_goals
    go_wp2
    go_ret
    exact ⟨rfl, _, ⟨HS.out.blk, HS.out.own⟩, rfl, (grown_set w gd 2 _).trans (grownBy_drew _ _)⟩
end Go.Proofs.YtolbfjjgdheikaaGreat.R


/- spec.sortInts: it sorts. -/
namespace Go.Proofs.YtolbfjjgdheikaaGreat.Q
open Go.RowKit Go.Lab Go.Proofs.YtolbfjjgdheikaaGreatW.PrintWords Go.Proofs.YtolbfjjgdheikaaGreatW.PrintLast Go.Proofs.YtolbfjjgdheikaaGreatW.PrintMore

end Go.Proofs.YtolbfjjgdheikaaGreat.Q

namespace Go.Proofs.YtolbfjjgdheikaaGreat.PL
open Go.RowKit Go.Lab Go.Proofs.YtolbfjjgdheikaaGreatW.PrintWords Go.Proofs.YtolbfjjgdheikaaGreatW.PrintLast Go.Proofs.YtolbfjjgdheikaaGreatW.PrintMore Go.Proofs.YtolbfjjgdheikaaGreat.Q
end Go.Proofs.YtolbfjjgdheikaaGreat.PL


/- What stays through a walk; Push; what the walk's functions do. -/
namespace Go.Proofs.YtolbfjjgdheikaaGreat.R
open Go.RowKit Go.Lab Go.Maps Go.Proofs.YtolbfjjgdheikaaGreatW.PrintWords Go.Proofs.YtolbfjjgdheikaaGreatW.PrintLast Go.Proofs.YtolbfjjgdheikaaGreatW.PrintMore PL

/-- all blocks but some stay -/
structure KeepF (M : Nat → Prop) (w w' : World) : Prop where
  os : w'.os = w.os
  tape : w'.tape = w.tape
  output : w'.output = w.output
  size : w.heap.size ≤ w'.heap.size
  block : ∀ k, k < w.heap.size → ¬ M k → w'.heap[k]? = w.heap[k]?
theorem KeepF.refl (M : Nat → Prop) (w : World) : KeepF M w w := ⟨rfl, rfl, rfl, Nat.le_refl _, fun _ _ _ => rfl⟩
theorem KeepF.trans {M : Nat → Prop} {a b c : World} (h : KeepF M a b) (k : KeepF M b c) : KeepF M a c :=
  ⟨k.os.trans h.os, k.tape.trans h.tape, k.output.trans h.output, Nat.le_trans h.size k.size, fun i hi ho => (k.block i (Nat.lt_of_lt_of_le hi h.size) ho).trans (h.block i hi ho)⟩
theorem KeepF.of_grown {M : Nat → Prop} {w w' : World} {o : Option Nat} (h : w.grownBy w' o) (hm : ∀ k, o = some k → M k) : KeepF M w w' := by
  obtain ⟨h1, h2, h3, h4, h5⟩ := h
  exact ⟨h1, h2, h3, h4, fun k hk hn => h5 k hk (fun e => hn (hm k e.symm))⟩
theorem KeepF.of_below {M : Nat → Prop} {w w' : World} (h : Below w.heap.size w w') : KeepF M w w' := ⟨h.os, h.tape, h.output, h.size, fun k hk _ => h.block k hk⟩
theorem KeepF.below {M : Nat → Prop} {w w' : World} (h : KeepF M w w') {B : Nat} (hB : B ≤ w.heap.size) (hm : ∀ k, M k → B ≤ k) : Below B w w' :=
  ⟨h.os, h.tape, h.output, h.size, fun k hk => h.block k (Nat.lt_of_lt_of_le hk hB) (fun hM => by have := hm k hM; omega)⟩
theorem KeepF.cell {M : Nat → Prop} {w w' : World} (h : KeepF M w w') {a : Addr} {v : Value} (hc : w.cell? a = some v) (hm : ¬ M a.block) : w'.cell? a = some v := by
  rw [World.cell?_of_block (h.block a.block (World.block_lt_of_cell? w a hc) hm)]; exact hc

/-- a plain graph stays while its kinds of blocks do -/
theorem PlOk.kinds {w w1 : World} {base bp : Nat} {p : Pl} (h : PlOk w base bp p) (hk : ∀ (k : Nat) (c : Array Value) (t : TypeId), w.heap[k]? = some (Obj.cells c t (0, 0)) → t = 140 ∨ t = 2 ∨ t = 176 ∨ t = 208 → w1.heap[k]? = w.heap[k]?) : PlOk w1 base bp p := by
  obtain ⟨ro, ri, vi, vo, vn, hp⟩ := h
  have ho : ∀ {e : TypeId} {size n : Nat} {v : Value} {xs : List Value}, (e = 140 ∨ e = 2 ∨ e = 176 ∨ e = 208) → w.ownsRow base e size v n xs → w1.ownsRow base e size v n xs := fun he h => own_of_heap h fun k hk' => by
    obtain ⟨c, hc⟩ := own_block h hk'
    exact hk k c _ hc he
  refine ⟨ro, ri, vi, vo, vn, ⟨(hk bp _ _ hp.blk (by simp)).trans hp.blk, hp.hb, ho (by simp) hp.ids, ?_, hp.po, hp.pi⟩⟩
  have hr := hp.rows
  exact ⟨ho (by simp) hr.a, ho (by simp) hr.b, hr.la, hr.lb, fun i hi => ho (by simp) (hr.rowA i hi), fun i hi => ho (by simp) (hr.rowB i hi), hr.sepT, hr.sepA, hr.sepB, hr.sepAB⟩

set_option maxHeartbeats 2000000 in
set_option maxRecDepth 100000 in
theorem spush_any (lo gd : Nat) (vf tf mp st : Value) (xs : List Int) (x : Int) (w : World) (h : Stk lo w gd vf tf mp st xs) (hn : xs.length ≤ 10000000) (hlo : lo ≤ w.heap.size) :
    Calls Tryz.prog 96 #[.pointer (some ⟨gd, 2, none⟩), .iface 97 (.int .i64 x)] w fun e w' => e = .returned (.tuple #[]) ∧ ∃ st' w1, Stk lo w' gd vf tf mp st' (xs ++ [x]) ∧ w.grownBy w1 st.ownBlock ∧ w1.grownBy w' (some gd) ∧ (st'.ownBlock = st.ownBlock ∨ ∃ q, st'.ownBlock = some q ∧ w.heap.size ≤ q) := by
  obtain ⟨A, c, rfl⟩ := own_slice h.own
  have h2 : w.cell? ⟨gd, 2, none⟩ = some (.slice A xs.length c) := (blk_cell h.blk 2).trans rfl
  have hf := blk_frozen h.blk 2
  have HB := Aside0.mk h
  have hgl := blk_lt h.blk
  obtain ⟨i0, hi, hz0, hz1, hz2⟩ := info_parts Tryz.info72
  have HI := Aside0.mk (And.intro hi (And.intro hz0 (And.intro hz1 hz2)))
  clear h hi hz0 hz1 hz2
  go_enter Tryz.func96, Tryz.ntmps96
  go_wp2_with (at_builtin; refine wpList_append_own_at _ rfl _ _ 76 rfl lo 72 i0 .nilIface 1 16 Tryz.underlying76 HI.out.1 HI.out.2.1 HI.out.2.2.1 HI.out.2.2.2 rfl (by decide) _ xs.length (nodeVs xs) rfl (World.ownsRow.alloc HB.out.own _) ⟨w.heap.size, 0, none⟩ 1 1 [.iface 97 (.int .i64 x)] rfl rfl (cell_one_new _ _ _) ?q2 ?q3 ?q4 ?q5 ?_)
  case q2 => intro u hu; simp at hu; subst hu; rfl
  case q3 => unfold maxLen; omega
  case q4 => omega
  case q5 => simp; omega
  intro v' w1 hown hgr _ hat
  obtain ⟨A', c', rfl⟩ := own_slice hown
  have hg0 := (World.grownBy_alloc w (.cells #[.iface 97 (.int .i64 x)] 72) (Value.slice A xs.length c).ownBlock).trans hgr
  have hblk := (hg0.block gd hgl (fun e => HB.out.ne e.symm)).trans HB.out.blk
  have hc2 : w1.cell? ⟨gd, 2, none⟩ = some (.slice A xs.length c) := (blk_cell hblk 2).trans rfl
  have hf2 := blk_frozen hblk 2
  have hne : (Value.slice A' (xs.length + 1) c').ownBlock ≠ some gd := fun e => by
    obtain ⟨cc, hcc⟩ := own_block hown e
    exact absurd (blk_type hblk hcc) (by decide)
  have HS := Aside0.mk (show Stk lo (w1.setCell ⟨gd, 2, none⟩ (Value.slice A' (xs.length + 1) c')) gd vf tf mp (Value.slice A' (xs.length + 1) c') (xs ++ [x]) from Stk.put hblk (by rw [nodeVs_append, List.length_append]; exact hown) hne)
  have HG := Aside0.mk hg0
  clear hown hgr hg0 hblk hne
  go_wp2
  go_end0
  exact ⟨rfl, _, w1, HS.out, HG.out, grown_set _ _ _ _, hat.imp id (fun h => ⟨_, h, by simp⟩)⟩

/-- the nodes that were visited, in a variable -/
structure VisOk (lo : Nat) (w : World) (gv : Nat) (vv : Value) (vis : List Int) : Prop where
  blk : w.heap[gv]? = some (.cells #[vv] 22 (0, 0))
  own : w.ownsRow lo 3 1 vv vis.length (nums .i64 vis)
theorem VisOk.ne {lo : Nat} {w : World} {gv : Nat} {vv : Value} {vis : List Int} (h : VisOk lo w gv vv vis) : vv.ownBlock ≠ some gv := fun e => by
  obtain ⟨c, hc⟩ := own_block h.own e
  exact absurd (blk_type h.blk hc) (by decide)
theorem VisOk.put {lo : Nat} {w : World} {gv : Nat} {vv vv' : Value} {ys : List Int} (h : w.heap[gv]? = some (.cells #[vv] 22 (0, 0))) (ho : w.ownsRow lo 3 1 vv' ys.length (nums .i64 ys)) (hne : vv'.ownBlock ≠ some gv) : VisOk lo (w.setCell ⟨gv, 0, none⟩ vv') gv vv' ys :=
  ⟨blk_put (cs := #[vv]) h 0 _ rfl, own_of_heap ho fun k hk => Below.heap_setCell _ _ _ _ (fun e => hne (by rw [hk, e]))⟩

end Go.Proofs.YtolbfjjgdheikaaGreat.R


/- The state of a walk depth first, and how it goes on. -/
namespace Go.Proofs.YtolbfjjgdheikaaGreat.R
open Go.RowKit Go.Lab Go.Maps Go.Proofs.YtolbfjjgdheikaaGreatW.PrintWords Go.Proofs.YtolbfjjgdheikaaGreatW.PrintLast Go.Proofs.YtolbfjjgdheikaaGreatW.PrintMore PL

/-- which blocks a walk turns -/
def WM (gd gv L : Nat) (k : Nat) : Prop := k = gd ∨ k = gv ∨ L ≤ k

/-- the state of a walk: its object in block gd, the visited nodes in the variable gv -/
structure DW (w0 w : World) (gd gv gm : Nat) (vf tf st vv : Value) (stk vis : List Int) : Prop where
  stk : Stk w0.heap.size w gd vf tf (.map (some gm)) st stk
  set : SetOk w gm vis
  gmL : w0.heap.size ≤ gm
  vis : VisOk w0.heap.size w gv vv vis
  gv0 : gv < w0.heap.size
  gd0 : gd < w0.heap.size
  kp : KeepF (WM gd gv w0.heap.size) w0 w

theorem Stk.stay {lo : Nat} {w w1 : World} {gd : Nat} {vf tf mp st : Value} {xs : List Int} (h : Stk lo w gd vf tf mp st xs) (h1 : w1.heap[gd]? = w.heap[gd]?) (h2 : ∀ k, st.ownBlock = some k → w1.heap[k]? = w.heap[k]?) : Stk lo w1 gd vf tf mp st xs :=
  ⟨h1.trans h.blk, own_of_heap h.own h2⟩
theorem VisOk.stay {lo : Nat} {w w1 : World} {gv : Nat} {vv : Value} {vis : List Int} (h : VisOk lo w gv vv vis) (h1 : w1.heap[gv]? = w.heap[gv]?) (h2 : ∀ k, vv.ownBlock = some k → w1.heap[k]? = w.heap[k]?) : VisOk lo w1 gv vv vis :=
  ⟨h1.trans h.blk, own_of_heap h.own h2⟩
theorem SetOk.cells_ne {w : World} {gm : Nat} {vis : List Int} (h : SetOk w gm vis) {k : Nat} {c : Array Value} {t : TypeId} {f : Nat × Nat} (hk : w.heap[k]? = some (Obj.cells c t f)) : k ≠ gm := fun e => by
  obtain ⟨n, D, ⟨es, clock, hb, _⟩, _, _⟩ := h.ex
  subst e
  rw [hk] at hb
  cases hb

section
variable {w0 w w1 : World} {gd gv gm : Nat} {vf tf st vv : Value} {stk vis : List Int}

theorem DW.L (h : DW w0 w gd gv gm vf tf st vv stk vis) : w0.heap.size ≤ w.heap.size := h.kp.size
theorem DW.stLt (h : DW w0 w gd gv gm vf tf st vv stk vis) {k : Nat} (hk : st.ownBlock = some k) : k < w.heap.size := by
  obtain ⟨c, hc⟩ := own_block h.stk.own hk; exact blk_lt hc
theorem DW.vvLt (h : DW w0 w gd gv gm vf tf st vv stk vis) {k : Nat} (hk : vv.ownBlock = some k) : k < w.heap.size := by
  obtain ⟨c, hc⟩ := own_block h.vis.own hk; exact blk_lt hc
theorem DW.apart (h : DW w0 w gd gv gm vf tf st vv stk vis) {k : Nat} (hk : st.ownBlock = some k) : k ≠ gd ∧ k ≠ gv ∧ k ≠ gm ∧ vv.ownBlock ≠ some k := by
  obtain ⟨c, hc⟩ := own_block h.stk.own hk
  refine ⟨fun e => ?_, fun e => ?_, h.set.cells_ne hc, fun e => ?_⟩
  · subst e; exact absurd (blk_type h.stk.blk hc) (by decide)
  · subst e; exact absurd (blk_type h.vis.blk hc) (by decide)
  · obtain ⟨c', hc'⟩ := own_block h.vis.own e; exact absurd (blk_type hc hc') (by decide)
theorem DW.apartV (h : DW w0 w gd gv gm vf tf st vv stk vis) {k : Nat} (hk : vv.ownBlock = some k) : k ≠ gd ∧ k ≠ gv ∧ k ≠ gm ∧ st.ownBlock ≠ some k := by
  obtain ⟨c, hc⟩ := own_block h.vis.own hk
  refine ⟨fun e => ?_, fun e => ?_, h.set.cells_ne hc, fun e => ?_⟩
  · subst e; exact absurd (blk_type h.stk.blk hc) (by decide)
  · subst e; exact absurd (blk_type h.vis.blk hc) (by decide)
  · obtain ⟨c', hc'⟩ := own_block h.stk.own e; exact absurd (blk_type hc hc') (by decide)
theorem DW.gdm (h : DW w0 w gd gv gm vf tf st vv stk vis) : gd ≠ gm ∧ gv ≠ gm ∧ gd ≠ gv :=
  ⟨h.set.cells_ne h.stk.blk, h.set.cells_ne h.vis.blk, fun e => by subst e; exact absurd (blk_type h.stk.blk h.vis.blk) (by decide)⟩

/-- nothing of it is turned -/
theorem DW.stay (h : DW w0 w gd gv gm vf tf st vv stk vis) (hk : KeepF (WM gd gv w0.heap.size) w w1) (hd : w1.heap[gd]? = w.heap[gd]?) (hv : w1.heap[gv]? = w.heap[gv]?) (hm : w1.heap[gm]? = w.heap[gm]?)
    (hs : ∀ k, st.ownBlock = some k → w1.heap[k]? = w.heap[k]?) (hvv : ∀ k, vv.ownBlock = some k → w1.heap[k]? = w.heap[k]?) : DW w0 w1 gd gv gm vf tf st vv stk vis :=
  ⟨h.stk.stay hd hs, h.set.stay hm, h.gmL, h.vis.stay hv hvv, h.gv0, h.gd0, h.kp.trans hk⟩
theorem DW.below (h : DW w0 w gd gv gm vf tf st vv stk vis) (hb : Below w.heap.size w w1) : DW w0 w1 gd gv gm vf tf st vv stk vis :=
  h.stay (KeepF.of_below hb) (hb.block _ (blk_lt h.stk.blk)) (hb.block _ (blk_lt h.vis.blk)) (hb.block _ h.set.lt) (fun k hk => hb.block k (h.stLt hk)) (fun k hk => hb.block k (h.vvLt hk))
/-- the iterator goes on -/
theorem DW.mid (h : DW w0 w gd gv gm vf tf st vv stk vis) {lo B : Nat} (hm : Mid lo B w w1) (hlo : w0.heap.size ≤ lo) (hgm : gm < lo) (hst : ∀ k, st.ownBlock = some k → k < lo ∨ B ≤ k) (hvv : ∀ k, vv.ownBlock = some k → k < lo) : DW w0 w1 gd gv gm vf tf st vv stk vis := by
  have hd := blk_lt h.stk.blk
  have hv := blk_lt h.vis.blk
  have h1 := h.gv0
  have h2 := h.gd0
  refine h.stay ⟨hm.os, hm.tape, hm.output, hm.size, fun k hk hn => hm.block k hk (.inl ?_)⟩ (hm.block _ hd (.inl (by omega))) (hm.block _ hv (.inl (by omega))) (hm.block _ h.set.lt (.inl hgm)) (fun k hk => hm.block k (h.stLt hk) (hst k hk)) (fun k hk => hm.block k (h.vvLt hk) (.inl (hvv k hk)))
  unfold WM at hn
  omega
/-- a node is marked -/
theorem DW.add (h : DW w0 w gd gv gm vf tf st vv stk vis) {vs : List Int} (hs : SetOk w1 gm vs) (hg : w.grownBy w1 (some gm)) : Stk w0.heap.size w1 gd vf tf (.map (some gm)) st stk ∧ SetOk w1 gm vs ∧ VisOk w0.heap.size w1 gv vv vis ∧ KeepF (WM gd gv w0.heap.size) w0 w1 := by
  have hne := h.gdm
  refine ⟨h.stk.stay (hg.block _ (blk_lt h.stk.blk) (fun e => hne.1 (Option.some.inj e))) (fun k hk => hg.block k (h.stLt hk) (fun e => (h.apart hk).2.2.1 (Option.some.inj e))), hs, h.vis.stay (hg.block _ (blk_lt h.vis.blk) (fun e => hne.2.1 (Option.some.inj e))) (fun k hk => hg.block k (h.vvLt hk) (fun e => (h.apartV hk).2.2.1 (Option.some.inj e))),
    h.kp.trans (KeepF.of_grown hg (fun k hk => .inr (.inr (by have := h.gmL; have := Option.some.inj hk; omega))))⟩
end

/-- two turns, one behind the other -/
theorem two_turns {w wa w1 : World} {o : Option Nat} {g k : Nat} (h1 : w.grownBy wa o) (h2 : wa.grownBy w1 (some g)) (hk : k < w.heap.size) (ho : o ≠ some k) (hg : k ≠ g) : w1.heap[k]? = w.heap[k]? :=
  (h2.block k (Nat.lt_of_lt_of_le hk h1.size) (fun e => hg (Option.some.inj e))).trans (h1.block k hk (fun e => ho e.symm))

section
variable {w0 w wa w1 : World} {gd gv gm : Nat} {vf tf st vv : Value} {stk vis : List Int}
/-- a node is put on the stack -/
theorem DW.push (h : DW w0 w gd gv gm vf tf st vv stk vis) {st' : Value} {ys : List Int} (hs : Stk w0.heap.size w1 gd vf tf (.map (some gm)) st' ys) (h1 : w.grownBy wa st.ownBlock) (h2 : wa.grownBy w1 (some gd)) : DW w0 w1 gd gv gm vf tf st' vv ys vis := by
  have hne := h.gdm
  refine ⟨hs, h.set.stay (two_turns h1 h2 h.set.lt (fun e => (h.apart e).2.2.1 rfl) (fun e => hne.1 e.symm)), h.gmL, h.vis.stay (two_turns h1 h2 (blk_lt h.vis.blk) (fun e => (h.apart e).2.1 rfl) (fun e => hne.2.2 e.symm)) (fun k hk => two_turns h1 h2 (h.vvLt hk) (fun e => (h.apart e).2.2.2 hk) (h.apartV hk).1), h.gv0, h.gd0, ?_⟩
  exact (h.kp.trans (KeepF.of_grown h1 (fun k hk => .inr (.inr (own_base h.stk.own k hk))))).trans (KeepF.of_grown h2 (fun k hk => .inl (Option.some.inj hk).symm))
end
end Go.Proofs.YtolbfjjgdheikaaGreat.R

