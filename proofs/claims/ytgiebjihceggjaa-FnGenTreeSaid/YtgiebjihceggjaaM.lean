import Derived.Test.YtgiebjihceggjaaK
import Derived.Deep.AppendLies
set_option linter.unusedVariables false
set_option linter.unusedSimpArgs false
namespace Go.Proofs.Ytgiebjihceggjaa
open Go.RowKit Go.Proofs.YtgiebjihceggjaaW.PrintWords Go.Proofs.YtgiebjihceggjaaW.PrintLast Go.Proofs.YtgiebjihceggjaaW.PrintMore PFnGenTree

/-- the graph that graphOf makes, as it stands in memory -/
structure Gs (w wr : World) (ob : Nat) (d : Bool) (vN : Value) (ns : List Int) (vE : Value) (es : List S30) : Prop where
  blk : wr.heap[ob]? = some (.cells #[.bool d, vN, vE] 25 (0, 0))
  hb : w.heap.size < ob
  ownN : wr.ownsRow w.heap.size 3 1 vN ns.length (nums .i64 ns)
  ownE : wr.ownsRow w.heap.size 30 3 vE es.length (flE es)
  res : wr.heap[w.heap.size]? = some (.cells #[.bool false, .slice none 0 0, .slice none 0 0] 25 (0, 0))
  bel : Below w.heap.size w wr

theorem Gs.below {w wr w1 : World} {ob : Nat} {d : Bool} {vN vE : Value} {ns : List Int} {es : List S30} (h : Gs w wr ob d vN ns vE es) (hb : Below wr.heap.size wr w1) : Gs w w1 ob d vN ns vE es :=
  ⟨(hb.block _ (blk_lt h.blk)).trans h.blk, h.hb, pw_own_below h.ownN hb, pw_own_below h.ownE hb, (hb.block _ (blk_lt h.res)).trans h.res, h.bel.trans (hb.mono h.bel.size)⟩

/-- the list of numbers has been written anew, and its slice stored -/
theorem Gs.putN {w wr w1 : World} {ob : Nat} {d : Bool} {vN vE v' : Value} {ns ns' : List Int} {es : List S30} (h : Gs w wr ob d vN ns vE es)
    (hown : w1.ownsRow w.heap.size 3 1 v' ns'.length (nums .i64 ns')) (hg : wr.grownBy w1 vN.ownBlock) : Gs w (w1.setCell ⟨ob, 1, none⟩ v') ob d v' ns' vE es := by
  have hne : ∀ {k : Nat} {c : Array Value} {t : TypeId}, wr.heap[k]? = some (.cells c t (0,0)) → t ≠ 3 → w1.heap[k]? = some (.cells c t (0,0)) := by
    intro k c t hk ht
    rw [hg.block k (blk_lt hk) (fun hc => ?_), hk]
    obtain ⟨c', hc'⟩ := own_block h.ownN hc.symm
    exact ht (blk_type hk hc')
  have hb1 := hne h.blk (by decide)
  refine ⟨by simpa using blk_set hb1 1 v', h.hb, ?_, ?_, ?_, (h.bel.grown hg h.bel.size (fun k hk => own_base h.ownN k hk)).setCell (Nat.le_of_lt h.hb) _⟩
  · refine own_of_heap hown (fun k hk => ?_)
    obtain ⟨c, hc⟩ := own_block hown hk
    rw [Below.heap_setCell _ _ _ _ (by rintro rfl; exact absurd (blk_type hc hb1) (by decide))]
  · refine own_of_heap h.ownE (fun k hk => ?_)
    obtain ⟨c, hc⟩ := own_block h.ownE hk
    rw [Below.heap_setCell _ _ _ _ (by rintro rfl; exact absurd (blk_type hc h.blk) (by decide)), hne hc (by decide), hc]
  · rw [Below.heap_setCell _ _ _ _ (Nat.ne_of_lt h.hb)]
    exact hne h.res (by decide)

theorem Gs.putE {w wr w1 : World} {ob : Nat} {d : Bool} {vN vE v' : Value} {ns : List Int} {es es' : List S30} (h : Gs w wr ob d vN ns vE es)
    (hown : w1.ownsRow w.heap.size 30 3 v' es'.length (flE es')) (hg : wr.grownBy w1 vE.ownBlock) : Gs w (w1.setCell ⟨ob, 2, none⟩ v') ob d vN ns v' es' := by
  have hne : ∀ {k : Nat} {c : Array Value} {t : TypeId}, wr.heap[k]? = some (.cells c t (0,0)) → t ≠ 30 → w1.heap[k]? = some (.cells c t (0,0)) := by
    intro k c t hk ht
    rw [hg.block k (blk_lt hk) (fun hc => ?_), hk]
    obtain ⟨c', hc'⟩ := own_block h.ownE hc.symm
    exact ht (blk_type hk hc')
  have hb1 := hne h.blk (by decide)
  refine ⟨by simpa using blk_set hb1 2 v', h.hb, ?_, ?_, ?_, (h.bel.grown hg h.bel.size (fun k hk => own_base h.ownE k hk)).setCell (Nat.le_of_lt h.hb) _⟩
  · refine own_of_heap h.ownN (fun k hk => ?_)
    obtain ⟨c, hc⟩ := own_block h.ownN hk
    rw [Below.heap_setCell _ _ _ _ (by rintro rfl; exact absurd (blk_type hc h.blk) (by decide)), hne hc (by decide), hc]
  · refine own_of_heap hown (fun k hk => ?_)
    obtain ⟨c, hc⟩ := own_block hown hk
    rw [Below.heap_setCell _ _ _ _ (by rintro rfl; exact absurd (blk_type hc hb1) (by decide))]
  · rw [Below.heap_setCell _ _ _ _ (Nat.ne_of_lt h.hb)]
    exact hne h.res (by decide)

/-- both rows written, no slice stored -/
theorem Gs.rowN {w wr w1 : World} {ob : Nat} {d : Bool} {vN vE : Value} {ns ns' : List Int} {es : List S30} (h : Gs w wr ob d vN ns vE es)
    (hown : w1.ownsRow w.heap.size 3 1 vN ns'.length (nums .i64 ns')) (hg : wr.grownBy w1 vN.ownBlock) : Gs w w1 ob d vN ns' vE es := by
  have hne : ∀ {k : Nat} {c : Array Value} {t : TypeId}, wr.heap[k]? = some (.cells c t (0,0)) → t ≠ 3 → w1.heap[k]? = some (.cells c t (0,0)) := by
    intro k c t hk ht
    rw [hg.block k (blk_lt hk) (fun hc => ?_), hk]
    obtain ⟨c', hc'⟩ := own_block h.ownN hc.symm
    exact ht (blk_type hk hc')
  refine ⟨hne h.blk (by decide), h.hb, hown, ?_, hne h.res (by decide), h.bel.grown hg h.bel.size (fun k hk => own_base h.ownN k hk)⟩
  refine own_of_heap h.ownE (fun k hk => ?_)
  obtain ⟨c, hc⟩ := own_block h.ownE hk
  rw [hne hc (by decide), hc]

theorem Gs.rowE {w wr w1 : World} {ob : Nat} {d : Bool} {vN vE : Value} {ns : List Int} {es es' : List S30} (h : Gs w wr ob d vN ns vE es)
    (hown : w1.ownsRow w.heap.size 30 3 vE es'.length (flE es')) (hg : wr.grownBy w1 vE.ownBlock) : Gs w w1 ob d vN ns vE es' := by
  have hne : ∀ {k : Nat} {c : Array Value} {t : TypeId}, wr.heap[k]? = some (.cells c t (0,0)) → t ≠ 30 → w1.heap[k]? = some (.cells c t (0,0)) := by
    intro k c t hk ht
    rw [hg.block k (blk_lt hk) (fun hc => ?_), hk]
    obtain ⟨c', hc'⟩ := own_block h.ownE hc.symm
    exact ht (blk_type hk hc')
  refine ⟨hne h.blk (by decide), h.hb, ?_, hown, hne h.res (by decide), h.bel.grown hg h.bel.size (fun k hk => own_base h.ownE k hk)⟩
  refine own_of_heap h.ownN (fun k hk => ?_)
  obtain ⟨c, hc⟩ := own_block h.ownN hk
  rw [hne hc (by decide), hc]

/-- an edge, the lesser end first if it has no direction -/
def orE (d : Bool) (e : Int × Int) : S30 := if d = false ∧ e.1 > e.2 then ⟨e.2, e.1, 0⟩ else ⟨e.1, e.2, 0⟩
theorem ordered_any (d : Bool) (u v : Int) (w : World) : Calls Try.prog 23 #[.bool d, .agg #[.int .i64 u, .int .i64 v, .int .i64 0]] w fun e w' => e = .returned (.agg #[.int .i64 (orE d (u, v)).f0, .int .i64 (orE d (u, v)).f1, .int .i64 (orE d (u, v)).f2]) ∧ Below w.heap.size w w' := by
  refine impl_ordered.calls d u v 0 (orE d (u, v)).f0 (orE d (u, v)).f1 (orE d (u, v)).f2 w ?_
  unfold impl_ordered.f orE
  cases d <;> by_cases h : u > v <;> simp [h]
end Go.Proofs.Ytgiebjihceggjaa
