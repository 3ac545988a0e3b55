import Derived.Test.YtolbfjjgdheikaaGreatFTJ
import Derived.Test.YtolbfjjgdheikaaGreatFK6
import Derived.Test.YtolbfjjgdheikaaGreatFX2
import Derived.Test.YtolbfjjgdheikaaGreatFS5
import Derived.Test.YtolbfjjgdheikaaGreatProg
import Derived.Deep.RegionHeld3
set_option linter.unusedVariables false
set_option linter.unusedSimpArgs false
/- Tarjan's object: its state between any two stores, and how each store turns it. -/
namespace Go.Proofs.YtolbfjjgdheikaaGreat.R
open Go.RowKit Go.Lab Go.Maps Go.Proofs.YtolbfjjgdheikaaGreatW.PrintWords Go.Proofs.YtolbfjjgdheikaaGreatW.PrintLast Go.Proofs.YtolbfjjgdheikaaGreatW.PrintMore PL

/-- where the object lies: block gt, its maps in blocks gi, gl, gs; and the world (w0), the stack's and the result's values when a call began -/
structure TA where
  gt : Nat
  gi : Nat
  gl : Nat
  gs : Nat
  lo : Nat
  fv : Value
  w0 : World
  st0 : Value
  ov0 : Value
/-- which blocks a call turns -/
def TA.M (c : TA) (k : Nat) : Prop := k = c.gt ∨ k = c.gi ∨ k = c.gl ∨ k = c.gs ∨ c.st0.ownBlock = some k ∨ c.ov0.ownBlock = some k
structure TQ (c : TA) (w : World) (ix : Nat) (fi fl : Int → Nat) (mi ml : Nat) (sl stk : List Int) (out : List (List Int)) (st ov : Value) (rows : List Value) : Prop where
  blk : w.heap[c.gt]? = some (.cells #[c.fv, .int .i64 (ix : Int), .map (some c.gi), .map (some c.gl), .map (some c.gs), st, ov] 152 (0, 0))
  ni : NumOk w c.gi fi mi
  nl : NumOk w c.gl fl ml
  set : SetOk w c.gs sl
  own : w.ownsRow c.lo 72 1 st stk.length (nodeVs stk)
  out : RwsV kpN c.lo w ov rows out
  sep : ∀ v ∈ rows, ∀ k, v.ownBlock = some k → st.ownBlock ≠ some k
  d1 : c.gi ≠ c.gl
  d2 : c.gi ≠ c.gs
  d3 : c.gl ≠ c.gs
  lt : c.gt < c.lo ∧ c.gi < c.lo ∧ c.gl < c.lo ∧ c.gs < c.lo
  lo0 : c.lo ≤ c.w0.heap.size
  kp : KeepF c.M c.w0 w
  s0 : st.ownBlock = c.st0.ownBlock ∨ ∀ k, st.ownBlock = some k → c.w0.heap.size ≤ k
  o0 : ov.ownBlock = c.ov0.ownBlock ∨ ∀ k, ov.ownBlock = some k → c.w0.heap.size ≤ k
  rs : rows.Pairwise fun u v => ∀ k, u.ownBlock = some k → v.ownBlock ≠ some k
section
variable {c : TA} {w w1 wa : World} {ix ix' mi ml mi' ml' : Nat} {fi fl fi' fl' : Int → Nat} {sl sl' stk stk' : List Int} {out out' : List (List Int)} {st st' ov ov' : Value} {rows rows' : List Value}
theorem TQ.L (h : TQ c w ix fi fl mi ml sl stk out st ov rows) : c.lo ≤ w.heap.size := Nat.le_trans h.lo0 h.kp.size
theorem TQ.stLt (h : TQ c w ix fi fl mi ml sl stk out st ov rows) {k : Nat} (hk : st.ownBlock = some k) : c.lo ≤ k ∧ k < w.heap.size := by
  obtain ⟨cc, hc⟩ := own_block h.own hk; exact ⟨own_base h.own k hk, blk_lt hc⟩
theorem TQ.ovLt (h : TQ c w ix fi fl mi ml sl stk out st ov rows) {k : Nat} (hk : ov.ownBlock = some k) : c.lo ≤ k ∧ k < w.heap.size := by
  obtain ⟨cc, hc⟩ := own_block h.out.own hk; exact ⟨own_base h.out.own k hk, blk_lt hc⟩
theorem TQ.rowLt (h : TQ c w ix fi fl mi ml sl stk out st ov rows) {v : Value} (hv : v ∈ rows) {k : Nat} (hk : v.ownBlock = some k) : c.lo ≤ k ∧ k < w.heap.size := by
  obtain ⟨i, hi, rfl⟩ := List.mem_iff_getElem.1 hv
  obtain ⟨cc, hc⟩ := own_block (h.out.each i hi) hk; exact ⟨own_base (h.out.each i hi) k hk, blk_lt hc⟩
theorem TQ.ovNe (h : TQ c w ix fi fl mi ml sl stk out st ov rows) {k : Nat} (hk : ov.ownBlock = some k) : st.ownBlock ≠ some k ∧ ∀ v ∈ rows, v.ownBlock ≠ some k := by
  obtain ⟨cc, hc⟩ := own_block h.out.own hk
  refine ⟨fun e => ?_, fun v hv e => ?_⟩
  · obtain ⟨c2, hc2⟩ := own_block h.own e
    exact absurd (blk_type hc hc2) (by decide)
  · obtain ⟨i, hi, rfl⟩ := List.mem_iff_getElem.1 hv
    obtain ⟨c2, hc2⟩ := own_block (h.out.each i hi) e
    exact absurd (blk_type hc hc2) (by decide)
theorem TQ.gtNe (h : TQ c w ix fi fl mi ml sl stk out st ov rows) : c.gt ≠ c.gi ∧ c.gt ≠ c.gl ∧ c.gt ≠ c.gs :=
  ⟨h.ni.cells_ne h.blk, h.nl.cells_ne h.blk, h.set.cells_ne h.blk⟩
theorem TQ.outKeep (h : TQ c w ix fi fl mi ml sl stk out st ov rows) (h6 : ∀ k, ov.ownBlock = some k → w1.heap[k]? = w.heap[k]?) (h7 : ∀ v ∈ rows, ∀ k, v.ownBlock = some k → w1.heap[k]? = w.heap[k]?) : RwsV kpN c.lo w1 ov rows out :=
  ⟨own_of_heap h.out.own h6, h.out.len, fun i hi => own_of_heap (h.out.each i hi) fun k hk => h7 _ (List.getElem_mem hi) k hk⟩
theorem TQ.stay (h : TQ c w ix fi fl mi ml sl stk out st ov rows) (hk : KeepF c.M w w1) (h1 : w1.heap[c.gt]? = w.heap[c.gt]?) (h2 : w1.heap[c.gi]? = w.heap[c.gi]?) (h3 : w1.heap[c.gl]? = w.heap[c.gl]?) (h4 : w1.heap[c.gs]? = w.heap[c.gs]?) (h5 : ∀ k, st.ownBlock = some k → w1.heap[k]? = w.heap[k]?) (h6 : ∀ k, ov.ownBlock = some k → w1.heap[k]? = w.heap[k]?) (h7 : ∀ v ∈ rows, ∀ k, v.ownBlock = some k → w1.heap[k]? = w.heap[k]?) : TQ c w1 ix fi fl mi ml sl stk out st ov rows :=
  ⟨h1.trans h.blk, h.ni.stay h2, h.nl.stay h3, h.set.stay h4, own_of_heap h.own h5, h.outKeep h6 h7, h.sep, h.d1, h.d2, h.d3, h.lt, h.lo0, h.kp.trans hk, h.s0, h.o0, h.rs⟩
theorem TQ.below (h : TQ c w ix fi fl mi ml sl stk out st ov rows) (hb : Below w.heap.size w w1) : TQ c w1 ix fi fl mi ml sl stk out st ov rows :=
  h.stay (KeepF.of_below hb) (hb.block _ (blk_lt h.blk)) (hb.block _ h.ni.lt) (hb.block _ h.nl.lt) (hb.block _ h.set.lt) (fun k hk => hb.block k (h.stLt hk).2) (fun k hk => hb.block k (h.ovLt hk).2) (fun v hv k hk => hb.block k (h.rowLt hv hk).2)
theorem TQ.cells (h : TQ c w ix fi fl mi ml sl stk out st ov rows) : w.cell? ⟨c.gt, 0, none⟩ = some c.fv ∧ w.cell? ⟨c.gt, 1, none⟩ = some (.int .i64 (ix : Int)) ∧ w.cell? ⟨c.gt, 2, none⟩ = some (.map (some c.gi)) ∧ w.cell? ⟨c.gt, 3, none⟩ = some (.map (some c.gl)) ∧ w.cell? ⟨c.gt, 4, none⟩ = some (.map (some c.gs)) ∧ w.cell? ⟨c.gt, 5, none⟩ = some st ∧ w.cell? ⟨c.gt, 6, none⟩ = some ov :=
  ⟨(blk_cell h.blk 0).trans rfl, (blk_cell h.blk 1).trans rfl, (blk_cell h.blk 2).trans rfl, (blk_cell h.blk 3).trans rfl, (blk_cell h.blk 4).trans rfl, (blk_cell h.blk 5).trans rfl, (blk_cell h.blk 6).trans rfl⟩
/-- what is turned in one block of its own leaves all others -/
theorem TQ.side (h : TQ c w ix fi fl mi ml sl stk out st ov rows) {g : Nat} (hg : w.grownBy w1 (some g)) (hl : g < c.lo) : (∀ k, st.ownBlock = some k → w1.heap[k]? = w.heap[k]?) ∧ (∀ k, ov.ownBlock = some k → w1.heap[k]? = w.heap[k]?) ∧ ∀ v ∈ rows, ∀ k, v.ownBlock = some k → w1.heap[k]? = w.heap[k]? :=
  ⟨fun k hk => hg.block k (h.stLt hk).2 (fun e => by have := (h.stLt hk).1; have := Option.some.inj e; omega), fun k hk => hg.block k (h.ovLt hk).2 (fun e => by have := (h.ovLt hk).1; have := Option.some.inj e; omega), fun v hv k hk => hg.block k (h.rowLt hv hk).2 (fun e => by have := (h.rowLt hv hk).1; have := Option.some.inj e; omega)⟩
theorem TQ.kpOf (h : TQ c w ix fi fl mi ml sl stk out st ov rows) {g : Nat} (hg : w.grownBy w1 (some g)) (hm : c.M g) : KeepF c.M c.w0 w1 := h.kp.trans (KeepF.of_grown hg (fun k hk => by rw [← Option.some.inj hk]; exact hm))
/-- the count goes up -/
theorem TQ.setIx (h : TQ c w ix fi fl mi ml sl stk out st ov rows) (n : Int) (hn : n = (ix' : Int)) : TQ c (w.setCell ⟨c.gt, 1, none⟩ (.int .i64 n)) ix' fi fl mi ml sl stk out st ov rows := by
  subst hn
  have hg := grown_set w c.gt 1 (.int .i64 (ix' : Int))
  have hne := h.gtNe
  obtain ⟨l1, l2, l3, l4⟩ := h.lt
  obtain ⟨a1, a2, a3⟩ := h.side hg l1
  exact ⟨blk_put (cs := #[c.fv, .int .i64 (ix : Int), .map (some c.gi), .map (some c.gl), .map (some c.gs), st, ov]) h.blk 1 _ rfl, h.ni.stay (hg.block _ h.ni.lt (fun e => hne.1 (Option.some.inj e).symm)), h.nl.stay (hg.block _ h.nl.lt (fun e => hne.2.1 (Option.some.inj e).symm)), h.set.stay (hg.block _ h.set.lt (fun e => hne.2.2 (Option.some.inj e).symm)), own_of_heap h.own a1, h.outKeep a2 a3, h.sep, h.d1, h.d2, h.d3, h.lt, h.lo0, h.kpOf hg (.inl rfl), h.s0, h.o0, h.rs⟩
/-- a number is told -/
theorem TQ.putI (h : TQ c w ix fi fl mi ml sl stk out st ov rows) (hn : NumOk w1 c.gi fi' mi') (hg : w.grownBy w1 (some c.gi)) : TQ c w1 ix fi' fl mi' ml sl stk out st ov rows := by
  have hne := h.gtNe
  obtain ⟨a1, a2, a3⟩ := h.side hg h.lt.2.1
  exact ⟨(hg.block _ (blk_lt h.blk) (fun e => hne.1 (Option.some.inj e))).trans h.blk, hn, h.nl.stay (hg.block _ h.nl.lt (fun e => h.d1 (Option.some.inj e).symm)), h.set.stay (hg.block _ h.set.lt (fun e => h.d2 (Option.some.inj e).symm)), own_of_heap h.own a1, h.outKeep a2 a3, h.sep, h.d1, h.d2, h.d3, h.lt, h.lo0, h.kpOf hg (.inr (.inl rfl)), h.s0, h.o0, h.rs⟩
/-- a low number is told -/
theorem TQ.putL (h : TQ c w ix fi fl mi ml sl stk out st ov rows) (hn : NumOk w1 c.gl fl' ml') (hg : w.grownBy w1 (some c.gl)) : TQ c w1 ix fi fl' mi ml' sl stk out st ov rows := by
  have hne := h.gtNe
  obtain ⟨a1, a2, a3⟩ := h.side hg h.lt.2.2.1
  exact ⟨(hg.block _ (blk_lt h.blk) (fun e => hne.2.1 (Option.some.inj e))).trans h.blk, h.ni.stay (hg.block _ h.ni.lt (fun e => h.d1 (Option.some.inj e))), hn, h.set.stay (hg.block _ h.set.lt (fun e => h.d3 (Option.some.inj e).symm)), own_of_heap h.own a1, h.outKeep a2 a3, h.sep, h.d1, h.d2, h.d3, h.lt, h.lo0, h.kpOf hg (.inr (.inr (.inl rfl))), h.s0, h.o0, h.rs⟩
/-- the set of the stack's nodes is turned -/
theorem TQ.setS (h : TQ c w ix fi fl mi ml sl stk out st ov rows) (hn : SetOk w1 c.gs sl') (hg : w.grownBy w1 (some c.gs)) : TQ c w1 ix fi fl mi ml sl' stk out st ov rows := by
  have hne := h.gtNe
  obtain ⟨a1, a2, a3⟩ := h.side hg h.lt.2.2.2
  exact ⟨(hg.block _ (blk_lt h.blk) (fun e => hne.2.2 (Option.some.inj e))).trans h.blk, h.ni.stay (hg.block _ h.ni.lt (fun e => h.d2 (Option.some.inj e))), h.nl.stay (hg.block _ h.nl.lt (fun e => h.d3 (Option.some.inj e))), hn, own_of_heap h.own a1, h.outKeep a2 a3, h.sep, h.d1, h.d2, h.d3, h.lt, h.lo0, h.kpOf hg (.inr (.inr (.inr (.inl rfl)))), h.s0, h.o0, h.rs⟩
theorem TQ.Mst (h : TQ c w ix fi fl mi ml sl stk out st ov rows) {k : Nat} (hk : st.ownBlock = some k) : c.M k ∨ c.w0.heap.size ≤ k := by
  rcases h.s0 with e | e
  · exact .inl (.inr (.inr (.inr (.inr (.inl (e ▸ hk))))))
  · exact .inr (e k hk)
theorem TQ.Mov (h : TQ c w ix fi fl mi ml sl stk out st ov rows) {k : Nat} (hk : ov.ownBlock = some k) : c.M k ∨ c.w0.heap.size ≤ k := by
  rcases h.o0 with e | e
  · exact .inl (.inr (.inr (.inr (.inr (.inr (e ▸ hk))))))
  · exact .inr (e k hk)
/-- blocks of its own that are turned count for the call -/
theorem keep_more {M : Nat → Prop} {w0 w w1 : World} {row : Option Nat} (h : KeepF M w0 w) (hg : w.grownBy w1 row) (hm : ∀ k, row = some k → M k ∨ w0.heap.size ≤ k) : KeepF M w0 w1 :=
  ⟨hg.os.trans h.os, hg.tape.trans h.tape, hg.output.trans h.output, Nat.le_trans h.size hg.size, fun k hk hn => (hg.block k (Nat.lt_of_lt_of_le hk h.size) (fun e => by
    rcases hm k e.symm with h1 | h1
    · exact hn h1
    · omega)).trans (h.block k hk hn)⟩
/-- the stack is another value -/
theorem TQ.setSt (h : TQ c w ix fi fl mi ml sl stk out st ov rows) (hg : w.grownBy w1 st.ownBlock) (ho : w1.ownsRow c.lo 72 1 st' stk'.length (nodeVs stk')) (hat : st'.ownBlock = st.ownBlock ∨ ∀ q, st'.ownBlock = some q → w.heap.size ≤ q) : TQ c (w1.setCell ⟨c.gt, 5, none⟩ st') ix fi fl mi ml sl stk' out st' ov rows := by
  have hg2 := grown_set w1 c.gt 5 st'
  have hne := h.gtNe
  obtain ⟨l1, l2, l3, l4⟩ := h.lt
  have stn : ∀ k, k < c.lo → some k ≠ st.ownBlock := fun k hk e => by have := (h.stLt e.symm).1; omega
  have k1 : ∀ k, k < w.heap.size → k ≠ c.gt → st.ownBlock ≠ some k → (w1.setCell ⟨c.gt, 5, none⟩ st').heap[k]? = w.heap[k]? := fun k a b d => (hg2.block k (Nat.lt_of_lt_of_le a hg.size) (fun e => b (Option.some.inj e))).trans (hg.block k a (fun e => d e.symm))
  have hblk : w1.heap[c.gt]? = some (.cells #[c.fv, .int .i64 (ix : Int), .map (some c.gi), .map (some c.gl), .map (some c.gs), st, ov] 152 (0, 0)) := (hg.block _ (blk_lt h.blk) (stn _ l1)).trans h.blk
  have kl : ∀ k, k < c.lo → k < w.heap.size → k ≠ c.gt → (w1.setCell ⟨c.gt, 5, none⟩ st').heap[k]? = w.heap[k]? := fun k a b d => k1 k b d (fun e => stn k a e.symm)
  refine ⟨blk_put (cs := #[c.fv, .int .i64 (ix : Int), .map (some c.gi), .map (some c.gl), .map (some c.gs), st, ov]) hblk 5 _ rfl, h.ni.stay (kl _ l2 h.ni.lt (Ne.symm hne.1)), h.nl.stay (kl _ l3 h.nl.lt (Ne.symm hne.2.1)), h.set.stay (kl _ l4 h.set.lt (Ne.symm hne.2.2)), own_of_heap ho (fun k hk => ?_), h.outKeep (fun k hk => k1 k (h.ovLt hk).2 (by have := (h.ovLt hk).1; omega) (h.ovNe hk).1) (fun v hv k hk => k1 k (h.rowLt hv hk).2 (by have := (h.rowLt hv hk).1; omega) (h.sep v hv k hk)), fun v hv k hk hs => ?_, h.d1, h.d2, h.d3, h.lt, h.lo0, keep_more (keep_more h.kp hg (fun k hk => h.Mst hk)) hg2 (fun k hk => .inl (.inl (Option.some.inj hk).symm)), ?_, h.o0, h.rs⟩
  · refine Below.heap_setCell _ _ _ _ (fun e => ?_)
    have e2 : k = c.gt := e
    have := own_base ho k hk
    omega
  · rcases hat with e | e
    · exact h.sep v hv k hk (e ▸ hs)
    · have := e k hs
      have := (h.rowLt hv hk).2
      omega
  · rcases hat with e | e
    · rw [e]; exact h.s0
    · exact .inr fun k hk => Nat.le_trans h.kp.size (e k hk)
/-- a component is laid down -/
theorem TQ.setOv (h : TQ c w ix fi fl mi ml sl stk out st ov rows) (hg : w.grownBy w1 ov.ownBlock) (ho : RwsV kpN c.lo w1 ov' rows' out') (hsep : ∀ v ∈ rows', ∀ k, v.ownBlock = some k → st.ownBlock ≠ some k) (hrs : rows'.Pairwise fun u v => ∀ k, u.ownBlock = some k → v.ownBlock ≠ some k) (hat : ov'.ownBlock = ov.ownBlock ∨ ∀ q, ov'.ownBlock = some q → w.heap.size ≤ q) : TQ c (w1.setCell ⟨c.gt, 6, none⟩ ov') ix fi fl mi ml sl stk out' st ov' rows' := by
  have hg2 := grown_set w1 c.gt 6 ov'
  have hne := h.gtNe
  obtain ⟨l1, l2, l3, l4⟩ := h.lt
  have stn : ∀ k, k < c.lo → some k ≠ ov.ownBlock := fun k hk e => by have := (h.ovLt e.symm).1; omega
  have k1 : ∀ k, k < w.heap.size → k ≠ c.gt → ov.ownBlock ≠ some k → (w1.setCell ⟨c.gt, 6, none⟩ ov').heap[k]? = w.heap[k]? := fun k a b d => (hg2.block k (Nat.lt_of_lt_of_le a hg.size) (fun e => b (Option.some.inj e))).trans (hg.block k a (fun e => d e.symm))
  have hblk : w1.heap[c.gt]? = some (.cells #[c.fv, .int .i64 (ix : Int), .map (some c.gi), .map (some c.gl), .map (some c.gs), st, ov] 152 (0, 0)) := (hg.block _ (blk_lt h.blk) (stn _ l1)).trans h.blk
  have kl : ∀ k, k < c.lo → k < w.heap.size → k ≠ c.gt → (w1.setCell ⟨c.gt, 6, none⟩ ov').heap[k]? = w.heap[k]? := fun k a b d => k1 k b d (fun e => stn k a e.symm)
  have low : ∀ k, c.lo ≤ k → (w1.setCell ⟨c.gt, 6, none⟩ ov').heap[k]? = w1.heap[k]? := fun k hk => Below.heap_setCell _ _ _ _ (fun e => by have e2 : k = c.gt := e; omega)
  refine ⟨blk_put (cs := #[c.fv, .int .i64 (ix : Int), .map (some c.gi), .map (some c.gl), .map (some c.gs), st, ov]) hblk 6 _ rfl, h.ni.stay (kl _ l2 h.ni.lt (Ne.symm hne.1)), h.nl.stay (kl _ l3 h.nl.lt (Ne.symm hne.2.1)), h.set.stay (kl _ l4 h.set.lt (Ne.symm hne.2.2)), own_of_heap h.own (fun k hk => k1 k (h.stLt hk).2 (by have := (h.stLt hk).1; omega) (fun e => (h.ovNe e).1 hk)), ⟨own_of_heap ho.own (fun k hk => low k (own_base ho.own k hk)), ho.len, fun i hi => own_of_heap (ho.each i hi) (fun k hk => low k (own_base (ho.each i hi) k hk))⟩, hsep, h.d1, h.d2, h.d3, h.lt, h.lo0, keep_more (keep_more h.kp hg (fun k hk => h.Mov hk)) hg2 (fun k hk => .inl (.inl (Option.some.inj hk).symm)), h.s0, ?_, hrs⟩
  rcases hat with e | e
  · rw [e]; exact h.o0
  · exact .inr fun k hk => Nat.le_trans h.kp.size (e k hk)
end
/-- the object as the plain state tells it -/
def TO (c : TA) (w : World) (s : TS) (st ov : Value) (rows : List Value) : Prop := TQ c w s.idx s.num s.low s.idx s.idx s.stk s.stk s.out st ov rows
end Go.Proofs.YtolbfjjgdheikaaGreat.R

/- Bounds of Tarjan's walk. -/
namespace Go.Proofs.YtolbfjjgdheikaaGreat.R
open Go.RowKit Go.Lab

/-- bounds between the steps -/
structure TB (ns : List Int) (s : TS) : Prop where
  idx : s.idx + unv ns s ≤ ns.length
  len : s.out.length + s.stk.length ≤ s.idx
  zero : ∀ x, s.low x = 0 ↔ s.num x = 0
  low : ∀ x, s.low x ≤ s.idx
  num : ∀ x, s.num x ≤ s.idx
  within : ∀ x, s.num x ≠ 0 → x ∈ ns
section
variable {ns : List Int} {s : TS} {v : Int}
theorem TB.none (ns : List Int) : TB ns TS.none := ⟨by show 0 + _ ≤ _; rw [Nat.zero_add]; exact List.countP_le_length, Nat.le_refl _, fun _ => Iff.rfl, fun _ => Nat.le_refl _, fun _ => Nat.le_refl _, fun x h => absurd rfl h⟩
theorem TB.enter (h : TB ns s) (hv : v ∈ ns) (hn : s.num v = 0) : TB ns (s.enter v) := by
  have h1 := enter_unv hv hn
  have hi := h.idx
  have hl := h.len
  refine ⟨by show s.idx + 1 + _ ≤ _; omega, by show s.out.length + (s.stk ++ [v]).length ≤ s.idx + 1; rw [List.length_append, List.length_singleton]; omega, fun x => ?_, fun x => ?_, fun x => ?_, fun x hx => ?_⟩
  · show updN s.low v (s.idx + 1) x = 0 ↔ updN s.num v (s.idx + 1) x = 0
    by_cases e : x = v
    · subst e; rw [updN_eq, updN_eq]
    · rw [updN_ne _ _ e, updN_ne _ _ e]; exact h.zero x
  · show updN s.low v (s.idx + 1) x ≤ s.idx + 1
    by_cases e : x = v
    · subst e; rw [updN_eq]; exact Nat.le_refl _
    · rw [updN_ne _ _ e]; have := h.low x; omega
  · show updN s.num v (s.idx + 1) x ≤ s.idx + 1
    by_cases e : x = v
    · subst e; rw [updN_eq]; exact Nat.le_refl _
    · rw [updN_ne _ _ e]; have := h.num x; omega
  · by_cases e : x = v
    · subst e; exact hv
    · rw [show (s.enter v).num x = s.num x from updN_ne _ _ e] at hx; exact h.within x hx
theorem TB.lower (h : TB ns s) (n : Nat) (hn : n ≠ 0) (hv : s.num v ≠ 0) : TB ns (s.lower v n) := by
  have h0 : s.low v ≠ 0 := fun e => hv ((h.zero v).1 e)
  refine ⟨h.idx, h.len, fun x => ?_, fun x => ?_, h.num, h.within⟩
  · show updN s.low v (min (s.low v) n) x = 0 ↔ s.num x = 0
    by_cases e : x = v
    · subst e; rw [updN_eq]
      exact ⟨fun e => by omega, fun e => absurd e hv⟩
    · rw [updN_ne _ _ e]; exact h.zero x
  · show updN s.low v (min (s.low v) n) x ≤ s.idx
    by_cases e : x = v
    · subst e; rw [updN_eq]; exact Nat.le_trans (Nat.min_le_left _ _) (h.low x)
    · rw [updN_ne _ _ e]; exact h.low x
theorem TB.leave (h : TB ns s) {old nw : List Int} (e : s.stk = old ++ v :: nw) (hv : v ∉ old) : TB ns (s.leave v) := by
  unfold TS.leave
  split
  · obtain ⟨t1, t2⟩ := cut_at old nw v hv
    refine ⟨h.idx, ?_, h.zero, h.low, h.num, h.within⟩
    have hl := h.len
    show (s.out ++ [(s.stk.dropWhile _).reverse]).length + (s.stk.takeWhile _).length ≤ s.idx
    rw [e] at hl ⊢
    rw [t1]
    simp only [List.length_append, List.length_cons, List.length_nil] at hl ⊢
    omega
  · exact h
end
theorem succs_tb {adj : Int → List Int} {ns g : List Int} {v : Int} {s0 : TS} (hin : ∀ u, ∀ x ∈ adj u, x ∈ ns) (i0 : TInv adj g s0) (hv : s0.num v = 0) (hg : ∀ x ∈ g, RchW adj x v) (k : Nat)
    (hrec : ∀ w s s', TInv adj (g ++ [v]) s → s.num w = 0 → (∀ x ∈ g ++ [v], RchW adj x w) → w ∈ ns → TB ns s → strongT adj k w s = some s' → TB ns s') :
    ∀ (ws done : List Int) (s r : TS), (∀ w ∈ ws, w ∈ adj v) → TLoop adj g v done s0 s → TB ns s → succsT (strongT adj k) v ws s = some r → TB ns r := by
  intro ws
  induction ws with
  | nil => intro done s r _ _ hb hr; simp only [succsT, Option.some.injEq] at hr; subst hr; exact hb
  | cons w ws ih =>
    intro done s r hws h hb hr
    have hw := hws w (by simp)
    have hws' : ∀ x ∈ ws, x ∈ adj v := fun x hx => hws x (by simp [hx])
    have nv0 : s.num v ≠ 0 := by rw [h.nv]; omega
    unfold succsT at hr
    by_cases hn : s.num w = 0
    · rw [if_pos hn] at hr
      obtain ⟨s', hs', hr'⟩ := Option.bind_eq_some_iff.1 hr
      have hgw : ∀ x ∈ g ++ [v], RchW adj x w := fun x hx => by
        rcases List.mem_append.1 hx with hx | hx
        · exact (hg x hx).step hw
        · obtain rfl := List.mem_singleton.1 hx
          exact RchW.one hw
      have p := strongT_ok adj k (g ++ [v]) w s s' h.inv hn hgw hs'
      have hb' := hrec w s s' h.inv hn hgw (hin v w hw) hb hs'
      exact ih _ _ _ hws' (h.walked i0 hv hw hn p) (hb'.lower _ (fun e => by have h1 := (hb'.zero w).1 e; rw [p.nv] at h1; omega) (by rw [p.num v nv0]; exact nv0)) hr'
    · rw [if_neg hn] at hr
      by_cases hs : w ∈ s.stk
      · rw [if_pos hs] at hr
        exact ih _ _ _ hws' (h.onStk i0 hv hw hs) (hb.lower _ hn nv0) hr
      · rw [if_neg hs] at hr
        exact ih _ _ _ hws' (h.gone i0 hn hs) hb hr
theorem strongT_tb {adj : Int → List Int} {ns : List Int} (hin : ∀ u, ∀ x ∈ adj u, x ∈ ns) : ∀ (k : Nat) (g : List Int) (v : Int) (s r : TS), TInv adj g s → s.num v = 0 → (∀ x ∈ g, RchW adj x v) → v ∈ ns → TB ns s → strongT adj k v s = some r → TB ns r := by
  intro k
  induction k with
  | zero => intro g v s r _ _ _ _ _ h; simp [strongT] at h
  | succ k ih =>
    intro g v s r i hv hg hvn hb h
    unfold strongT at h
    obtain ⟨s', hs', rfl⟩ := Option.map_eq_some_iff.1 h
    have hl := succs_ok i hv hg (strongT adj k) (fun w s s' a b c d => strongT_ok adj k (g ++ [v]) w s s' a b c d) (adj v) [] (s.enter v) s' (fun _ h => h) (i.enter hv hg) hs'
    have hb' := succs_tb hin i hv hg k (fun w s s' a b c d e f => ih (g ++ [v]) w s s' a b c d e f) (adj v) [] (s.enter v) s' (fun _ h => h) (i.enter hv hg) (hb.enter hvn hv) hs'
    obtain ⟨nw, e, _⟩ := hl.stk
    exact hb'.leave e (fun hh => i.vis v hh hv)
end Go.Proofs.YtolbfjjgdheikaaGreat.R

/- A call of strongconnect inside another one; the successors' row. -/
namespace Go.Proofs.YtolbfjjgdheikaaGreat.R
open Go.RowKit Go.Lab Go.Maps Go.Proofs.YtolbfjjgdheikaaGreatW.PrintWords Go.Proofs.YtolbfjjgdheikaaGreatW.PrintLast Go.Proofs.YtolbfjjgdheikaaGreatW.PrintMore PL

/-- the same object, a new beginning -/
def TA.at (c : TA) (w : World) (st ov : Value) : TA := ⟨c.gt, c.gi, c.gl, c.gs, c.lo, c.fv, w, st, ov⟩
section
variable {c : TA} {w w1 : World} {ix mi ml ix' mi' ml' : Nat} {fi fl fi' fl' : Int → Nat} {sl sl' stk stk' : List Int} {out out' : List (List Int)} {st st' ov ov' : Value} {rows rows' : List Value}
theorem TQ.restart (h : TQ c w ix fi fl mi ml sl stk out st ov rows) : TQ (c.at w st ov) w ix fi fl mi ml sl stk out st ov rows :=
  ⟨h.blk, h.ni, h.nl, h.set, h.own, h.out, h.sep, h.d1, h.d2, h.d3, h.lt, h.L, ⟨rfl, rfl, rfl, Nat.le_refl _, fun _ _ _ => rfl⟩, .inl rfl, .inl rfl, h.rs⟩
theorem TQ.resume (h : TQ c w ix fi fl mi ml sl stk out st ov rows) (h2 : TQ (c.at w st ov) w1 ix' fi' fl' mi' ml' sl' stk' out' st' ov' rows') : TQ c w1 ix' fi' fl' mi' ml' sl' stk' out' st' ov' rows' := by
  refine ⟨h2.blk, h2.ni, h2.nl, h2.set, h2.own, h2.out, h2.sep, h.d1, h.d2, h.d3, h.lt, h.lo0, ?_, ?_, ?_, h2.rs⟩
  · have k1 := h.kp
    have k2 := h2.kp
    refine ⟨k2.os.trans k1.os, k2.tape.trans k1.tape, k2.output.trans k1.output, Nat.le_trans k1.size k2.size, fun k hk hn => ?_⟩
    refine (k2.block k (Nat.lt_of_lt_of_le hk k1.size) (fun hm => ?_)).trans (k1.block k hk hn)
    rcases hm with e | e | e | e | e | e
    · exact hn (.inl e)
    · exact hn (.inr (.inl e))
    · exact hn (.inr (.inr (.inl e)))
    · exact hn (.inr (.inr (.inr (.inl e))))
    · rcases h.Mst e with e2 | e2
      · exact hn e2
      · omega
    · rcases h.Mov e with e2 | e2
      · exact hn e2
      · omega
  · rcases h2.s0 with e | e
    · have e' : st'.ownBlock = st.ownBlock := e
      rw [e']; exact h.s0
    · exact .inr fun k hk => Nat.le_trans h.kp.size (e k hk)
  · rcases h2.o0 with e | e
    · have e' : ov'.ownBlock = ov.ownBlock := e
      rw [e']; exact h.o0
    · exact .inr fun k hk => Nat.le_trans h.kp.size (e k hk)
end

/-- a row that is read alone: it stays, whatever the object does -/
structure SRow (c : TA) (w : World) (vv st ov : Value) (xs : List Int) : Prop where
  own : w.ownsRow c.lo 72 1 vv xs.length (nodeVs xs)
  st : ∀ q, vv.ownBlock = some q → st.ownBlock ≠ some q
  ov : ∀ q, vv.ownBlock = some q → ov.ownBlock ≠ some q
section
variable {c : TA} {w w1 : World} {ix mi ml ix' mi' ml' : Nat} {fi fl fi' fl' : Int → Nat} {sl sl' stk stk' : List Int} {out out' : List (List Int)} {vv st st' ov ov' : Value} {rows rows' : List Value} {xs : List Int}
theorem SRow.lt (h : SRow c w vv st ov xs) {q : Nat} (hq : vv.ownBlock = some q) : c.lo ≤ q ∧ q < w.heap.size := by
  obtain ⟨cc, hc⟩ := own_block h.own hq
  exact ⟨own_base h.own q hq, blk_lt hc⟩
theorem SRow.below (h : SRow c w vv st ov xs) (hb : Below w.heap.size w w1) : SRow c w1 vv st ov xs :=
  ⟨own_of_heap h.own fun k hk => hb.block k (h.lt hk).2, h.st, h.ov⟩
/-- what is turned in one of the object's own blocks leaves it -/
theorem SRow.grown (h : SRow c w vv st ov xs) {g : Nat} (hg : w.grownBy w1 (some g)) (hl : g < c.lo) : SRow c w1 vv st ov xs :=
  ⟨own_of_heap h.own fun k hk => hg.block k (h.lt hk).2 (fun e => by have := (h.lt hk).1; have := Option.some.inj e; omega), h.st, h.ov⟩
/-- a call inside leaves it -/
theorem SRow.call (h : SRow c w vv st ov xs) (hq : TQ c w ix fi fl mi ml sl stk out st ov rows) (h2 : TQ (c.at w st ov) w1 ix' fi' fl' mi' ml' sl' stk' out' st' ov' rows') : SRow c w1 vv st' ov' xs := by
  obtain ⟨l1, l2, l3, l4⟩ := hq.lt
  refine ⟨own_of_heap h.own fun k hk => h2.kp.block k (h.lt hk).2 (fun hm => ?_), fun q hq2 => ?_, fun q hq2 => ?_⟩
  · have := (h.lt hk).1
    rcases hm with e | e | e | e | e | e
    · have e2 : k = c.gt := e; omega
    · have e2 : k = c.gi := e; omega
    · have e2 : k = c.gl := e; omega
    · have e2 : k = c.gs := e; omega
    · exact h.st k hk e
    · exact h.ov k hk e
  · rcases h2.s0 with e | e
    · have e' : st'.ownBlock = st.ownBlock := e
      rw [e']; exact h.st q hq2
    · intro e2
      have h3 : w.heap.size ≤ q := e q e2
      have := (h.lt hq2).2
      omega
  · rcases h2.o0 with e | e
    · have e' : ov'.ownBlock = ov.ownBlock := e
      rw [e']; exact h.ov q hq2
    · intro e2
      have h3 : w.heap.size ≤ q := e q e2
      have := (h.lt hq2).2
      omega
theorem SRow.cell (h : SRow c w vv st ov xs) {i : Nat} (hi : i < xs.length) : ∃ g cc, vv = .slice (some ⟨g, 0, none⟩) xs.length cc ∧ w.cell? ⟨g, i, none⟩ = some (.iface 97 (.int .i64 xs[i])) := by
  obtain ⟨g, cc, e, _, hc, _⟩ := own_cells h.own (by omega)
  refine ⟨g, cc, e, hc i _ ?_⟩
  unfold nodeVs
  rw [List.getElem?_map, List.getElem?_eq_getElem hi]
  rfl
end

/-- the loop over the successors, at the i-th one -/
def TLp (adj : Int → List Int) (ns : List Int) (c : TA) (g : List Int) (v : Int) (s r1 : TS) (k : Nat) (vv : Value) (wr : World) (i : Nat) : Prop :=
  ∃ s1 done ws st1 ov1 rows1, adj v = done ++ ws ∧ done.length = i ∧ TLoop adj g v done s s1 ∧ TB ns s1 ∧ succsT (strongT adj k) v ws s1 = some r1 ∧ TO c wr s1 st1 ov1 rows1 ∧ SRow c wr vv st1 ov1 (adj v)
end Go.Proofs.YtolbfjjgdheikaaGreat.R

/- The stack is popped: the row of the component's nodes, and the object beside it. -/
namespace Go.Proofs.YtolbfjjgdheikaaGreat.R
open Go.RowKit Go.Lab Go.Maps Go.Proofs.YtolbfjjgdheikaaGreatW.PrintWords Go.Proofs.YtolbfjjgdheikaaGreatW.PrintLast Go.Proofs.YtolbfjjgdheikaaGreatW.PrintMore PL

/-- the row of the nodes popped so far: made in this call, apart from all that the object holds -/
structure PRow (c : TA) (w : World) (vv st ov : Value) (rows : List Value) (xs : List Int) : Prop where
  own : w.ownsRow c.lo 72 1 vv xs.length (nodeVs xs)
  nw : ∀ q, vv.ownBlock = some q → c.w0.heap.size ≤ q
  st : ∀ q, vv.ownBlock = some q → st.ownBlock ≠ some q
  ov : ∀ q, vv.ownBlock = some q → ov.ownBlock ≠ some q
  rw' : ∀ q, vv.ownBlock = some q → ∀ u ∈ rows, u.ownBlock ≠ some q
section
variable {c : TA} {w w1 : World} {ix mi ml : Nat} {fi fl : Int → Nat} {sl sl' stk pre : List Int} {out : List (List Int)} {vv vv' st st' ov : Value} {rows : List Value} {xs : List Int} {x : Int}
theorem TQ.cutSt {g cap n : Nat} (h : TQ c w ix fi fl mi ml sl (pre ++ [x]) out (.slice (some ⟨g, 0, none⟩) n cap) ov rows) (hn : n = pre.length + 1) :
    TQ c (w.setCell ⟨c.gt, 5, none⟩ (.slice (some ⟨g, 0, none⟩) pre.length cap)) ix fi fl mi ml sl pre out (.slice (some ⟨g, 0, none⟩) pre.length cap) ov rows := by
  subst hn
  have ho := h.own
  rw [List.length_append, List.length_singleton] at ho
  have h2 := own_cut ho (m := pre.length) (by omega)
  have e : (nodeVs (pre ++ [x])).take pre.length = nodeVs pre := by
    rw [nodeVs_append]
    exact List.take_left' (nodeVs_len pre)
  rw [e] at h2
  exact h.setSt (World.grownBy.refl _ _) h2 (.inl rfl)
theorem PRow.lt (h : PRow c w vv st ov rows xs) {q : Nat} (hq : vv.ownBlock = some q) : c.lo ≤ q ∧ q < w.heap.size := by
  obtain ⟨cc, hc⟩ := own_block h.own hq
  exact ⟨own_base h.own q hq, blk_lt hc⟩
theorem PRow.below (h : PRow c w vv st ov rows xs) (hb : Below w.heap.size w w1) : PRow c w1 vv st ov rows xs :=
  ⟨own_of_heap h.own fun k hk => hb.block k (h.lt hk).2, h.nw, h.st, h.ov, h.rw'⟩
theorem PRow.grown (h : PRow c w vv st ov rows xs) {g : Nat} (hg : w.grownBy w1 (some g)) (hl : g < c.lo) : PRow c w1 vv st ov rows xs :=
  ⟨own_of_heap h.own fun k hk => hg.block k (h.lt hk).2 (fun e => by have := (h.lt hk).1; have := Option.some.inj e; omega), h.nw, h.st, h.ov, h.rw'⟩
theorem PRow.stIs (h : PRow c w vv st ov rows xs) (e : st'.ownBlock = st.ownBlock) : PRow c w vv st' ov rows xs :=
  ⟨h.own, h.nw, fun q hq => by rw [e]; exact h.st q hq, h.ov, h.rw'⟩
/-- the row grows: the object stays -/
theorem TQ.beside (h : TQ c w ix fi fl mi ml sl stk out st ov rows) (r : PRow c w vv st ov rows xs) (hg : w.grownBy w1 vv.ownBlock) : TQ c w1 ix fi fl mi ml sl stk out st ov rows := by
  obtain ⟨l1, l2, l3, l4⟩ := h.lt
  have low : ∀ k, k < c.lo → k < w.heap.size → w1.heap[k]? = w.heap[k]? := fun k a b => hg.block k b (fun e => by have := (r.lt e.symm).1; omega)
  exact ⟨(low _ l1 (blk_lt h.blk)).trans h.blk, h.ni.stay (low _ l2 h.ni.lt), h.nl.stay (low _ l3 h.nl.lt), h.set.stay (low _ l4 h.set.lt),
    own_of_heap h.own (fun k hk => hg.block k (h.stLt hk).2 (fun e => r.st k e.symm hk)),
    h.outKeep (fun k hk => hg.block k (h.ovLt hk).2 (fun e => r.ov k e.symm hk)) (fun v hv k hk => hg.block k (h.rowLt hv hk).2 (fun e => r.rw' k e.symm v hv hk)),
    h.sep, h.d1, h.d2, h.d3, h.lt, h.lo0, keep_more h.kp hg (fun k hk => .inr (r.nw k hk)), h.s0, h.o0, h.rs⟩
theorem PRow.more (h : TQ c w ix fi fl mi ml sl stk out st ov rows) (r : PRow c w vv st ov rows xs) (ho : w1.ownsRow c.lo 72 1 vv' (xs.length + 1) (nodeVs xs ++ [.iface 97 (.int .i64 x)])) (hat : vv'.ownBlock = vv.ownBlock ∨ ∀ q, vv'.ownBlock = some q → w.heap.size ≤ q) : PRow c w1 vv' st ov rows (xs ++ [x]) := by
  have ho2 : w1.ownsRow c.lo 72 1 vv' (xs ++ [x]).length (nodeVs (xs ++ [x])) := by
    rw [List.length_append, List.length_singleton, nodeVs_append]; exact ho
  rcases hat with e | e
  · exact ⟨ho2, fun q hq => r.nw q (e ▸ hq), fun q hq => r.st q (e ▸ hq), fun q hq => r.ov q (e ▸ hq), fun q hq => r.rw' q (e ▸ hq)⟩
  · exact ⟨ho2, fun q hq => Nat.le_trans h.kp.size (e q hq), fun q hq e2 => by have := (h.stLt e2).2; have := e q hq; omega, fun q hq e2 => by have := (h.ovLt e2).2; have := e q hq; omega, fun q hq u hu e2 => by have := (h.rowLt hu e2).2; have := e q hq; omega⟩
/-- the row is laid down in the object's result -/
theorem TQ.lay (h : TQ c w ix fi fl mi ml sl stk out st ov rows) (r : PRow c w vv st ov rows xs) {ov' : Value} (hg : w.grownBy w1 ov.ownBlock) (ho : w1.ownsRow c.lo 68 1 ov' (rows.length + 1) (rows ++ [vv])) (hat : ov'.ownBlock = ov.ownBlock ∨ ∀ q, ov'.ownBlock = some q → w.heap.size ≤ q) :
    TQ c (w1.setCell ⟨c.gt, 6, none⟩ ov') ix fi fl mi ml sl stk (out ++ [xs]) st ov' (rows ++ [vv]) := by
  refine h.setOv hg (RwsV.snoc (by rw [List.length_append, List.length_singleton]; exact ho) h.out.len (fun i hi => own_of_heap (h.out.each i hi) fun k hk => hg.block k (h.rowLt (List.getElem_mem hi) hk).2 (fun e => (h.ovNe e.symm).2 _ (List.getElem_mem hi) hk)) (own_of_heap r.own fun k hk => hg.block k (r.lt hk).2 (fun e => r.ov k hk e.symm))) (fun v hv k hk => ?_) (List.pairwise_append.2 ⟨h.rs, List.pairwise_singleton _ _, fun a ha b hb k hk e => by rw [List.mem_singleton] at hb; subst hb; exact r.rw' k e a ha hk⟩) hat
  rcases List.mem_append.1 hv with hv | hv
  · exact h.sep v hv k hk
  · obtain rfl := List.mem_singleton.1 hv
    exact r.st k hk
theorem PRow.nil (c : TA) (w : World) (st ov : Value) (rows : List Value) : PRow c w (.slice none 0 0) st ov rows [] :=
  ⟨World.ownsRow_nil _ _ _ _, fun q hq => by simp [Value.ownBlock] at hq, fun q hq => by simp [Value.ownBlock] at hq, fun q hq => by simp [Value.ownBlock] at hq, fun q hq => by simp [Value.ownBlock] at hq⟩
end
/-- the pop's loop: rest is still on the stack behind v, xs is popped -/
def TPop (c : TA) (s1 : TS) (old : List Int) (v : Int) (vv : Value) (w : World) (rest : List Int) : Prop :=
  ∃ xs st ov rows, s1.stk = old ++ v :: (rest ++ xs.reverse) ∧ TQ c w s1.idx s1.num s1.low s1.idx s1.idx (old ++ v :: rest) (old ++ v :: rest) s1.out st ov rows ∧ PRow c w vv st ov rows xs
/-- how many elements a slice has -/
def lenOf : Value → Nat
  | .slice _ n _ => n
  | _ => 0
theorem snoc_of {α : Type} : ∀ {l : List α}, l ≠ [] → ∃ pre x, l = pre ++ [x]
  | l, h => ⟨l.dropLast, l.getLast h, (List.dropLast_concat_getLast h).symm⟩
theorem last_is {old rest pre : List Int} {v x : Int} (h : old ++ v :: rest = pre ++ [x]) : (rest = [] ∧ pre = old ∧ x = v) ∨ ∃ rest', rest = rest' ++ [x] ∧ pre = old ++ v :: rest' := by
  by_cases hr : rest = []
  · subst hr
    have h2 := List.append_inj' h rfl
    exact .inl ⟨rfl, h2.1.symm, by have := h2.2; simpa using this.symm⟩
  · obtain ⟨p, y, rfl⟩ := snoc_of hr
    have h1 : (old ++ v :: p) ++ [y] = pre ++ [x] := by rw [← h]; simp
    have h2 := List.append_inj' h1 rfl
    have e : y = x := by simpa using h2.2
    exact .inr ⟨p, by rw [e], h2.1.symm⟩
theorem stk_nodup {adj : Int → List Int} {g : List Int} {s : TS} (h : TInv adj g s) : s.stk.Nodup := h.srt.imp fun {a b} hab e => by subst e; omega
end Go.Proofs.YtolbfjjgdheikaaGreat.R

/- topo.sortedFrom: its state, and how each step turns it. -/
namespace Go.Proofs.YtolbfjjgdheikaaGreat.R
open Go.RowKit Go.Lab Go.Maps Go.Proofs.YtolbfjjgdheikaaGreatW.PrintWords Go.Proofs.YtolbfjjgdheikaaGreatW.PrintLast Go.Proofs.YtolbfjjgdheikaaGreatW.PrintMore PL

/-- values that are nodes, or none -/
def NVs (vs : List Value) : Prop := ∀ u ∈ vs, u = .nilIface ∨ ∃ x : Int, u = .iface 97 (.int .i64 x)
theorem NVs.one {vs : List Value} (h : NVs vs) : ∀ u ∈ vs, u.oneCell' = true := fun u hu => by
  rcases h u hu with rfl | ⟨x, rfl⟩ <;> rfl
/-- the components, each a row apart; those that are no single nodes, and the order so far -/
structure SFr (w0 : World) (lo : Nat) (rows : List Value) (lv : Value) (out : List (List Int)) (wr : World) (sv : Value) (vs : List Value) (cv : Value) (rows2 : List Value) (out' : List (List Int)) : Prop where
  oO : RwsV kpN lo wr lv rows out'
  lens : out'.map List.length = out.map List.length
  sO : wr.ownsRow w0.heap.size 72 1 sv vs.length vs
  cO : wr.ownsRow w0.heap.size 68 1 cv rows2.length rows2
  sub : ∀ u ∈ rows2, u ∈ rows
  nil : rows2 = [] → cv = .slice none 0 0
  vk : NVs vs
  bl : Below lo w0 wr
  b1 : ∀ k, lv.ownBlock = some k → k < w0.heap.size
  b2 : ∀ u ∈ rows, ∀ k, u.ownBlock = some k → k < w0.heap.size
  rs : rows.Pairwise fun u v => ∀ k, u.ownBlock = some k → v.ownBlock ≠ some k
section
variable {w0 : World} {lo : Nat} {rows : List Value} {lv : Value} {out : List (List Int)} {wr w1 : World} {sv sv' : Value} {vs : List Value} {cv cv' : Value} {rows2 : List Value} {out' : List (List Int)} {u : Value}
theorem SFr.start (h : RwsV kpN lo w0 lv rows out) (hs : rows.Pairwise fun u v => ∀ k, u.ownBlock = some k → v.ownBlock ≠ some k) (hlo : lo ≤ w0.heap.size) (hg : w0.grownBy wr none) (ho : wr.ownsRow w0.heap.size 72 1 sv 0 []) : SFr w0 lo rows lv out wr sv [] (.slice none 0 0) [] out := by
  have b1 : ∀ k, lv.ownBlock = some k → k < w0.heap.size := fun k hk => by obtain ⟨c, hc⟩ := own_block h.own hk; exact blk_lt hc
  have b2 : ∀ u ∈ rows, ∀ k, u.ownBlock = some k → k < w0.heap.size := fun u hu k hk => by
    obtain ⟨i, hi, rfl⟩ := List.mem_iff_getElem.1 hu
    obtain ⟨c, hc⟩ := own_block (h.each i hi) hk
    exact blk_lt hc
  exact ⟨⟨own_of_heap h.own fun k hk => hg.block k (b1 k hk) (by simp), h.len, fun i hi => own_of_heap (h.each i hi) fun k hk => hg.block k (b2 _ (List.getElem_mem hi) k hk) (by simp)⟩, rfl, ho, World.ownsRow_nil _ _ _ _, fun u hu => (by cases hu), fun _ => rfl, fun u hu => (by cases hu), ⟨hg.os, hg.tape, hg.output, hg.size, fun k hk => hg.block k (by omega) (by simp)⟩, b1, b2, hs⟩
theorem SFr.L (h : SFr w0 lo rows lv out wr sv vs cv rows2 out') : w0.heap.size ≤ wr.heap.size := h.bl.size
theorem SFr.svLt (h : SFr w0 lo rows lv out wr sv vs cv rows2 out') {k : Nat} (hk : sv.ownBlock = some k) : w0.heap.size ≤ k ∧ k < wr.heap.size := by
  obtain ⟨c, hc⟩ := own_block h.sO hk; exact ⟨own_base h.sO k hk, blk_lt hc⟩
theorem SFr.cvLt (h : SFr w0 lo rows lv out wr sv vs cv rows2 out') {k : Nat} (hk : cv.ownBlock = some k) : w0.heap.size ≤ k ∧ k < wr.heap.size := by
  obtain ⟨c, hc⟩ := own_block h.cO hk; exact ⟨own_base h.cO k hk, blk_lt hc⟩
theorem SFr.scNe (h : SFr w0 lo rows lv out wr sv vs cv rows2 out') {k : Nat} (hk : cv.ownBlock = some k) : sv.ownBlock ≠ some k := fun e => by
  obtain ⟨c, hc⟩ := own_block h.cO hk
  obtain ⟨c2, hc2⟩ := own_block h.sO e
  exact absurd (blk_type hc hc2) (by decide)
theorem SFr.old (h : SFr w0 lo rows lv out wr sv vs cv rows2 out') {o : Option Nat} (hg : wr.grownBy w1 o) (ho : ∀ k, o = some k → w0.heap.size ≤ k) (hlo : lo ≤ w0.heap.size) : RwsV kpN lo w1 lv rows out' ∧ Below lo w0 w1 := by
  have kk : ∀ k, k < w0.heap.size → w1.heap[k]? = wr.heap[k]? := fun k hk => hg.block k (Nat.lt_of_lt_of_le hk h.L) (fun e => by have := ho k e.symm; omega)
  exact ⟨⟨own_of_heap h.oO.own fun k hk => kk k (h.b1 k hk), h.oO.len, fun i hi => own_of_heap (h.oO.each i hi) fun k hk => kk k (h.b2 _ (List.getElem_mem hi) k hk)⟩,
    ⟨hg.os.trans h.bl.os, hg.tape.trans h.bl.tape, hg.output.trans h.bl.output, Nat.le_trans h.bl.size hg.size, fun k hk => (kk k (by omega)).trans (h.bl.block k hk)⟩⟩
/-- the order grows -/
theorem SFr.growS (h : SFr w0 lo rows lv out wr sv vs cv rows2 out') (hlo : lo ≤ w0.heap.size) (hg : wr.grownBy w1 sv.ownBlock) (ho : w1.ownsRow w0.heap.size 72 1 sv' (vs.length + 1) (vs ++ [u])) (hu : u = .nilIface ∨ ∃ x : Int, u = .iface 97 (.int .i64 x)) : SFr w0 lo rows lv out w1 sv' (vs ++ [u]) cv rows2 out' := by
  obtain ⟨a, b⟩ := h.old hg (fun k hk => (h.svLt hk).1) hlo
  refine ⟨a, h.lens, by rw [List.length_append, List.length_singleton]; exact ho, own_of_heap h.cO fun k hk => hg.block k (h.cvLt hk).2 (fun e => h.scNe hk e.symm), h.sub, h.nil, fun z hz => ?_, b, h.b1, h.b2, h.rs⟩
  rcases List.mem_append.1 hz with hz | hz
  · exact h.vk z hz
  · rw [List.mem_singleton] at hz; subst hz; exact hu
/-- a component that is no single node is laid down -/
theorem SFr.growC (h : SFr w0 lo rows lv out wr sv vs cv rows2 out') (hlo : lo ≤ w0.heap.size) (hg : wr.grownBy w1 cv.ownBlock) (ho : w1.ownsRow w0.heap.size 68 1 cv' (rows2.length + 1) (rows2 ++ [u])) (hu : u ∈ rows) : SFr w0 lo rows lv out w1 sv vs cv' (rows2 ++ [u]) out' := by
  obtain ⟨a, b⟩ := h.old hg (fun k hk => (h.cvLt hk).1) hlo
  refine ⟨a, h.lens, own_of_heap h.sO fun k hk => hg.block k (h.svLt hk).2 (fun e => h.scNe e.symm hk), by rw [List.length_append, List.length_singleton]; exact ho, fun z hz => ?_, fun e => by simp at e, h.vk, b, h.b1, h.b2, h.rs⟩
  rcases List.mem_append.1 hz with hz | hz
  · exact h.sub z hz
  · rw [List.mem_singleton] at hz; subst hz; exact hu
/-- a component is sorted -/
theorem SFr.turned (h : SFr w0 lo rows lv out wr sv vs cv rows2 out') (hlo : lo ≤ w0.heap.size) {i : Nat} (hi : i < rows.length) {ys : List Int} (hl : ys.length = (out'.getD i []).length) (hg : wr.grownBy w1 rows[i].ownBlock) (ho : w1.ownsRow lo 72 1 rows[i] (out'.getD i []).length (nodeVs ys)) : SFr w0 lo rows lv out w1 sv vs cv rows2 (out'.set i ys) := by
  have hlen := h.oO.len
  have hio : i < out'.length := by omega
  have hb := h.b2 _ (List.getElem_mem hi)
  have hbl : ∀ k, rows[i].ownBlock = some k → lo ≤ k := fun k hk => own_base (h.oO.each i hi) k hk
  have hap : ∀ j (hj : j < rows.length), j ≠ i → ∀ k, rows[j].ownBlock = some k → rows[i].ownBlock ≠ some k := fun j hj hne k hk e => by
    have hp := List.pairwise_iff_getElem.1 h.rs
    rcases Nat.lt_or_ge j i with h1 | h1
    · exact hp j i hj hi h1 k hk e
    · exact hp i j hi hj (by omega) k e hk
  refine ⟨⟨own_of_heap h.oO.own fun k hk => hg.block k (by obtain ⟨c, hc⟩ := own_block h.oO.own hk; exact blk_lt hc) (fun e => ?_), by rw [List.length_set]; exact hlen, fun j hj => ?_⟩, ?_, own_of_heap h.sO fun k hk => hg.block k (h.svLt hk).2 (fun e => by have := hb k e.symm; have := (h.svLt hk).1; omega), own_of_heap h.cO fun k hk => hg.block k (h.cvLt hk).2 (fun e => by have := hb k e.symm; have := (h.cvLt hk).1; omega), h.sub, h.nil, h.vk, ?_, h.b1, h.b2, h.rs⟩
  · obtain ⟨c, hc⟩ := own_block h.oO.own hk
    obtain ⟨c2, hc2⟩ := own_block (h.oO.each i hi) e.symm
    exact absurd (blk_type hc hc2) (by decide)
  · by_cases hji : j = i
    · subst hji
      rw [show (out'.set j ys).getD j [] = ys by rw [List.getD_eq_getElem?_getD]; simp [hio]]
      rw [hl]
      exact ho
    · rw [show (out'.set i ys).getD j [] = out'.getD j [] by rw [List.getD_eq_getElem?_getD, List.getD_eq_getElem?_getD, List.getElem?_set_ne (Ne.symm hji)]]
      exact own_of_heap (h.oO.each j hj) fun k hk => hg.block k (Nat.lt_of_lt_of_le (h.b2 _ (List.getElem_mem hj) k hk) h.L) (fun e => hap j hj hji k hk e.symm)
  · rw [← h.lens, List.map_set, hl]
    apply List.ext_getElem?
    intro j
    by_cases hji : i = j
    · subst hji
      rw [List.getElem?_set_self (by simp [hio]), List.getElem?_map, List.getD_eq_getElem?_getD, List.getElem?_eq_getElem hio]
      rfl
    · rw [List.getElem?_set_ne hji]
  · exact ⟨hg.os.trans h.bl.os, hg.tape.trans h.bl.tape, hg.output.trans h.bl.output, Nat.le_trans h.bl.size hg.size, fun k hk => (hg.block k (by have := h.L; omega) (fun e => by have := hbl k e.symm; omega)).trans (h.bl.block k hk)⟩
theorem SFr.below (h : SFr w0 lo rows lv out wr sv vs cv rows2 out') (hlo : lo ≤ w0.heap.size) (hb : Below wr.heap.size wr w1) : SFr w0 lo rows lv out w1 sv vs cv rows2 out' := by
  obtain ⟨a, b⟩ := h.old (o := none) ⟨hb.os, hb.tape, hb.output, hb.size, fun k hk _ => hb.block k hk⟩ (fun k hk => (by cases hk)) hlo
  exact ⟨a, h.lens, own_of_heap h.sO fun k hk => hb.block k (h.svLt hk).2, own_of_heap h.cO fun k hk => hb.block k (h.cvLt hk).2, h.sub, h.nil, h.vk, b, h.b1, h.b2, h.rs⟩
end
end Go.Proofs.YtolbfjjgdheikaaGreat.R

/- topo.sortedFrom, over topo.lexical. -/
namespace Go.Proofs.YtolbfjjgdheikaaGreat.R
open Go.RowKit Go.Lab Go.Maps Go.Proofs.YtolbfjjgdheikaaGreatW.PrintWords Go.Proofs.YtolbfjjgdheikaaGreatW.PrintLast Go.Proofs.YtolbfjjgdheikaaGreatW.PrintMore PL

theorem sc_nil (w : World) : (binOp .neq 128 (.slice none 0 0) (.slice none 0 0)).run Tryz.prog w = .ok (.bool false) w := by kernel_rfl
theorem sc_some (g n c : Nat) (w : World) : (binOp .neq 128 (.slice (some ⟨g, 0, none⟩) n c) (.slice none 0 0)).run Tryz.prog w = .ok (.bool true) w := by kernel_rfl
/-- what sortedFrom answers -/
def SFok (lo : Nat) (w w' : World) (out : List (List Int)) (sv : Value) (vs : List Value) (ev : Value) : Prop :=
  w'.ownsRow w.heap.size 72 1 sv vs.length vs ∧ vs.length = out.length ∧ NVs vs ∧
    (((∀ p ∈ out, p.length = 1) ∧ ev = .nilIface) ∨ (¬ (∀ p ∈ out, p.length = 1) ∧ ∃ cv rows2, ev = .iface 128 cv ∧ w'.ownsRow w.heap.size 68 1 cv rows2.length rows2 ∧ rows2.length ≤ out.length ∧ ∀ u ∈ rows2, ∃ q : List Int, q.length ≤ 1000 ∧ w'.ownsRow lo 72 1 u q.length (nodeVs q))) ∧ Below lo w w'

section
variable {w0 : World} {lo : Nat} {rows : List Value} {lv : Value} {out : List (List Int)} {wr w2 w3 : World} {sv : Value} {vs : List Value} {cv : Value} {rows2 : List Value} {out' : List (List Int)}
theorem NVs.rev (h : NVs vs) : NVs vs.reverse := fun u hu => h u (List.mem_reverse.1 hu)
theorem rows_at (h : RwsV kpN lo w3 lv rows out') (hl : out'.map List.length = out.map List.length) (hq : ∀ q ∈ out, q.length ≤ 1000) : ∀ u ∈ rows, ∃ q : List Int, q.length ≤ 1000 ∧ w3.ownsRow lo 72 1 u q.length (nodeVs q) := fun u hu => by
  obtain ⟨i, hi, rfl⟩ := List.mem_iff_getElem.1 hu
  refine ⟨out'.getD i [], ?_, h.each i hi⟩
  have hio : i < out'.length := by have := h.len; omega
  rw [List.getD_eq_getElem?_getD, List.getElem?_eq_getElem hio]
  have : out'[i].length ∈ out.map List.length := by rw [← hl]; exact List.mem_map.2 ⟨_, List.getElem_mem hio, rfl⟩
  obtain ⟨q, hq1, hq2⟩ := List.mem_map.1 this
  have := hq q hq1
  simp only [Option.getD_some]
  omega
theorem SFr.ends1 (h : SFr w0 lo rows lv out wr sv vs cv rows2 out') (hlo : lo ≤ w0.heap.size) (hg : wr.grownBy w2 sv.ownBlock) (ho : w2.ownsRow w0.heap.size 72 1 sv vs.length vs.reverse) (hvl : vs.length = out.length) (hok : ∀ p ∈ out, p.length = 1) : SFok lo w0 w2 out sv vs.reverse .nilIface :=
  ⟨by rw [List.length_reverse]; exact ho, by rw [List.length_reverse]; exact hvl, h.vk.rev, .inl ⟨hok, rfl⟩, (h.old hg (fun k hk => (h.svLt hk).1) hlo).2⟩
theorem SFr.ends2 (h : SFr w0 lo rows lv out wr sv vs cv rows2 out') (hlo : lo ≤ w0.heap.size) (hg2 : wr.grownBy w2 cv.ownBlock) (ho2 : w2.ownsRow w0.heap.size 68 1 cv rows2.length rows2.reverse) (hg3 : w2.grownBy w3 sv.ownBlock) (ho3 : w3.ownsRow w0.heap.size 72 1 sv vs.length vs.reverse) (hvl : vs.length = out.length) (hr2 : rows2.length ≤ out.length) (hl : ∀ q ∈ out, q.length ≤ 1000) (hok : ¬ ∀ p ∈ out, p.length = 1) : SFok lo w0 w3 out sv vs.reverse (.iface 128 cv) := by
  obtain ⟨a, b⟩ := h.old hg2 (fun k hk => (h.cvLt hk).1) hlo
  have kk : ∀ k, k < w0.heap.size → w3.heap[k]? = w2.heap[k]? := fun k hk => hg3.block k (Nat.lt_of_lt_of_le hk (Nat.le_trans h.L hg2.size)) (fun e => by have := (h.svLt e.symm).1; omega)
  have a3 : RwsV kpN lo w3 lv rows out' := ⟨own_of_heap a.own fun k hk => kk k (h.b1 k hk), a.len, fun i hi => own_of_heap (a.each i hi) fun k hk => kk k (h.b2 _ (List.getElem_mem hi) k hk)⟩
  refine ⟨by rw [List.length_reverse]; exact ho3, by rw [List.length_reverse]; exact hvl, h.vk.rev, .inr ⟨hok, cv, rows2.reverse, rfl, ?_, by rw [List.length_reverse]; exact hr2, fun u hu => rows_at a3 h.lens hl u (h.sub u (List.mem_reverse.1 hu))⟩, ⟨hg3.os.trans b.os, hg3.tape.trans b.tape, hg3.output.trans b.output, Nat.le_trans b.size hg3.size, fun k hk => (kk k (by omega)).trans (b.block k hk)⟩⟩
  rw [List.length_reverse]
  exact own_of_heap ho2 fun k hk => hg3.block k (Nat.lt_of_lt_of_le (h.cvLt hk).2 hg2.size) (fun e => h.scNe hk e.symm)
end

set_option maxHeartbeats 16000000 in
set_option maxRecDepth 100000 in
theorem sortedFrom_any (lo : Nat) (lv : Value) (rows : List Value) (out : List (List Int)) (w : World) (h : RwsV kpN lo w lv rows out) (hs : rows.Pairwise fun u v => ∀ k, u.ownBlock = some k → v.ownBlock ≠ some k) (hlo : lo ≤ w.heap.size) (hn : out.length ≤ 1000) (hl : ∀ q ∈ out, q.length ≤ 1000) :
    Calls Tryz.prog 68 #[lv, .func (.func 69) #[] #[]] w fun e w' => ∃ sv vs ev, e = .returned (.tuple #[sv, ev]) ∧ SFok lo w w' out sv vs ev := by
  obtain ⟨A, c, rfl⟩ := own_slice h.own
  have hrl : rows.length = out.length := h.len
  have hrn : rows.length ≤ 1000 := by omega
  have HH := Aside0.mk (And.intro h (And.intro hs hl))
  obtain ⟨i0, hi, hz0, hz1, hz2⟩ := info_parts Tryz.info72
  have HI := Aside0.mk (And.intro hi (And.intro hz0 (And.intro hz1 hz2)))
  obtain ⟨j0, gi, gz0, gz1, gz2⟩ := info_parts Tryz.info68
  have HJ := Aside0.mk (And.intro gi (And.intro gz0 (And.intro gz1 gz2)))
  have HRL := Aside0.mk hrl
  clear h hs hl hi hz0 hz1 hz2 gi gz0 gz1 gz2 hrl hn
  go_enter Tryz.func68, Tryz.ntmps68
  go_wp2_with (at_make; refine wpList_make_own _ rfl _ _ 68 rfl w.heap.size 72 i0 .nilIface 1 Tryz.underlying68 HI.out.1 HI.out.2.1 HI.out.2.2.1 .i64 .i64 (rows.length : Int) rows.length rfl rfl rfl (by rw [HI.out.2.2.2]; omega) (by unfold maxLen; omega) (Nat.le_refl _) ?_; intro w1 ho1 hg1; have H1 := Aside0.mk (SFr.start HH.out.1 HH.out.2.1 hlo hg1 ho1); clear ho1 hg1)
  go_loopw [6, 7, 16] (fun v6 v7 v16 wr => ∃ i : Nat, v16 = .int .i64 i ∧ i ≤ rows.length ∧ Aside0 (∃ vs rows2 out', SFr w lo rows (.slice A rows.length c) out wr v6 vs v7 rows2 out' ∧ vs.length = i ∧ rows2.length ≤ i ∧ (rows2 = [] ↔ ∀ p ∈ out.take i, p.length = 1))) (fun _ _ v16 _ => rows.length + 1 - (intOf v16).toNat)
  case atStart => exact ⟨0, rfl, Nat.zero_le _, ⟨[], [], out, H1.out, rfl, Nat.le_refl _, by simp⟩⟩
  case round =>
    clear H1
    obtain ⟨i, rfl, hi, hrel⟩ := hrel
    obtain ⟨vs, rows2, out', hS, hvl, hr2, hok⟩ := hrel.out
    by_cases hlt : i < rows.length
    · have hdk : decide ((i : Int) < (rows.length : Int)) = true := decide_eq_true (by omega)
      obtain ⟨q0, hq0⟩ : ∃ q0, out'.getD i [] = q0 := ⟨_, rfl⟩
      have hrow := hS.oO.each i hlt
      rw [hq0] at hrow
      have hlq : q0.length = (out.getD i []).length := by
        have h1 := congrArg (fun l => l.getD i 0) hS.lens
        have h2 := hS.oO.len
        have h3 := HRL.out
        simp only [List.getD_eq_getElem?_getD, List.getElem?_map] at h1
        rw [← hq0, List.getD_eq_getElem?_getD, List.getD_eq_getElem?_getD]
        rw [List.getElem?_eq_getElem (by omega), List.getElem?_eq_getElem (by omega)] at h1 ⊢
        simpa using h1
      have hmem : out.getD i [] ∈ out := by
        rw [List.getD_eq_getElem?_getD, List.getElem?_eq_getElem (by have := HRL.out; omega)]
        exact List.getElem_mem _
      have hq1000 : q0.length ≤ 1000 := by rw [hlq]; exact HH.out.2.2 _ hmem
      have htk : out.take (i + 1) = out.take i ++ [out.getD i []] := by
        rw [List.take_succ_eq_append_getElem (by have := HRL.out; omega), List.getD_eq_getElem?_getD, List.getElem?_eq_getElem (by have := HRL.out; omega)]; rfl
      obtain ⟨g, c', he, hc', hcell, -⟩ := own_cells hS.oO.own (by omega)
      simp only [Value.slice.injEq] at he
      obtain ⟨rfl, -, rfl⟩ := he
      have hce : wr.cell? ⟨g, i, none⟩ = some rows[i] := hcell i _ (by simp [hlt])
      obtain ⟨A2, c2, hrk⟩ := own_slice hrow
      have hrl2 : wr.ownsRow lo 72 1 (.slice A2 q0.length c2) q0.length (nodeVs q0) := by rw [← hrk]; exact hrow
      rw [hrk] at hce
      obtain ⟨A6, c6, rfl⟩ := own_slice hS.sO
      obtain ⟨A7, c7, rfl⟩ := own_slice hS.cO
      have hi0 : (0 : Int) ≤ (i : Int) := by omega
      have hi1 : (i : Int) < (rows.length : Int) := by omega
      have HS := Aside0.mk hS
      have HK := Aside0.mk (And.intro hvl (And.intro hr2 (And.intro hok (And.intro hrk (And.intro hq0 (And.intro hlq htk))))))
      have HROW := Aside0.mk hrl2
      have hvn : vs.length ≤ 1000 := by omega
      have hr2n : rows2.length ≤ 1000 := by omega
      have hL := hS.L
      clear hrel hS hok hrow hcell htk hmem hq0 hrk hlq hrl2 hvl hr2
      by_cases h1 : q0.length = 1
      · have hb : ((q0.length : Int) == 1) = true := by rw [h1]; rfl
        obtain ⟨x, rfl⟩ := List.length_eq_one_iff.1 h1
        obtain ⟨g2, c3, he2, -, hcell2, -⟩ := own_cells HROW.out (by simp)
        simp only [Value.slice.injEq] at he2
        obtain ⟨rfl, -, rfl⟩ := he2
        have hx : wr.cell? ⟨g2, 0, none⟩ = some (.iface 97 (.int .i64 x)) := hcell2 0 _ rfl
        clear hcell2 h1
        rw [show ([x] : List Int).length = 1 from rfl] at hce
        clear hb
        go_wp2_with (at_builtin; refine wpList_append_own_at _ rfl _ _ 68 rfl w.heap.size 72 i0 .nilIface 1 16 Tryz.underlying68 HI.out.1 HI.out.2.1 HI.out.2.2.1 HI.out.2.2.2 rfl (by decide) _ vs.length vs rfl (World.ownsRow.alloc HS.out.sO _) ⟨wr.heap.size, 0, none⟩ 1 1 [.iface 97 (.int .i64 x)] rfl rfl (cell_one_new _ _ _) ?q2 ?q3 ?q4 ?q5 ?_)
        case q2 => intro u hu; simp at hu; subst hu; rfl
        case q3 => unfold maxLen; omega
        case q4 => omega
        case q5 => simp; omega
        intro v' w2 hown hgr _ hat
        have hg0 := (World.grownBy_alloc wr (.cells #[.iface 97 (.int .i64 x)] 72) (Value.slice A6 vs.length c6).ownBlock).trans hgr
        have H2 := Aside0.mk (HS.out.growS hlo hg0 hown (.inr ⟨x, rfl⟩))
        clear hown hgr hat hg0
        go_wp2
        obtain ⟨hvl, hr2, hok, hrk, hq0, hlq, htk⟩ := HK.out
        refine ⟨⟨i + 1, by simp, by omega, ⟨vs ++ [.iface 97 (.int .i64 x)], rows2, out', H2.out, by simp [hvl], by omega, ?_⟩⟩, by simp [intOf]; omega⟩
        rw [htk, hok]
        constructor
        · intro h p hp
          rcases List.mem_append.1 hp with hp | hp
          · exact h p hp
          · rw [List.mem_singleton] at hp; subst hp; rw [← hlq]; rfl
        · exact fun h p hp => h p (List.mem_append.2 (.inl hp))
      · have hb : ((q0.length : Int) == 1) = false := by rw [beq_eq_false_iff_ne]; omega
        have hq2 : q0.length ≤ 100000 := by omega
        go_wp2_with (first
          | (go_at_call 69; refine (lexical_own lo _ q0 _ HROW.out hq2).mono ?_; rintro e w2 ⟨rfl, ys, hp, ho2, hg2⟩; have H2 := Aside0.mk (HS.out.turned hlo hlt (ys := ys) (by rw [HK.out.2.2.2.2.1]; exact hp.length_eq) (by rw [HK.out.2.2.2.1]; exact hg2) (by rw [HK.out.2.2.2.1, HK.out.2.2.2.2.1]; exact ho2)); have HYS := Aside0.mk (And.intro hp ho2); clear hp ho2 hg2)
          | (at_builtin; refine wpList_append_own_at _ rfl _ _ 128 rfl w.heap.size 68 j0 (.slice none 0 0) 1 24 Tryz.underlying128 HJ.out.1 HJ.out.2.1 HJ.out.2.2.1 HJ.out.2.2.2 rfl (by decide) _ rows2.length rows2 rfl (World.ownsRow.alloc H2.out.cO _) ⟨w2.heap.size, 0, none⟩ 1 1 [.slice A2 q0.length c2] rfl rfl (cell_one_new _ _ _) ?q2 ?q3 ?q4 ?q5 ?_))
        case q2 => intro u hu; simp at hu; subst hu; rfl
        case q3 => unfold maxLen; omega
        case q4 => omega
        case q5 => have := H2.out.L; simp; omega
        intro v' w3 hown hgr _ hat
        have hg0 := (World.grownBy_alloc w2 (.cells #[.slice A2 q0.length c2] 68) (Value.slice A7 rows2.length c7).ownBlock).trans hgr
        have H3 := Aside0.mk (H2.out.growC hlo hg0 hown (by rw [← HK.out.2.2.2.1]; exact List.getElem_mem hlt))
        clear hown hgr hat hg0
        go_wp2_with (at_builtin; refine wpList_append_own_at _ rfl _ _ 68 rfl w.heap.size 72 i0 .nilIface 1 16 Tryz.underlying68 HI.out.1 HI.out.2.1 HI.out.2.2.1 HI.out.2.2.2 rfl (by decide) _ vs.length vs rfl (World.ownsRow.alloc H3.out.sO _) ⟨w3.heap.size, 0, none⟩ 1 1 [.nilIface] rfl rfl (cell_one_new _ _ _) ?q2 ?q3 ?q4 ?q5 ?_)
        case q2 => intro u hu; simp at hu; subst hu; rfl
        case q3 => unfold maxLen; omega
        case q4 => omega
        case q5 => have := H3.out.L; simp; omega
        intro v4 w4 hown hgr _ hat
        have hg0 := (World.grownBy_alloc w3 (.cells #[.nilIface] 72) (Value.slice A6 vs.length c6).ownBlock).trans hgr
        have H4 := Aside0.mk (H3.out.growS hlo hg0 hown (.inl rfl))
        clear hown hgr hat hg0
        go_wp2
        obtain ⟨hvl, hr2, hok, hrk, hq0, hlq, htk⟩ := HK.out
        refine ⟨⟨i + 1, by simp, by omega, ⟨vs ++ [.nilIface], rows2 ++ [.slice A2 q0.length c2], _, H4.out, by simp [hvl], by simp; omega, ?_⟩⟩, by simp [intOf]; omega⟩
        rw [htk]
        constructor
        · intro h; simp at h
        · intro h
          exact absurd (by rw [hlq]; exact h (out.getD i []) (by simp)) h1
    · have hdk : decide ((i : Int) < (rows.length : Int)) = false := decide_eq_false (by omega)
      have htk : out.take i = out := List.take_of_length_le (by have := HRL.out; omega)
      rw [htk] at hok
      have hvo : vs.length = out.length := by have := HRL.out; omega
      have hr2o : rows2.length ≤ out.length := by have := HRL.out; omega
      have hvn : vs.length ≤ 100000 := by omega
      have hr2n : rows2.length ≤ 100000 := by omega
      have HS := Aside0.mk hS
      have HK := Aside0.mk (And.intro hvo (And.intro hr2o hok))
      by_cases h2 : rows2 = []
      · have hcv := hS.nil h2
        have HO := Aside0.mk (hok.1 h2)
        have m1 := sc_nil
        subst hcv
        clear hrel hS hok hvl hr2 htk hvo hr2o h2
        go_wp2_with (first
          | (go_at_call 81; refine (revN_own w.heap.size _ vs _ HS.out.sO HS.out.vk.one hvn).mono ?_; rintro e w2 ⟨rfl, ho, hg⟩; have H2 := Aside0.mk (And.intro ho hg); clear ho hg))
        go_ret2
        exact ⟨_, _, _, rfl, HS.out.ends1 hlo H2.out.2 H2.out.1 HK.out.1 HO.out⟩
      · obtain ⟨g7, c7, rfl, -, -, -⟩ := own_cells hS.cO (List.length_pos_iff.2 h2)
        have HO := Aside0.mk (show ¬ ∀ p ∈ out, p.length = 1 from fun hh => h2 (hok.2 hh))
        have m1 := sc_some g7 rows2.length c7
        have HONE := Aside0.mk (show ∀ u ∈ rows2, u.oneCell' = true from fun u hu => by
          obtain ⟨j, hj, rfl⟩ := List.mem_iff_getElem.1 (hS.sub u hu)
          obtain ⟨A3, c3, e⟩ := own_slice (hS.oO.each j hj)
          rw [e]; rfl)
        clear hrel hS hok hvl hr2 htk hvo hr2o h2
        go_wp2_with (first
          | (go_at_call 104; refine (revL_own w.heap.size _ rows2 _ HS.out.cO HONE.out hr2n).mono ?_; rintro e w2 ⟨rfl, ho, hg⟩; have H2 := Aside0.mk (And.intro ho hg); clear ho hg; have HSV := Aside0.mk (own_of_heap HS.out.sO (fun k hk => H2.out.2.block k (HS.out.svLt hk).2 (fun e => HS.out.scNe e.symm hk))))
          | (go_at_call 81; refine (revN_own w.heap.size _ vs _ HSV.out HS.out.vk.one hvn).mono ?_; rintro e w3 ⟨rfl, ho, hg⟩; have H3 := Aside0.mk (And.intro ho hg); clear ho hg))
        go_ret2
        exact ⟨_, _, _, rfl, HS.out.ends2 hlo H2.out.2 H2.out.1 H3.out.2 H3.out.1 HK.out.1 HK.out.2.1 HH.out.2.2 HO.out⟩
end Go.Proofs.YtolbfjjgdheikaaGreat.R

/- A region that draws its order and stores, last of all, over what it read: what is held till then is no longer asked for behind that store. -/
namespace Go.Proofs.YtolbfjjgdheikaaGreat.R
section
variable {P : Program} {ops : Array Oper} {Q : Exit → Act → World → Prop} {md : Region.Mode} {S : World → Prop} {z : Nat}

/-- whatever comes up next, till number z has come up S holds -/
def heldTill (P : Program) (md : Region.Mode) (ops : Array Oper) (Q : Exit → Act → World → Prop) (S : World → Prop) (z : Nat) : Nat → Array Bool → Act → World → Prop
  | 0, ls, a, w => Region.ready md ops ls = [] ∧ Q .normal a w
  | n + 1, ls, a, w => (Region.ready md ops ls = [] → Q .normal a w) ∧
    ∀ i ∈ Region.ready md ops ls, wpOp P ops Q i (fun a' w' => (i ≠ z → S w') ∧ heldTill P md ops Q S z n (ls.setIfInBounds i true) a' w') a w
theorem heldTill.any : ∀ (n : Nat) (ls : Array Bool) (a : Act) (w : World), heldTill P md ops Q S z n ls a w → wpAny P md ops Q n ls a w
  | 0, _, _, _, h => h
  | n + 1, _, _, _, h => ⟨h.1, fun i hi => wpOp_mono (fun a' w' h' => heldTill.any n _ a' w' h'.2) (h.2 i hi)⟩
/-- number z waits for number i -/
def waitsFor (md : Region.Mode) (ops : Array Oper) (z i : Nat) : Bool := ((ops[z]?).map fun o => o.after.any fun e => Region.binds md e && e.on == i).getD false
theorem waits_ne {i j : Nat} {ls : Array Bool} (hw : waitsFor md ops z i = true) (hi : i ∈ Region.ready md ops ls) (hj : j ∈ Region.ready md ops ls) : j ≠ z := fun e => by
  subst e
  obtain ⟨_, o, ho, hall⟩ := mem_ready.1 hj
  unfold waitsFor at hw
  rw [ho] at hw
  simp only [Option.map_some, Option.getD_some] at hw
  obtain ⟨d, hd, hb⟩ := Array.any_eq_true'.1 hw
  rw [Bool.and_eq_true, beq_iff_eq] at hb
  have h1 := hall d hd hb.1
  rw [hb.2] at h1
  have h0 := (mem_ready.1 hi).1
  rcases Nat.lt_or_ge i ls.size with h' | h'
  · simp [h'] at h0 h1; rw [h0] at h1; cases h1
  · simp [Array.getElem?_eq_none h'] at h1
theorem heldTill.first {i : Nat} {oi : Oper} {v : Value} (hi : ops[i]? = some oi) (hsel : ∀ (j : Nat) (o : Oper) cs b, ops[j]? = some o → o.op ≠ .select cs b)
    (hz : waitsFor md ops z i = true) (hQ : ∀ c a w, Q (.panic c) (a.put oi.dst v) w → Q (.panic c) a w) :
    ∀ (n : Nat) (ls : Array Bool) (a : Act) (w : World),
      (∀ j oj, ops[j]? = some oj → j ≠ i → ls.getD j true = false → (∀ e ∈ oj.after, Region.binds md e = true → e.on ≠ i) → oi.apart ops oj = true) →
      i ∈ Region.ready md ops ls → YieldsIf P ops S oi v a → S w →
      heldTill P md ops Q S z n (ls.setIfInBounds i true) (a.put oi.dst v) w → heldTill P md ops Q S z (n + 1) ls a w := by
  intro n
  induction n with
  | zero =>
    intro ls a w _ hr hy hS H
    refine ⟨fun h => (by rw [h] at hr; cases hr), fun j hj => ?_⟩
    by_cases e : j = i
    · subst e; exact hy.wpOp hi hS ⟨fun _ => hS, H⟩
    · have h1 := ready_mono hj e
      rw [H.1] at h1
      cases h1
  | succ n ih =>
    intro ls a w hfree hr hy hS H
    refine ⟨fun h => (by rw [h] at hr; cases hr), fun j hj => ?_⟩
    by_cases e : j = i
    · subst e; exact hy.wpOp hi hS ⟨fun _ => hS, H⟩
    · have hjz : j ≠ z := waits_ne hz hr hj
      obtain ⟨hun, oj, hoj, hall⟩ := mem_ready.1 hj
      have hno : ∀ d ∈ oj.after, Region.binds md d = true → d.on ≠ i := fun d hd hb heq => by
        have h1 := hall d hd hb
        have h0 := (mem_ready.1 hr).1
        rw [heq] at h1
        rcases Nat.lt_or_ge i ls.size with h' | h'
        · simp [h'] at h0 h1; rw [h0] at h1; cases h1
        · simp [Array.getElem?_eq_none h'] at h1
      have h2 := wpOp_putIf hoj (hfree j oj hoj e hun hno) (fun cs b => hsel i oi cs b hi) (fun cs b => hsel j oj cs b hoj) hQ hy (H.2 j (ready_mono hj e))
      refine wpOp_mono (fun a' w' h3 => ⟨h3.2.1, ih (ls.setIfInBounds j true) a' w' (fun k ok hk hki hkn hkw => hfree k ok hk hki (by
        by_cases e2 : j = k
        · subst e2; exact hun
        · rw [getD_set_ne true e2] at hkn; exact hkn) hkw) (ready_mono hr (Ne.symm e)) h3.1 (h3.2.1 hjz) ?_⟩) h2
      rw [Array.setIfInBounds_comm _ _ e]
      exact h3.2.2
theorem heldTill.take {i : Nat} {oi : Oper} {v : Value} {n : Nat} {ls : Array Bool} {a : Act} {w : World} (hi : ops[i]? = some oi)
    (hs : Region.noSelect ops = true) (hz : waitsFor md ops z i = true) (hf : Region.free md ops ls i = true) (hr : (Region.ready md ops ls).contains i = true)
    (hQ : ∀ c a w, Q (.panic c) (a.put oi.dst v) w → Q (.panic c) a w) (hy : YieldsIf P ops S oi v a) (hS : S w)
    (h : heldTill P md ops Q S z n (ls.setIfInBounds i true) (a.put oi.dst v) w) : heldTill P md ops Q S z (n + 1) ls a w :=
  heldTill.first hi (Region.noSelect_spec hs) hz hQ n ls a w (Region.free_spec hi hf) (by simpa using hr) hy hS h
/-- the same, the slot told -/
theorem heldTill.takeAt {i : Nat} {oi : Oper} {v : Value} {n : Nat} {ls : Array Bool} {a : Act} {w : World} (d : Option Tmp) (hi : ops[i]? = some oi) (hd : oi.dst = d)
    (hs : Region.noSelect ops = true) (hz : waitsFor md ops z i = true) (hf : Region.free md ops ls i = true) (hr : (Region.ready md ops ls).contains i = true)
    (hQ : ∀ c a w, Q (.panic c) (a.put oi.dst v) w → Q (.panic c) a w) (hy : YieldsIf P ops S oi v a) (hS : S w)
    (h : heldTill P md ops Q S z n (ls.setIfInBounds i true) (a.put d v) w) : heldTill P md ops Q S z (n + 1) ls a w :=
  heldTill.take hi hs hz hf hr hQ hy hS (hd ▸ h)
theorem heldTakeAt {i : Nat} {oi : Oper} {v : Value} {n : Nat} {ls : Array Bool} {a : Act} {w : World} (d : Option Tmp) (hi : ops[i]? = some oi) (hd : oi.dst = d)
    (hs : Region.noSelect ops = true) (hf : Region.free md ops ls i = true) (hr : (Region.ready md ops ls).contains i = true)
    (hQ : ∀ c a w, Q (.panic c) (a.put oi.dst v) w → Q (.panic c) a w) (hy : YieldsIf P ops S oi v a) (hS : S w)
    (h : wpAnyH P md ops Q S n (ls.setIfInBounds i true) (a.put d v) w) : wpAnyH P md ops Q S (n + 1) ls a w :=
  wpAnyH_take hi hs hf hr hQ hy hS (hd ▸ h)
/-- nothing else may come up -/
theorem heldTill.sole {i : Nat} {oi : Oper} {v : Value} {n : Nat} {ls : Array Bool} {a : Act} {w : World} (d : Option Tmp) (hi : ops[i]? = some oi) (hd : oi.dst = d)
    (hr : Region.ready md ops ls = [i]) (hy : YieldsIf P ops S oi v a) (hS : S w)
    (h : heldTill P md ops Q S z n (ls.setIfInBounds i true) (a.put d v) w) : heldTill P md ops Q S z (n + 1) ls a w := by
  refine ⟨fun h0 => (by rw [hr] at h0; cases h0), fun j hj => ?_⟩
  rw [hr, List.mem_singleton] at hj
  subst hj
  exact hy.wpOp hi hS ⟨fun _ => hS, hd ▸ h⟩
/-- number z itself -/
theorem heldTill.last {o : Oper} {n : Nat} {ls : Array Bool} {a : Act} {w : World} (hr : Region.ready md ops ls = [z]) (ho : ops[z]? = some o)
    (h : ∀ K' : Act → World → Prop, Shut (∀ a w, heldTill P md ops Q S z n (ls.setIfInBounds z true) a w → K' a w) → if Region.wanted o (yielded ops a.tmps) = true then Oper.wp P o a w K' Q else K' (a.put o.dst undef) w) :
    heldTill P md ops Q S z (n + 1) ls a w := by
  refine ⟨fun h0 => (by rw [hr] at h0; cases h0), fun j hj => ?_⟩
  rw [hr, List.mem_singleton] at hj
  subst hj
  exact wpOp_step ho fun K' hK => h K' fun a w hh => hK a w ⟨fun e => absurd rfl e, hh⟩
theorem heldTill.done {ls : Array Bool} {a : Act} {w : World} (hr : Region.ready md ops ls = []) (h : Q .normal a w) : ∀ n, heldTill P md ops Q S z n ls a w
  | 0 => ⟨hr, h⟩
  | _ + 1 => ⟨fun _ => h, by rw [hr]; simp⟩
theorem heldTill.region (z : Nat) (S : World → Prop) {id : Nat} {a : Act} {w : World} (hm : P.follows .mixedOrders = true) (hS : S w.drew)
    (h : S w.drew → heldTill P .any ops Q S z ops.size (Array.replicate ops.size false) a w.drew) : (Code.region id ops true).wp P Q a w :=
  wp_region_any hm (heldTill.any _ _ _ _ (h hS))
end
end Go.Proofs.YtolbfjjgdheikaaGreat.R
