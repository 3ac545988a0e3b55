import Derived.Test.YtddklkgcodjijaaGreatAG6
import Derived.Test.YtddklkgcodjijaaGreatAG1
import Derived.Shelf.Small.Bits
import Derived.Shelf.Small.Wraps
import Derived.Shelf.Strconv.Itoa0
import Derived.Shelf.Sort.Plain
import Derived.Shelf.Slices.Equal
import Derived.Ground.Names2Prog
import Derived.Shelf.Slices.Clone
import Derived.Shelf.Slices.SearchI
import Derived.Shelf.Slices.In.SortNone
import Derived.Shelf.Slices.Empties2
import Derived.Ground.SlgnProg
import Derived.Shelf.SlicesG.Clone
import Derived.Shelf.SlicesG.CompactI
import Derived.Shelf.SlicesG.SearchI
import Derived.Shelf.SlicesG.Cells
import Derived.Shelf.SlicesE.Equal
import Derived.Shelf.SlicesE.Compact
import Derived.Shelf.SlicesE.Clone
import Derived.Ground.SlgcProg
import Derived.Shelf.SlicesG.Cmp
import Derived.Ground.SlsfProg
import Derived.Shelf.SlSortCmp.Insertion
import Derived.Ground.SlgmProg
import Derived.Shelf.SortM.Plain
import Derived.Shelf.SortM.SortNone
import Derived.Shelf.SlSortCmp.SiftDown1
import Derived.Shelf.SlSortCmp.HeapSort1
import Derived.Shelf.SlSortCmp.Insertion1
import Derived.Shelf.SlSortCmp.Median1
import Derived.Shelf.SlSortCmp.Pivot1
import Derived.Shelf.SlSortCmp.ReverseRange1
import Derived.Shelf.SlSortCmp.PartialInsertion1
import Derived.Shelf.SlSortCmp.PartitionEqual1
import Derived.Shelf.SlSortCmp.Partition1
import Derived.Shelf.SlSortCmp.Pdq1
import Derived.Shelf.SlSortCmp.Whole1
import Derived.Shelf.SlSortCmp.NoneTotal
import Derived.Test.YtddklkgcodjijaaGreatProg
import Derived.Test.YtddklkgcodjijaaGreatAG4
import Derived.Sort.Lot0
import Derived.Test.YtddklkgcodjijaaGreatAG5
set_option linter.unusedVariables false
set_option linter.unusedSimpArgs false
/- The state of a walk through all, between two walks. -/
namespace Go.Proofs.YtddklkgcodjijaaGreat.R
open Go.RowKit Go.Lab Go.Maps Go.Proofs.YtddklkgcodjijaaGreatW.PrintWords Go.Proofs.YtddklkgcodjijaaGreatW.PrintLast Go.Proofs.YtddklkgcodjijaaGreatW.PrintMore PL

/-- which blocks the parts that were laid down hold -/
def RF (lv : Value) (rows : List Value) (k : Nat) : Prop := lv.ownBlock = some k ∨ ∃ v ∈ rows, v.ownBlock = some k
/-- which blocks a walk leaves alone -/
def WF (gu lo B : Nat) (lv : Value) (rows : List Value) (k : Nat) : Prop := k = gu ∨ (lo ≤ k ∧ k < B) ∨ RF lv rows k

theorem Rws.bound {K : Kp} {TL : TypeId} {lo : Nat} {w : World} {gl : Nat} {lv : Value} {rows : List Value} {ps : List (List Int)} (h : Rws K TL lo w gl lv rows ps) {k : Nat} (hk : RF lv rows k) : lo ≤ k ∧ k < w.heap.size := by
  rcases hk with hk | ⟨v, hv, hk⟩
  · obtain ⟨c, hc⟩ := own_block h.own hk
    exact ⟨own_base h.own k hk, blk_lt hc⟩
  · obtain ⟨i, hi, rfl⟩ := List.mem_iff_getElem.1 hv
    obtain ⟨c, hc⟩ := own_block (h.each i hi) hk
    exact ⟨own_base (h.each i hi) k hk, blk_lt hc⟩
theorem Rws.stay2 {K : Kp} {TL : TypeId} {lo : Nat} {w w1 : World} {gl : Nat} {lv : Value} {rows : List Value} {ps : List (List Int)} (h : Rws K TL lo w gl lv rows ps) (h1 : w1.heap[gl]? = w.heap[gl]?) (h2 : ∀ k, RF lv rows k → w1.heap[k]? = w.heap[k]?) : Rws K TL lo w1 gl lv rows ps :=
  h.stay h1 (fun k hk => h2 k (.inl hk)) (fun v hv k hk => h2 k (.inr ⟨v, hv, hk⟩))

structure WA (K : Kp) (TL : TypeId) (w0 w : World) (gd gv gl gu b lo B : Nat) (dv : Value) (xs : List Int) (i : Nat) (ps : List (List Int)) (pt : List Int) (mp : Option Nat) (st vv lv : Value) (rows : List Value) : Prop where
  ok : K.Ok
  tl : TL = 29 ∨ TL = 112
  stk : Stk w0.heap.size w gd .nilFunc .nilFunc (.map mp) st []
  new : mp = none → ps = [] ∧ pt = []
  set : ∀ gm, mp = some gm → SetOk w gm (ps.flatten ++ pt) ∧ w0.heap.size ≤ gm
  gat : Gat K w0.heap.size w gv vv pt
  rws : Rws K TL w0.heap.size w gl lv rows ps
  gd0 : gd < w0.heap.size
  gv0 : gv < w0.heap.size
  gl0 : gl < w0.heap.size
  ll : ∃ lv0, w0.heap[gl]? = some (.cells #[lv0] TL (0, 0))
  kp : KeepF (fun k => WM gd gv w0.heap.size k ∨ k = gl) w0 w
  it : OIt lo B w b xs i
  box : w.heap[gu]? = some (.cells #[dv] 150 (0, 0))
  gu0 : w0.heap.size ≤ gu
  lo0 : gu < lo
  B0 : B ≤ w.heap.size
  sep : ∀ k, st.ownBlock = some k → vv.ownBlock ≠ some k
  far : ∀ k, WF gu lo B lv rows k → st.ownBlock ≠ some k ∧ vv.ownBlock ≠ some k ∧ mp ≠ some k
  rit : ∀ k, RF lv rows k → (k < lo ∨ B ≤ k) ∧ k ≠ gu

section
variable {K : Kp} {TL : TypeId} {w0 w w1 : World} {gd gv gl gu b lo B : Nat} {dv : Value} {xs : List Int} {i : Nat} {ps : List (List Int)} {pt : List Int} {mp : Option Nat} {st vv lv : Value} {rows : List Value}

theorem WA.stLt (h : WA K TL w0 w gd gv gl gu b lo B dv xs i ps pt mp st vv lv rows) {k : Nat} (hk : st.ownBlock = some k) : w0.heap.size ≤ k ∧ k < w.heap.size := by
  obtain ⟨c, hc⟩ := own_block h.stk.own hk; exact ⟨own_base h.stk.own k hk, blk_lt hc⟩
theorem WA.vvLt (h : WA K TL w0 w gd gv gl gu b lo B dv xs i ps pt mp st vv lv rows) {k : Nat} (hk : vv.ownBlock = some k) : w0.heap.size ≤ k ∧ k < w.heap.size := by
  obtain ⟨c, hc⟩ := own_block h.gat.own hk; exact ⟨own_base h.gat.own k hk, blk_lt hc⟩
theorem WA.mLt (h : WA K TL w0 w gd gv gl gu b lo B dv xs i ps pt mp st vv lv rows) {k : Nat} (hk : mp = some k) : w0.heap.size ≤ k ∧ k < w.heap.size := ⟨(h.set k hk).2, (h.set k hk).1.lt⟩
theorem WA.ne (h : WA K TL w0 w gd gv gl gu b lo B dv xs i ps pt mp st vv lv rows) : gl ≠ gd ∧ gl ≠ gv ∧ gd ≠ gv := by
  refine ⟨fun e => ?_, fun e => ?_, fun e => ?_⟩
  · subst e
    have := blk_type h.rws.blk h.stk.blk
    rcases h.tl with e | e <;> rw [e] at this <;> exact absurd this (by decide)
  · subst e
    have := blk_type h.rws.blk h.gat.blk
    rcases h.tl with e | e <;> rcases h.ok.1 with e2 | e2 <;> rw [e, e2] at this <;> exact absurd this (by decide)
  · subst e
    have := blk_type h.stk.blk h.gat.blk
    rcases h.ok.1 with e2 | e2 <;> rw [e2] at this <;> exact absurd this (by decide)

theorem WA.keep {i' : Nat} (h : WA K TL w0 w gd gv gl gu b lo B dv xs i ps pt mp st vv lv rows) (hk : KeepF (fun k => WM gd gv w0.heap.size k ∨ k = gl) w w1) (hlow : ∀ k, k < w0.heap.size → w1.heap[k]? = w.heap[k]?)
    (hst : ∀ k, st.ownBlock = some k → w1.heap[k]? = w.heap[k]?) (hvv : ∀ k, vv.ownBlock = some k → w1.heap[k]? = w.heap[k]?) (hm : ∀ k, mp = some k → w1.heap[k]? = w.heap[k]?) (hr : ∀ k, RF lv rows k → w1.heap[k]? = w.heap[k]?) (hu : w1.heap[gu]? = w.heap[gu]?) (hit : OIt lo B w1 b xs i') :
    WA K TL w0 w1 gd gv gl gu b lo B dv xs i' ps pt mp st vv lv rows :=
  ⟨h.ok, h.tl, h.stk.stay (hlow _ h.gd0) hst, h.new, fun gm e => ⟨(h.set gm e).1.stay (hm gm e), (h.set gm e).2⟩, h.gat.stay (hlow _ h.gv0) hvv, h.rws.stay2 (hlow _ h.gl0) hr, h.gd0, h.gv0, h.gl0, h.ll, h.kp.trans hk, hit, hu.trans h.box, h.gu0, h.lo0, Nat.le_trans h.B0 hk.size, h.sep, h.far, h.rit⟩
theorem WA.below (h : WA K TL w0 w gd gv gl gu b lo B dv xs i ps pt mp st vv lv rows) (hb : Below w.heap.size w w1) : WA K TL w0 w1 gd gv gl gu b lo B dv xs i ps pt mp st vv lv rows :=
  h.keep (KeepF.of_below hb) (fun k hk => hb.block k (Nat.lt_of_lt_of_le hk h.kp.size)) (fun k hk => hb.block k (h.stLt hk).2) (fun k hk => hb.block k (h.vvLt hk).2) (fun k hk => hb.block k (h.mLt hk).2) (fun k hk => hb.block k (h.rws.bound hk).2) (hb.block _ (blk_lt h.box))
    (h.it.far fun q _ hq => hb.block q (Nat.lt_of_lt_of_le hq h.B0))
theorem WA.mid {i' : Nat} (h : WA K TL w0 w gd gv gl gu b lo B dv xs i ps pt mp st vv lv rows) (hm : Mid lo B w w1) (hit : OIt lo B w1 b xs i') : WA K TL w0 w1 gd gv gl gu b lo B dv xs i' ps pt mp st vv lv rows := by
  have hg := h.gu0
  have hl := h.lo0
  have out : ∀ k, st.ownBlock ≠ some k ∧ vv.ownBlock ≠ some k ∧ mp ≠ some k → True := fun _ _ => trivial
  refine h.keep ⟨hm.os, hm.tape, hm.output, hm.size, fun k hk hn => hm.block k hk (.inl ?_)⟩ (fun k hk => hm.block k (Nat.lt_of_lt_of_le hk h.kp.size) (.inl (by omega))) (fun k hk => hm.block k (h.stLt hk).2 ?_) (fun k hk => hm.block k (h.vvLt hk).2 ?_) (fun k hk => hm.block k (h.mLt hk).2 ?_) (fun k hk => hm.block k (h.rws.bound hk).2 (h.rit k hk).1) (hm.block _ (blk_lt h.box) (.inl hl)) hit
  · simp only [WM] at hn; omega
  · rcases Nat.lt_or_ge k lo with h1 | h1
    · exact .inl h1
    · rcases Nat.lt_or_ge k B with h2 | h2
      · exact absurd hk (h.far k (.inr (.inl ⟨h1, h2⟩))).1
      · exact .inr h2
  · rcases Nat.lt_or_ge k lo with h1 | h1
    · exact .inl h1
    · rcases Nat.lt_or_ge k B with h2 | h2
      · exact absurd hk (h.far k (.inr (.inl ⟨h1, h2⟩))).2.1
      · exact .inr h2
  · rcases Nat.lt_or_ge k lo with h1 | h1
    · exact .inl h1
    · rcases Nat.lt_or_ge k B with h2 | h2
      · exact absurd hk (h.far k (.inr (.inl ⟨h1, h2⟩))).2.2
      · exact .inr h2

/-- the world at the beginning, with the parts as they are now -/
theorem setl_size (w0 : World) (gl : Nat) (lv : Value) : (w0.setCell ⟨gl, 0, none⟩ lv).heap.size = w0.heap.size := by simp
theorem VEnv.setl {base bp : Nat} {zs : List Int} {es : List S95} {p : Pl} (h : VEnv K w0 gd gv base bp zs es p) (ht : TL = 29 ∨ TL = 112) (hl : ∃ lv0, w0.heap[gl]? = some (.cells #[lv0] TL (0, 0))) (lv : Value) : VEnv K (w0.setCell ⟨gl, 0, none⟩ lv) gd gv base bp zs es p := by
  obtain ⟨lv0, hl⟩ := hl
  have other : ∀ (k : Nat) (c : Array Value) (t : TypeId), w0.heap[k]? = some (Obj.cells c t (0, 0)) → t ≠ TL → (w0.setCell ⟨gl, 0, none⟩ lv).heap[k]? = w0.heap[k]? := fun k c t hk hne => Below.heap_setCell _ _ _ _ (fun e => by
    have e2 : k = gl := e
    subst e2
    exact hne (blk_type hk hl))
  refine ⟨⟨h.gr.ok.kinds fun k c t hk htt => other k c t hk ?_, h.gr.good, h.gr.adj, h.gr.hs, h.gr.hn⟩, h.ok, ?_, ?_, h.wf⟩
  · rcases htt with rfl | rfl | rfl | rfl <;> rcases ht with rfl | rfl <;> decide
  · obtain ⟨cs, hc⟩ := h.hd
    exact ⟨cs, (other gd cs _ hc (by rcases ht with rfl | rfl <;> decide)).trans hc⟩
  · obtain ⟨cs, hc⟩ := h.hv
    exact ⟨cs, (other gv cs _ hc (by rcases ht with rfl | rfl <;> rcases h.ok.1 with e | e <;> rw [e] <;> decide)).trans hc⟩
theorem WA.kpl (h : WA K TL w0 w gd gv gl gu b lo B dv xs i ps pt mp st vv lv rows) : KeepF (WM gd gv w0.heap.size) (w0.setCell ⟨gl, 0, none⟩ lv) w := by
  obtain ⟨lv0, hl⟩ := h.ll
  have hk := h.kp
  refine ⟨hk.os, hk.tape, hk.output, by rw [setl_size]; exact hk.size, fun k hlt hn => ?_⟩
  rw [setl_size] at hlt
  by_cases e : k = gl
  · subst e
    rw [h.rws.blk]
    exact (blk_put (cs := #[lv0]) hl 0 lv rfl).symm
  · rw [Below.heap_setCell _ _ _ _ (show k ≠ _ from e)]
    exact hk.block k hlt (fun hh => by rcases hh with hh | hh; exact hn hh; exact e hh)
/-- a walk has ended -/
theorem WA.walked {gm : Nat} {st' vv' : Value} {r : List Int} {wF : World} (h : WA K TL w0 wF gd gv gl gu b lo B dv xs i ps [] mp st vv lv rows)
    (hD : DV K (WF gu lo B lv rows) (w0.setCell ⟨gl, 0, none⟩ lv) wF w1 gd gv gm st' vv' [] (ps.flatten ++ r) r) : WA K TL w0 w1 gd gv gl gu b lo B dv xs i ps r (some gm) st' vv' lv rows := by
  have hsz := setl_size w0 gl lv
  obtain ⟨lv0, hl⟩ := h.ll
  have hne := h.ne
  have h1 := hD.stk
  have h2 := hD.gmL
  have h3 := hD.gat
  have h4 := hD.kp
  rw [hsz] at h1 h2 h3 h4
  have hgl : w1.heap[gl]? = some (.cells #[lv] TL (0, 0)) := by
    rw [h4.block gl (by rw [hsz]; exact h.gl0) (by have := h.gl0; unfold WM; omega)]
    exact blk_put (cs := #[lv0]) hl 0 lv rfl
  have hb : b < B ∧ lo ≤ b := ⟨h.it.hb.2, h.it.hb.1⟩
  refine ⟨h.ok, h.tl, h1, (fun e => by cases e), fun g e => ?_, h3, ?_, h.gd0, h.gv0, h.gl0, h.ll, ?_, ?_, ?_, h.gu0, h.lo0, ?_, hD.sep, fun k hk => ?_, h.rit⟩
  · obtain rfl := Option.some.inj e
    exact ⟨hD.set, h2⟩
  · exact h.rws.stay2 (hgl.trans h.rws.blk.symm) (fun k hk => (hD.nF k (.inr (.inr hk))).2.2.2.2.2)
  · refine ⟨h4.os, h4.tape, h4.output, by have := h4.size; rwa [hsz] at this, fun k hk hn => ?_⟩
    rw [h4.block k (by rw [hsz]; exact hk) (fun hh => hn (.inl hh))]
    exact Below.heap_setCell _ _ _ _ (fun e => hn (.inr e))
  · exact h.it.far fun q h5 h6 => (hD.nF q (.inr (.inl ⟨h5, h6⟩))).2.2.2.2.2
  · exact (hD.nF gu (.inl rfl)).2.2.2.2.2.trans h.box
  · have := (hD.nF (B - 1) (.inr (.inl ⟨by omega, by omega⟩))).2.1
    omega
  · obtain ⟨_, _, h5, h6, h7, _⟩ := hD.nF k hk
    exact ⟨h5, h6, fun e => h7 (Option.some.inj e).symm⟩
end

section
variable {K : Kp} {TL : TypeId} {w0 w w1 : World} {gd gv gl gu b lo B : Nat} {dv : Value} {xs : List Int} {i : Nat} {ps : List (List Int)} {pt : List Int} {mp : Option Nat} {st vv lv : Value} {rows : List Value}
theorem WA.after {vv' lv' : Value} {rows' : List Value} (h : WA K TL w0 w gd gv gl gu b lo B dv xs i ps pt mp st vv lv rows) (hnn : mp ≠ none) (hg : Gat K w0.heap.size w1 gv vv' []) (hr : Rws K TL w0.heap.size w1 gl lv' rows' (ps ++ [pt])) (hk : KeepF (fun k => k = gv ∨ k = gl ∨ lv.ownBlock = some k) w w1)
    (hv : ∀ k, vv'.ownBlock = some k → vv.ownBlock = some k ∨ w.heap.size ≤ k) (hl : ∀ k, lv'.ownBlock = some k → lv.ownBlock = some k ∨ w.heap.size ≤ k)
    (hrr : ∀ v ∈ rows', ∀ k, v.ownBlock = some k → (∃ u ∈ rows, u.ownBlock = some k) ∨ vv.ownBlock = some k ∨ w.heap.size ≤ k) (hrv : ∀ v ∈ rows', ∀ k, v.ownBlock = some k → vv'.ownBlock ≠ some k) (hET : K.E ≠ K.T) :
    WA K TL w0 w1 gd gv gl gu b lo B dv xs i (ps ++ [pt]) [] mp st vv' lv' rows' := by
  have hne := h.ne
  have g0 := h.gd0
  have g1 := h.gv0
  have g2 := h.gl0
  have g3 := h.gu0
  have g4 := h.lo0
  have g5 := h.B0
  have gul := blk_lt h.box
  have hL := h.kp.size
  have lvb : ∀ k, lv.ownBlock = some k → w0.heap.size ≤ k := fun k hk => (h.rws.bound (.inl hk)).1
  have keep : ∀ k, k < w.heap.size → k ≠ gv → k ≠ gl → lv.ownBlock ≠ some k → w1.heap[k]? = w.heap[k]? := fun k a b c d => hk.block k a (by rintro (e | e | e); exact b e; exact c e; exact d e)
  have stk : ∀ k, st.ownBlock = some k → w1.heap[k]? = w.heap[k]? := fun k hk2 => keep k (h.stLt hk2).2 (by have := (h.stLt hk2).1; omega) (by have := (h.stLt hk2).1; omega) (fun e => (h.far k (.inr (.inr (.inl e)))).1 hk2)
  have cls : ∀ k, RF lv' rows' k → RF lv rows k ∨ (vv.ownBlock = some k ∧ lv'.ownBlock ≠ some k) ∨ w.heap.size ≤ k := by
    rintro k (e | ⟨v, hv1, e⟩)
    · rcases hl k e with e2 | e2
      · exact .inl (.inl e2)
      · exact .inr (.inr e2)
    · rcases hrr v hv1 k e with ⟨u, hu, e2⟩ | e2 | e2
      · exact .inl (.inr ⟨u, hu, e2⟩)
      · refine .inr (.inl ⟨e2, fun e3 => ?_⟩)
        obtain ⟨j, hj, rfl⟩ := List.mem_iff_getElem.1 hv1
        obtain ⟨c1, hc1⟩ := own_block (hr.each j hj) e
        obtain ⟨c2, hc2⟩ := own_block hr.own e3
        exact hET (blk_type hc1 hc2)
      · exact .inr (.inr e2)
  refine ⟨h.ok, h.tl, h.stk.stay (keep gd (by omega) hne.2.2 hne.1.symm (fun e => by have := lvb _ e; omega)) stk, fun e => absurd e hnn, fun gm e => ?_, hg, hr, g0, g1, g2, h.ll, ?_, ?_, ?_, g3, g4, Nat.le_trans g5 hk.size, fun k hs hv2 => ?_, fun k hk2 => ?_, fun k hk2 => ?_⟩
  · have hm := h.mLt e
    have := (h.set gm e)
    refine ⟨?_, this.2⟩
    have h6 := this.1.stay (keep gm hm.2 (by omega) (by omega) (fun e2 => (h.far gm (.inr (.inr (.inl e2)))).2.2 e))
    simpa using h6
  · exact h.kp.trans ⟨hk.os, hk.tape, hk.output, hk.size, fun k hk2 hn => hk.block k hk2 (by
      rintro (e | e | e)
      · exact hn (.inl (.inr (.inl e)))
      · exact hn (.inr e)
      · exact hn (.inl (.inr (.inr (lvb k e)))))⟩
  · exact h.it.far fun q h1 h2 => keep q (by omega) (by omega) (by omega) (fun e => by have := h.rit q (.inl e); omega)
  · exact (keep gu gul (by omega) (by omega) (fun e => (h.rit gu (.inl e)).2 rfl)).trans h.box
  · rcases hv k hv2 with e | e
    · exact h.sep k hs e
    · have := (h.stLt hs).2; omega
  · have old : ∀ k, WF gu lo B lv rows k → st.ownBlock ≠ some k ∧ mp ≠ some k ∧ (k < w.heap.size) := fun k hk3 => ⟨(h.far k hk3).1, (h.far k hk3).2.2, by
      rcases hk3 with e | e | e
      · omega
      · omega
      · exact (h.rws.bound e).2⟩
    have vvw : ∀ k, WF gu lo B lv rows k → vv'.ownBlock ≠ some k := fun k hk3 e => by
      rcases hv k e with e2 | e2
      · exact (h.far k hk3).2.1 e2
      · have := (old k hk3).2.2; omega
    rcases hk2 with e | e | e
    · exact ⟨(old k (.inl e)).1, vvw k (.inl e), (old k (.inl e)).2.1⟩
    · exact ⟨(old k (.inr (.inl e))).1, vvw k (.inr (.inl e)), (old k (.inr (.inl e))).2.1⟩
    · rcases cls k e with e2 | ⟨e2, e3⟩ | e2
      · exact ⟨(old k (.inr (.inr e2))).1, vvw k (.inr (.inr e2)), (old k (.inr (.inr e2))).2.1⟩
      · refine ⟨fun e4 => h.sep k e4 e2, fun e4 => ?_, fun e4 => ?_⟩
        · rcases e with e5 | ⟨v, hv1, e5⟩
          · exact e3 e5
          · exact hrv v hv1 k e5 e4
        · obtain ⟨c, hc⟩ := own_block h.gat.own e2
          exact (h.set k e4).1.cells_ne hc rfl
      · refine ⟨fun e4 => by have := (h.stLt e4).2; omega, fun e4 => ?_, fun e4 => by have := (h.mLt e4).2; omega⟩
        rcases e with e5 | ⟨v, hv1, e5⟩
        · obtain ⟨c1, hc1⟩ := own_block hg.own e4
          obtain ⟨c2, hc2⟩ := own_block hr.own e5
          exact hET (blk_type hc1 hc2)
        · exact hrv v hv1 k e5 e4
  · rcases cls k hk2 with e2 | ⟨e2, e3⟩ | e2
    · exact h.rit k e2
    · constructor
      · rcases Nat.lt_or_ge k lo with h1 | h1
        · exact .inl h1
        · rcases Nat.lt_or_ge k B with h2 | h2
          · exact absurd e2 (h.far k (.inr (.inl ⟨h1, h2⟩))).2.1
          · exact .inr h2
      · intro e
        exact (h.far k (.inl e)).2.1 e2
    · exact ⟨.inr (by omega), by omega⟩
end
end Go.Proofs.YtddklkgcodjijaaGreat.R

/- What a walk through all asks of its object: was a node visited, and the walk from a node that was not. -/
namespace Go.Proofs.YtddklkgcodjijaaGreat.R
open Go.RowKit Go.Lab Go.Maps Go.Proofs.YtddklkgcodjijaaGreatW.PrintWords Go.Proofs.YtddklkgcodjijaaGreatW.PrintLast Go.Proofs.YtddklkgcodjijaaGreatW.PrintMore PL

theorem nodup_len : ∀ {l xs : List Int}, l.Nodup → (∀ x ∈ l, x ∈ xs) → l.length ≤ xs.length
  | [], _, _, _ => Nat.zero_le _
  | x :: l, xs, hn, hs => by
    have hn' := List.nodup_cons.1 hn
    have h1 := nodup_len (xs := xs.erase x) hn'.2 (fun y hy => (List.mem_erase_of_ne (by rintro rfl; exact hn'.1 hy)).2 (hs y (by simp [hy])))
    have h2 := List.length_erase_of_mem (hs x (by simp))
    have h3 : 0 < xs.length := List.length_pos_of_mem (hs x (by simp))
    simp only [List.length_cons]
    omega

section
variable {K : Kp} {TL : TypeId} {w0 w : World} {gd gv gl gu b lo B : Nat} {dv : Value} {xs : List Int} {i : Nat} {ps : List (List Int)} {pt : List Int} {mp : Option Nat} {st vv lv : Value} {rows : List Value}
theorem WA.visited (h : WA K TL w0 w gd gv gl gu b lo B dv xs i ps [] mp st vv lv rows) (x : Int) (hw : (Lit.int .i64 x).wf = true) :
    Calls Tryz.prog 119 #[.pointer (some ⟨gd, 0, none⟩), .iface 272 (.int .i64 x)] w fun e w' => e = .returned (.bool (decide (x ∈ ps.flatten))) ∧ Below w.heap.size w w' := by
  cases mp with
  | none =>
    have e := (h.new rfl).1
    subst e
    exact visited_none gd x w ((blk_cell h.stk.blk 3).trans rfl) hw
  | some gm =>
    have h1 := (h.set gm rfl).1
    rw [List.append_nil] at h1
    exact visited_some gd gm ps.flatten x w h1 ((blk_cell h.stk.blk 3).trans rfl) hw
theorem WA.walk {base bp : Nat} {zs : List Int} {es : List S95} {p : Pl} (h : WA K TL w0 w gd gv gl gu b lo B dv xs i ps [] mp st vv lv rows) (hE : VEnv K w0 gd gv base bp zs es p) (hU : UntilOk K w0.heap.size gv gu dv) (hl : ps.flatten.length ≤ 100000) (x : Int) (hx : x ∈ zs) (N : Nat) (hN : N ≤ 9000) (r : List Int)
    (hr : dfsV (outN zs es) ps.flatten N [x] [] = some r) :
    Calls Tryz.prog 120 #[.pointer (some ⟨gd, 0, none⟩), .iface 108 (.agg #[.pointer (some ⟨bp, 0, none⟩)]), .iface 272 (.int .i64 x), .func (.func 121) #[] #[.pointer (some ⟨gu, 0, none⟩)]] w fun e w' =>
      e = .returned .nilIface ∧ ∃ gm st' vv', WA K TL w0 w' gd gv gl gu b lo B dv xs i ps r (some gm) st' vv' lv rows := by
  have hsz := setl_size w0 gl lv
  have hE2 := hE.setl h.tl h.ll lv
  have hst := h.stk
  have hga := h.gat
  have hkp := h.kpl
  have hU2 : UntilOk K (w0.setCell ⟨gl, 0, none⟩ lv).heap.size gv gu dv := by rw [hsz]; exact hU
  have hc : w.cell? ⟨gu, 0, none⟩ = some dv := (blk_cell h.box 0).trans rfl
  have hL := h.kp.size
  have nF : ∀ k, WF gu lo B lv rows k → w0.heap.size ≤ k ∧ k < w.heap.size ∧ st.ownBlock ≠ some k ∧ vv.ownBlock ≠ some k := fun k hk => by
    have h1 := h.far k hk
    have h2 := h.gu0
    have h3 := h.lo0
    have h4 := h.B0
    have h5 := blk_lt h.box
    rcases hk with e | e | e
    · exact ⟨by omega, by omega, h1.1, h1.2.1⟩
    · exact ⟨by omega, by omega, h1.1, h1.2.1⟩
    · exact ⟨(h.rws.bound e).1, (h.rws.bound e).2, h1.1, h1.2.1⟩
  cases mp with
  | none =>
    have e := (h.new rfl).1
    have hv0 : ps.flatten = [] := by rw [e]; rfl
    rw [hv0] at hr
    refine (dfsV_first K (WF gu lo B lv rows) (w0.setCell ⟨gl, 0, none⟩ lv) w gd gv gu base bp dv zs es p st vv x N hN r hE2 hU2 (.inl rfl) hc (by rw [hsz]; exact hst) (by rw [hsz]; exact hga) (by rw [hsz]; exact h.gv0) (by rw [hsz]; exact h.gd0) (by rw [hsz]; exact hkp) h.sep (by rw [hsz]; exact nF) hx hr).mono ?_
    rintro e' w' ⟨rfl, st', vv', hD⟩
    exact ⟨rfl, _, st', vv', h.walked (by rw [hv0]; exact hD)⟩
  | some gm =>
    obtain ⟨h1, h2⟩ := h.set gm rfl
    rw [List.append_nil] at h1
    have hD : DV K (WF gu lo B lv rows) (w0.setCell ⟨gl, 0, none⟩ lv) w w gd gv gm st vv [] ps.flatten [] :=
      ⟨h.ok, by rw [hsz]; exact hst, h1, by rw [hsz]; exact h2, by rw [hsz]; exact hga, by rw [hsz]; exact h.gv0, by rw [hsz]; exact h.gd0, by rw [hsz]; exact hkp, h.sep, fun k hk => by
        obtain ⟨a, b, c, d⟩ := nF k hk
        exact ⟨by rw [hsz]; exact a, b, c, d, fun e => (h.far k hk).2.2 (by rw [e]), rfl⟩⟩
    refine (dfsV_next K (WF gu lo B lv rows) (w0.setCell ⟨gl, 0, none⟩ lv) w gd gv gu base bp dv zs es p st vv gm ps.flatten hl x N hN r hE2 hU2 (.inl rfl) hc hD hx hr).mono ?_
    rintro e' w' ⟨rfl, st', vv', hD'⟩
    exact ⟨rfl, _, st', vv', h.walked hD'⟩
end
end Go.Proofs.YtddklkgcodjijaaGreat.R

/- DepthFirst.WalkAll with ConnectedComponents's functions: the parts are laid down, one after the other. -/
namespace Go.Proofs.YtddklkgcodjijaaGreat.R
open Go.RowKit Go.Lab Go.Maps Go.Proofs.YtddklkgcodjijaaGreatW.PrintWords Go.Proofs.YtddklkgcodjijaaGreatW.PrintLast Go.Proofs.YtddklkgcodjijaaGreatW.PrintMore PL

end Go.Proofs.YtddklkgcodjijaaGreat.R

/- What is done behind each walk: the part is laid down. -/
namespace Go.Proofs.YtddklkgcodjijaaGreat.R
open Go.RowKit Go.Lab Go.Maps Go.Proofs.YtddklkgcodjijaaGreatW.PrintWords Go.Proofs.YtddklkgcodjijaaGreatW.PrintLast Go.Proofs.YtddklkgcodjijaaGreatW.PrintMore PL

theorem Tryz.info22 : (Tryz.prog.info? 22).map (fun i => (i.zero, i.size, i.bytes)) = some (some (.slice none 0 0), 1, 24) := by kernel_rfl
theorem Tryz.info60 : (Tryz.prog.info? 60).map (fun i => (i.zero, i.size, i.bytes)) = some (some (.slice none 0 0), 1, 24) := by kernel_rfl

theorem nodeVs_one (xs : List Int) : ∀ u ∈ nodeVs xs, u.oneCell' = true := by
  intro u hu
  unfold nodeVs at hu
  obtain ⟨x, _, rfl⟩ := List.mem_map.1 hu
  rfl

end Go.Proofs.YtddklkgcodjijaaGreat.R

/- bothWays: an undirected graph is opened. -/
namespace Go.Proofs.YtddklkgcodjijaaGreat.R
open Go.RowKit Go.Lab Go.Maps Go.Proofs.YtddklkgcodjijaaGreatW.PrintWords Go.Proofs.YtddklkgcodjijaaGreatW.PrintLast Go.Proofs.YtddklkgcodjijaaGreatW.PrintMore PL

end Go.Proofs.YtddklkgcodjijaaGreat.R

/- ConnectedComponents, numbers, slices.Sort of ints. -/
namespace Go.Proofs.YtddklkgcodjijaaGreat.R
open Go.RowKit Go.Lab Go.Maps Go.Proofs.YtddklkgcodjijaaGreatW.PrintWords Go.Proofs.YtddklkgcodjijaaGreatW.PrintLast Go.Proofs.YtddklkgcodjijaaGreatW.PrintMore PL

/-- a row of rows, as a value -/
structure RwsV (K : Kp) (lo : Nat) (w : World) (lv : Value) (rows : List Value) (ps : List (List Int)) : Prop where
  own : w.ownsRow lo K.T 1 lv rows.length rows
  len : rows.length = ps.length
  each : ∀ (i : Nat) (h : i < rows.length), w.ownsRow lo K.E 1 rows[i] (ps.getD i []).length (K.val (ps.getD i []))
theorem RwsV.mono {K : Kp} {lo lo' : Nat} {w : World} {lv : Value} {rows : List Value} {ps : List (List Int)} (h : RwsV K lo w lv rows ps) (hl : lo' ≤ lo) : RwsV K lo' w lv rows ps := ⟨own_weaken h.own hl, h.len, fun i hi => own_weaken (h.each i hi) hl⟩
theorem RwsV.keep {K : Kp} {lo : Nat} {w w1 : World} {lv : Value} {rows : List Value} {ps : List (List Int)} (h : RwsV K lo w lv rows ps) (hk : ∀ k, k < w.heap.size → w1.heap[k]? = w.heap[k]?) : RwsV K lo w1 lv rows ps :=
  ⟨own_of_heap h.own (fun k hk2 => hk k (by obtain ⟨c, hc⟩ := own_block h.own hk2; exact blk_lt hc)), h.len, fun i hi => own_of_heap (h.each i hi) (fun k hk2 => hk k (by obtain ⟨c, hc⟩ := own_block (h.each i hi) hk2; exact blk_lt hc))⟩

set_option maxHeartbeats 2000000 in
set_option maxRecDepth 100000 in
theorem numbers_any (base : Nat) (v : Value) (xs : List Int) (w : World) (h : w.ownsRow base 88 1 v xs.length (nodeVs xs)) (hn : xs.length ≤ 100000) :
    Calls Tryz.prog 62 #[v] w fun e w' => ∃ v', e = .returned v' ∧ w'.ownsRow w.heap.size 3 1 v' xs.length (nums .i64 xs) ∧ Below w.heap.size w w' := by
  obtain ⟨A, c, rfl⟩ := own_slice h
  have HO := Aside0.mk h
  obtain ⟨i0, hi, hz0, hz1, hz2⟩ := info_parts Q.Tryz.info3
  have HI := Aside0.mk (And.intro hi (And.intro hz0 (And.intro hz1 hz2)))
  clear h hi hz0 hz1 hz2
  go_enter Tryz.func62, Tryz.ntmps62
  go_wp2
  go_loopw [3, 8] (fun v i wr => ∃ k : Nat, k ≤ xs.length ∧ i = .int .i64 k ∧ Aside0 (wr.ownsRow w.heap.size 3 1 v k (nums .i64 (xs.take k)) ∧ Below w.heap.size w wr)) (fun _ i _ => xs.length - (intOf i).toNat)
  case atStart => exact ⟨0, Nat.zero_le _, rfl, ⟨World.ownsRow_nil _ _ _ _, Below.refl _ _⟩⟩
  case round =>
    obtain ⟨k, hk, rfl, HR⟩ := hrel
    by_cases hlt : k < xs.length
    · have hbw := HR.out.2.size
      obtain ⟨g, c', he, hc', hcell, hcur⟩ := own_cells HO.out (by omega)
      obtain ⟨cur, hcur⟩ := hcur
      simp only [Value.slice.injEq] at he
      obtain ⟨rfl, _, rfl⟩ := he
      have hgl := blk_lt hcur
      have hce : wr.cell? ⟨g, k, none⟩ = some (nodeV xs[k]) := by
        rw [World.cell?_of_block (HR.out.2.block g hgl)]
        exact hcell k _ (by simp [nodeVs, hlt])
      have hts := nums_step (r := xs) hlt
      have HTS := Aside0.mk hts
      clear hts hcell hcur
      generalize xs[k] = x at hce HTS
      unfold nodeV at hce
      obtain ⟨V, C, rfl⟩ := own_slice HR.out.1
      go_wp2_with (first
        | (go_at_call 47; refine (number_any _ _).mono ?_; rintro e w1 ⟨rfl, rfl⟩)
        | (at_builtin; refine wpList_append_own _ rfl _ _ 22 rfl w.heap.size 3 i0 (.int .i64 0) 1 8 Tryz.underlying22 HI.out.1 HI.out.2.1 HI.out.2.2.1 HI.out.2.2.2 rfl (by decide) _ k (nums .i64 (xs.take k)) rfl (World.ownsRow.alloc HR.out.1 _) ⟨wr.heap.size, 0, none⟩ 1 1 [.int .i64 x] rfl rfl (cell_one_new _ _ _) ?q2 ?q3 ?q4 ?q5 ?_))
      case q2 => intro u hu; simp at hu; subst hu; rfl
      case q3 => unfold maxLen; omega
      case q4 => omega
      case q5 => simp; omega
      intro v' w1 hown hgr _
      have HOw := Aside0.mk hown
      have HGR := Aside0.mk hgr
      clear hown hgr
      go_wp2
      go_roundw
      case rel => exact ⟨k + 1, by omega, by go_num, ⟨by rw [HTS.out]; exact HOw.out, (HR.out.2.alloc hbw _).grown HGR.out (by simp; omega) (fun q hq => own_base HR.out.1 q hq)⟩⟩
      case measure => simp [intOf]; omega
    · have hk' : k = xs.length := by omega
      have hts : xs.take k = xs := by rw [hk', List.take_length]
      have h1 := HR.out
      rw [hts, hk'] at h1
      have H1 := Aside0.mk h1
      clear h1 hts HR
      go_wp2
      go_ret
      exact ⟨_, rfl, H1.out.1, H1.out.2⟩
end Go.Proofs.YtddklkgcodjijaaGreat.R

/-
  DERIVED: THE SHELF's CONTRACTS AT THIS DUMP, IN PLAIN WORDS (tools/lay-plain.mjs out of 'TryzShelfB.lean', which tools/lay-shelf.mjs wrote): THE SAME DECLARATIONS UNDER THE SAME NAMES: 'import', 'namespace', 'open', 'def', 'theorem' AND NOTHING ELSE: no command of the shelf's: FOR A HAND-IN. Each laying: the table of numbers ('.._ren') and one theorem, a field a fact of the dump's own or the kernel's comparison; each contract: ONE APPLICATION.
-/
namespace Go.Proofs
open Go.Shelf
def Tryz.lays122_ren : Go.Shelf.Ren := ⟨fun | 122 => 117 | 215 => 153 | n => n, fun | 3 => 3 | 4 => 4 | n => n, fun | n => n⟩
theorem Tryz.lays122 : Go.Proofs.Lays.n122 Tryz.prog Tryz.lays122_ren := {
  mixed := by kernel_rfl
  f122 := Tryz.func117.trans (congrArg some (by kernel_rfl))
  f215 := Tryz.func153.trans (congrArg some (by kernel_rfl))
  t3 := Tryz.underlying3
  a3 := Tryz.isAgg3
  z3 := Tryz.sizeOf3
  v3 := Tryz.zeroValue3
  t4 := Tryz.underlying4
  a4 := Tryz.isAgg4
  z4 := Tryz.sizeOf4
  v4 := Tryz.zeroValue4 }
open Go.RowKit in
/-- cmp.Compare at int: "Compare returns -1 if x is less than y, 0 if x equals y, +1 if x is greater than y.": IT RETURNS 'Lib.compareInt x y'; the world is as it was. (LAID: no walk: one application.) -/
theorem Tryz.cmp_Compare_int (x y : Int) (w : World) :
    Calls Tryz.prog 117 #[.int .i64 x, .int .i64 y] w fun e w' => e = .returned (.int .i64 (Lib.compareInt x y)) ∧ w' = w := Any.cmp_Compare_int Tryz.lays122 x y w
def Tryz.laysSlF6_f85_ren : Go.Shelf.Ren := ⟨fun | 6 => 85 | 15 => 78 | 14 => 116 | 28 => 113 | 29 => 114 | 20 => 145 | 21 => 146 | 22 => 147 | 23 => 148 | 24 => 149 | 25 => 150 | 26 => 151 | 27 => 152 | 46 => 172 | 47 => 141 | 48 => 142 | 49 => 173 | 50 => 174 | 57 => 181 | n => n, fun | 22 => 29 | 24 => 22 | 25 => 75 | 3 => 3 | 39 => 128 | 0 => 0 | 53 => 178 | 55 => 180 | 4 => 4 | 46 => 172 | 45 => 171 | 50 => 84 | 5 => 5 | 9 => 9 | 66 => 205 | 70 => 209 | 76 => 236 | 77 => 237 | n => n, fun | n => n⟩
theorem Tryz.laysSlF6_f85 : Go.Proofs.SlLaysF.n6 Tryz.prog Tryz.laysSlF6_f85_ren := {
  mixed := by kernel_rfl
  f6 := ⟨Tryz.f85.name, by decide, Tryz.func85.trans (congrArg some (by kernel_rfl))⟩
  f14 := ⟨Tryz.f116.name, by decide, Tryz.func116.trans (congrArg some (by kernel_rfl))⟩
  f15 := Tryz.func78.trans (congrArg some (by kernel_rfl))
  f20 := ⟨Tryz.f145.name, by decide, Tryz.func145.trans (congrArg some (by kernel_rfl))⟩
  f21 := ⟨Tryz.f146.name, by decide, Tryz.func146.trans (congrArg some (by kernel_rfl))⟩
  f22 := ⟨Tryz.f147.name, by decide, Tryz.func147.trans (congrArg some (by kernel_rfl))⟩
  f23 := ⟨Tryz.f148.name, by decide, Tryz.func148.trans (congrArg some (by kernel_rfl))⟩
  f24 := ⟨Tryz.f149.name, by decide, Tryz.func149.trans (congrArg some (by kernel_rfl))⟩
  f25 := ⟨Tryz.f150.name, by decide, Tryz.func150.trans (congrArg some (by kernel_rfl))⟩
  f26 := ⟨Tryz.f151.name, by decide, Tryz.func151.trans (congrArg some (by kernel_rfl))⟩
  f27 := ⟨Tryz.f152.name, by decide, Tryz.func152.trans (congrArg some (by kernel_rfl))⟩
  f28 := Tryz.func113.trans (congrArg some (by kernel_rfl))
  f29 := Tryz.func114.trans (congrArg some (by kernel_rfl))
  f46 := ⟨Tryz.f172.name, by decide, Tryz.func172.trans (congrArg some (by kernel_rfl))⟩
  f47 := Tryz.func141.trans (congrArg some (by kernel_rfl))
  f48 := Tryz.func142.trans (congrArg some (by kernel_rfl))
  f49 := ⟨Tryz.f173.name, by decide, Tryz.func173.trans (congrArg some (by kernel_rfl))⟩
  f50 := ⟨Tryz.f174.name, by decide, Tryz.func174.trans (congrArg some (by kernel_rfl))⟩
  f57 := ⟨Tryz.f181.name, by decide, Tryz.func181.trans (congrArg some (by kernel_rfl))⟩
  t0 := Tryz.underlying0
  a0 := Tryz.isAgg0
  z0 := Tryz.sizeOf0
  v0 := Tryz.zeroValue0
  t3 := Tryz.underlying3
  a3 := Tryz.isAgg3
  z3 := Tryz.sizeOf3
  v3 := Tryz.zeroValue3
  t4 := Tryz.underlying4
  a4 := Tryz.isAgg4
  z4 := Tryz.sizeOf4
  v4 := Tryz.zeroValue4
  t5 := Tryz.underlying5
  a5 := Tryz.isAgg5
  z5 := Tryz.sizeOf5
  v5 := Tryz.zeroValue5
  t9 := Tryz.underlying9
  a9 := Tryz.isAgg9
  z9 := Tryz.sizeOf9
  v9 := Tryz.zeroValue9
  t22 := Tryz.underlying29
  a22 := Tryz.isAgg29
  z22 := Tryz.sizeOf29
  v22 := Tryz.zeroValue29
  a24 := Tryz.isAgg22
  z24 := Tryz.sizeOf22
  t25 := Tryz.underlying75
  a25 := Tryz.isAgg75
  z25 := Tryz.sizeOf75
  v25 := Tryz.zeroValue75
  t39 := Tryz.underlying128
  a39 := Tryz.isAgg128
  z39 := Tryz.sizeOf128
  v39 := Tryz.zeroValue128
  t45 := Tryz.underlying171
  a45 := Tryz.isAgg171
  z45 := Tryz.sizeOf171
  v45 := Tryz.zeroValue171
  t46 := Tryz.underlying172
  a46 := Tryz.isAgg172
  z46 := Tryz.sizeOf172
  v46 := Tryz.zeroValue172
  t50 := Tryz.underlying84
  a50 := Tryz.isAgg84
  z50 := Tryz.sizeOf84
  v50 := Tryz.zeroValue84
  t53 := Tryz.underlying178
  a53 := Tryz.isAgg178
  z53 := Tryz.sizeOf178
  v53 := Tryz.zeroValue178
  t55 := Tryz.underlying180
  a55 := Tryz.isAgg180
  z55 := Tryz.sizeOf180
  v55 := Tryz.zeroValue180
  t66 := Tryz.underlying205
  a66 := Tryz.isAgg205
  z66 := Tryz.sizeOf205
  v66 := Tryz.zeroValue205
  t70 := Tryz.underlying209
  a70 := Tryz.isAgg209
  z70 := Tryz.sizeOf209
  v70 := Tryz.zeroValue209
  t76 := Tryz.underlying236
  a76 := Tryz.isAgg236
  z76 := Tryz.sizeOf236
  v76 := Tryz.zeroValue236
  t77 := Tryz.underlying237
  a77 := Tryz.isAgg237
  z77 := Tryz.sizeOf237
  v77 := Tryz.zeroValue237 }
def Tryz.laysSlF06_f85_ren : Go.Shelf.Ren := ⟨fun | 6 => 85 | 15 => 78 | 14 => 116 | 28 => 113 | 29 => 114 | 20 => 145 | 21 => 146 | 22 => 147 | 23 => 148 | 24 => 149 | 25 => 150 | 26 => 151 | 27 => 152 | 46 => 172 | 47 => 141 | 48 => 142 | 49 => 173 | 50 => 174 | 57 => 181 | n => n, fun | 22 => 29 | 24 => 22 | 25 => 75 | 3 => 3 | 39 => 128 | 0 => 0 | 53 => 178 | 55 => 180 | 4 => 4 | 46 => 172 | 45 => 171 | 50 => 84 | 5 => 5 | 9 => 9 | 66 => 205 | 70 => 209 | 76 => 236 | 77 => 237 | n => n, fun | n => n⟩
theorem Tryz.laysSlF06_f85 : Go.Proofs.SlLaysF0.n6 Tryz.prog Tryz.laysSlF06_f85_ren := {
  mixed := by kernel_rfl
  f6 := ⟨Tryz.f85.name, by decide, Tryz.func85.trans (congrArg some (by kernel_rfl))⟩
  f14 := ⟨Tryz.f116.name, by decide, Tryz.func116.trans (congrArg some (by kernel_rfl))⟩
  f15 := Tryz.func78.trans (congrArg some (by kernel_rfl))
  f20 := ⟨Tryz.f145.name, by decide, Tryz.func145.trans (congrArg some (by kernel_rfl))⟩
  f21 := ⟨Tryz.f146.name, by decide, Tryz.func146.trans (congrArg some (by kernel_rfl))⟩
  f22 := ⟨Tryz.f147.name, by decide, Tryz.func147.trans (congrArg some (by kernel_rfl))⟩
  f23 := ⟨Tryz.f148.name, by decide, Tryz.func148.trans (congrArg some (by kernel_rfl))⟩
  f24 := ⟨Tryz.f149.name, by decide, Tryz.func149.trans (congrArg some (by kernel_rfl))⟩
  f25 := ⟨Tryz.f150.name, by decide, Tryz.func150.trans (congrArg some (by kernel_rfl))⟩
  f26 := ⟨Tryz.f151.name, by decide, Tryz.func151.trans (congrArg some (by kernel_rfl))⟩
  f27 := ⟨Tryz.f152.name, by decide, Tryz.func152.trans (congrArg some (by kernel_rfl))⟩
  f28 := Tryz.func113.trans (congrArg some (by kernel_rfl))
  f29 := Tryz.func114.trans (congrArg some (by kernel_rfl))
  f46 := ⟨Tryz.f172.name, by decide, Tryz.func172.trans (congrArg some (by kernel_rfl))⟩
  f47 := Tryz.func141.trans (congrArg some (by kernel_rfl))
  f48 := Tryz.func142.trans (congrArg some (by kernel_rfl))
  f49 := ⟨Tryz.f173.name, by decide, Tryz.func173.trans (congrArg some (by kernel_rfl))⟩
  f50 := ⟨Tryz.f174.name, by decide, Tryz.func174.trans (congrArg some (by kernel_rfl))⟩
  f57 := ⟨Tryz.f181.name, by decide, Tryz.func181.trans (congrArg some (by kernel_rfl))⟩
  t0 := Tryz.underlying0
  a0 := Tryz.isAgg0
  z0 := Tryz.sizeOf0
  v0 := Tryz.zeroValue0
  t3 := Tryz.underlying3
  a3 := Tryz.isAgg3
  z3 := Tryz.sizeOf3
  v3 := Tryz.zeroValue3
  t4 := Tryz.underlying4
  a4 := Tryz.isAgg4
  z4 := Tryz.sizeOf4
  v4 := Tryz.zeroValue4
  t5 := Tryz.underlying5
  a5 := Tryz.isAgg5
  z5 := Tryz.sizeOf5
  v5 := Tryz.zeroValue5
  t9 := Tryz.underlying9
  a9 := Tryz.isAgg9
  z9 := Tryz.sizeOf9
  v9 := Tryz.zeroValue9
  t22 := Tryz.underlying29
  a22 := Tryz.isAgg29
  z22 := Tryz.sizeOf29
  v22 := Tryz.zeroValue29
  t25 := Tryz.underlying75
  a25 := Tryz.isAgg75
  z25 := Tryz.sizeOf75
  v25 := Tryz.zeroValue75
  t39 := Tryz.underlying128
  a39 := Tryz.isAgg128
  z39 := Tryz.sizeOf128
  v39 := Tryz.zeroValue128
  t45 := Tryz.underlying171
  a45 := Tryz.isAgg171
  z45 := Tryz.sizeOf171
  v45 := Tryz.zeroValue171
  t46 := Tryz.underlying172
  a46 := Tryz.isAgg172
  z46 := Tryz.sizeOf172
  v46 := Tryz.zeroValue172
  t50 := Tryz.underlying84
  a50 := Tryz.isAgg84
  z50 := Tryz.sizeOf84
  v50 := Tryz.zeroValue84
  t53 := Tryz.underlying178
  a53 := Tryz.isAgg178
  z53 := Tryz.sizeOf178
  v53 := Tryz.zeroValue178
  t55 := Tryz.underlying180
  a55 := Tryz.isAgg180
  z55 := Tryz.sizeOf180
  v55 := Tryz.zeroValue180
  t66 := Tryz.underlying205
  a66 := Tryz.isAgg205
  z66 := Tryz.sizeOf205
  v66 := Tryz.zeroValue205
  t70 := Tryz.underlying209
  a70 := Tryz.isAgg209
  z70 := Tryz.sizeOf209
  v70 := Tryz.zeroValue209
  t76 := Tryz.underlying236
  a76 := Tryz.isAgg236
  z76 := Tryz.sizeOf236
  v76 := Tryz.zeroValue236
  t77 := Tryz.underlying237
  a77 := Tryz.isAgg237
  z77 := Tryz.sizeOf237
  v77 := Tryz.zeroValue237 }
open Go.RowKit Go.Lib Go.Sort in
/-- **slices.SortFunc AT NO ELEMENT, A nil SLICE TOO: nothing turns.** (LAID AT THE INSTANCE 'slices.SortFunc[[][]int,[]int]': no walk: one application.) -/
theorem Tryz.slices_SortFunc_none {α : Type} [Inhabited α] (p : Option Addr) (cap : Nat) (fv : Value) (w : World) :
    Calls Tryz.prog 85 #[.slice p 0 cap, fv] w fun e w' => e = .returned (.tuple #[]) ∧ w' = w := AnyF.slices_SortFunc_none Tryz.laysSlF06_f85 p cap fv w
open Go.RowKit Go.Lib Go.Sort in
/-- **slices.SortFunc AT ONE CELL, UNDER A 'cmp' THAT PARTS WHATEVER TWO THAT ARE NOT ONE: THE ROW HOLDS core's 'mergeSort'.** (LAID AT THE INSTANCE 'slices.SortFunc[[][]int,[]int]': no walk: one application.) -/
theorem Tryz.slices_SortFunc_total {α : Type} [Inhabited α] (enc : α → Value) (h1 : OneCell enc) (cf : α → α → Int) (hO : SWO (ltOf cf)) (g : Nat) (cb : Array Value) (blk off cap : Nat) (d : Array α) (w : World) (eg : ∀ args w, (callFunc g args).run Tryz.prog w = .ok (.enter g args) w) (hcmp : CmpLays1 Tryz.prog g cb enc cf blk off d.size w) (hH : Holds enc w blk off d) (hblk : blk < w.heap.size) (hsz : d.size < 4611686018427387904) (hT : ∀ x y, (ltOf cf) x y = false → (ltOf cf) y x = false → x = y) :
    Calls Tryz.prog 85 #[.slice (some ⟨blk, off, none⟩) d.size cap, .func (.func g) #[] cb] w fun e w' =>
      e = .returned (.tuple #[]) ∧ ∃ n os, w' = sortWorld enc w blk off n (d.toList.mergeSort fun x y => !(ltOf cf) y x).toArray os := Any.slices_SortFunc_total Tryz.laysSlF6_f85 enc h1 cf hO g cb blk off cap d w eg hcmp hH hblk hsz hT
end Go.Proofs

/- slices.Compare, and slices.SortFunc of lists by it. -/
namespace Go.Proofs.YtddklkgcodjijaaGreat.R
open Go.RowKit Go.Lab Go.Maps Go.Proofs.YtddklkgcodjijaaGreatW.PrintWords Go.Proofs.YtddklkgcodjijaaGreatW.PrintLast Go.Proofs.YtddklkgcodjijaaGreatW.PrintMore PL

end Go.Proofs.YtddklkgcodjijaaGreat.R

/- slices.Sort of ints; slices.SortFunc of lists. -/
namespace Go.Proofs.YtddklkgcodjijaaGreat.R
open Go.RowKit Go.Lab Go.Maps Go.Proofs.YtddklkgcodjijaaGreatW.PrintWords Go.Proofs.YtddklkgcodjijaaGreatW.PrintLast Go.Proofs.YtddklkgcodjijaaGreatW.PrintMore PL

open Go.Sort in
theorem putCells_takeE {α : Type} [Inhabited α] (enc : α → Value) (cur : Array Value) (n : Nat) (ys : List α) (hl : ys.length = n) (hn : n ≤ cur.size) : (putCells enc 0 ys.toArray cur).toList.take n = ys.map enc := by
  apply List.ext_getElem?
  intro j
  rw [List.getElem?_take]
  by_cases hj : j < n
  · rw [if_pos hj, Array.getElem?_toList]
    unfold putCells
    rw [Array.getElem?_mapIdx, Array.getElem?_eq_getElem (by omega), List.getElem?_map, List.getElem?_eq_getElem (by omega)]
    have : j < ys.toArray.size := by simp; omega
    simp only [Option.map_some, Nat.zero_le, true_and, Nat.zero_add, Nat.sub_zero]
    rw [if_pos this, getElem!_pos ys.toArray j this]
    simp
  · rw [if_neg hj, List.getElem?_eq_none (by rw [List.length_map]; omega)]
open Go.Sort in
theorem sortWorld_heap {α : Type} [Inhabited α] (enc : α → Value) (w : World) (g m : Nat) (dk : Array α) (os : Array Obj) (k : Nat) (hk : k < w.heap.size) (hne : k ≠ g) : (sortWorld enc w g 0 m dk os).heap[k]? = w.heap[k]? := by
  unfold sortWorld
  have hsz : (putRow enc (Go.Sort.ahead w m) g 0 dk).heap.size = w.heap.size := by simp [putRow, mapBlock, Go.Sort.ahead]
  rw [heap_grow_old _ _ (by rw [hsz]; exact hk)]
  unfold putRow mapBlock
  have : (Go.Sort.ahead w m).heap = w.heap := rfl
  simp only [this, Array.getElem?_modify]
  rw [if_neg (Ne.symm hne)]

end Go.Proofs.YtddklkgcodjijaaGreat.R

/- A graph that was read, by its arcs. -/
namespace Go.Proofs.YtddklkgcodjijaaGreat.R
open Go.RowKit Go.Lab Go.Maps Go.Proofs.YtddklkgcodjijaaGreatW.PrintWords Go.Proofs.YtddklkgcodjijaaGreatW.PrintLast Go.Proofs.YtddklkgcodjijaaGreatW.PrintMore PL

theorem snoc_ind {α : Type} {P : List α → Prop} (l : List α) (h0 : P []) (h1 : ∀ l a, P l → P (l ++ [a])) : P l := by
  rw [← List.reverse_reverse l]
  generalize l.reverse = m
  induction m with
  | nil => exact h0
  | cons a m ih => rw [List.reverse_cons]; exact h1 _ _ ih
theorem pl0_adj (zs : List Int) : Adj zs [] (pl0 (srt zs)) := by
  have hr : ∀ i, (List.replicate (srt zs).length ([] : List (Int × Nat))).getD i [] = [] := by
    intro i
    rw [List.getD_eq_getElem?_getD, List.getElem?_replicate]; split <;> rfl
  refine ⟨rfl, by simp [pl0], by simp [pl0], ?_, ?_⟩
  all_goals
    intro i hi a
    unfold pl0
    rw [hr]
    constructor
    · intro h; cases h
    · rintro ⟨k, n, _, _, hn⟩; cases hn
theorem plOf_adj (zs : List Int) (hz : zs.length ≤ 1000) (h : (srt zs).Pairwise (· < ·)) (es : List S95) (he : es.all (goodE zs) = true) : Adj zs es (plOf true zs es) := by
  revert he
  refine snoc_ind (P := fun es => es.all (goodE zs) = true → Adj zs es (plOf true zs es)) es (fun _ => pl0_adj zs) fun es e ih he => ?_
  rw [List.all_append, Bool.and_eq_true] at he
  have he2 : goodE zs e = true := by simpa using he.2
  rw [plOf_snoc]
  unfold goodE at he2
  simp only [Bool.and_eq_true, decide_eq_true_eq] at he2
  exact (ih he.1).step (plOf_good true zs hz h es he.1) h e ((mem_srt _ _).2 he2.1.1.1.1) ((mem_srt _ _).2 he2.1.1.1.2)
theorem dbl_good {zs : List Int} (d : Bool) {es : List S95} (h : es.all (goodE zs) = true) : (dbl d es).all (goodE zs) = true := by
  unfold dbl
  split
  · exact h
  · rw [List.all_eq_true] at h ⊢
    intro e he
    obtain ⟨a, ha, hm⟩ := List.mem_flatMap.1 he
    have hg := h a ha
    rcases List.mem_cons.1 hm with rfl | hm
    · exact hg
    · rw [List.mem_singleton] at hm
      subst hm
      unfold goodE at hg ⊢
      simp only [Bool.and_eq_true, decide_eq_true_eq, Bool.not_eq_true', decide_eq_false_iff_not] at hg ⊢
      obtain ⟨⟨⟨⟨h1, h2⟩, h3⟩, h4⟩, h5⟩ := hg
      exact ⟨⟨⟨⟨h2, h1⟩, fun e => h3 e.symm⟩, h4⟩, h5⟩
theorem plOf_dbl (d : Bool) (zs : List Int) (es : List S95) : plOf d zs es = plOf true zs (dbl d es) := by
  cases d with
  | true => rfl
  | false =>
    unfold plOf dbl
    rw [if_neg (by decide)]
    suffices h : ∀ (es : List S95) (p : Pl), es.foldl (layE false) p = (es.flatMap fun e => [e, ⟨e.f1, e.f0, e.f2⟩]).foldl (layE true) p from h es _
    intro es
    induction es with
    | nil => intro p; rfl
    | cons e es ih =>
      intro p
      rw [List.foldl_cons, List.flatMap_cons, List.foldl_append, ih]
      congr 1
theorem GrOk.mk' {w w' : World} {d : Bool} {zs : List Int} {es : List S95} {base bp : Nat} (hn : zs.length ≤ 1000) (hro : readOk zs es = true) (hpl : PlOk w' base bp (plOf d zs es)) : GrOk w' base bp zs (dbl d es) (plOf d zs es) := by
  unfold readOk at hro
  simp only [Bool.and_eq_true, decide_eq_true_eq] at hro
  refine ⟨hpl, plOf_good d zs hn hro.1 es hro.2, ?_, hro.1, hn⟩
  rw [plOf_dbl]
  exact plOf_adj zs hn hro.1 _ (dbl_good d hro.2)

theorem outN_mem' {zs : List Int} {es : List S95} {u v : Int} (h : v ∈ outN zs es u) : v ∈ zs ∧ (arcW es u v).isSome = true := by
  unfold outN at h
  obtain ⟨h1, h2⟩ := List.mem_filter.1 h
  exact ⟨(mem_srt _ _).1 h1, h2⟩
end Go.Proofs.YtddklkgcodjijaaGreat.R

/- impl.lists, impl.Components. -/
namespace Go.Proofs.YtddklkgcodjijaaGreat.R
open Go.RowKit Go.Lab Go.Maps Go.Proofs.YtddklkgcodjijaaGreatW.PrintWords Go.Proofs.YtddklkgcodjijaaGreatW.PrintLast Go.Proofs.YtddklkgcodjijaaGreatW.PrintMore PL

theorem RwsV.snoc {K : Kp} {lo : Nat} {w : World} {lv : Value} {rows : List Value} {ps : List (List Int)} {v : Value} {pt : List Int} (h2 : w.ownsRow lo K.T 1 lv (rows ++ [v]).length (rows ++ [v])) (hl : rows.length = ps.length)
    (h3 : ∀ (i : Nat) (h : i < rows.length), w.ownsRow lo K.E 1 rows[i] (ps.getD i []).length (K.val (ps.getD i []))) (h4 : w.ownsRow lo K.E 1 v pt.length (K.val pt)) : RwsV K lo w lv (rows ++ [v]) (ps ++ [pt]) := by
  refine ⟨h2, by simp [hl], fun i hi => ?_⟩
  rw [List.length_append, List.length_singleton] at hi
  by_cases hlt : i < rows.length
  · have e1 : (rows ++ [v])[i]'(by simp; omega) = rows[i] := List.getElem_append_left hlt
    have e2 : (ps ++ [pt]).getD i [] = ps.getD i [] := by
      rw [List.getD_eq_getElem?_getD, List.getD_eq_getElem?_getD, List.getElem?_append_left (by omega)]
    rw [e1, e2]
    exact h3 i hlt
  · have hi2 : i = rows.length := by omega
    subst hi2
    have e1 : (rows ++ [v])[rows.length]'(by simp) = v := by simp
    have e2 : (ps ++ [pt]).getD rows.length [] = pt := by
      rw [hl, List.getD_eq_getElem?_getD]; simp
    rw [e1, e2]
    exact h4

end Go.Proofs.YtddklkgcodjijaaGreat.R

/- impl.Components: the parts, each ascending, in order. -/
namespace Go.Proofs.YtddklkgcodjijaaGreat.R
open Go.RowKit Go.Lab Go.Maps Go.Proofs.YtddklkgcodjijaaGreatW.PrintWords Go.Proofs.YtddklkgcodjijaaGreatW.PrintLast Go.Proofs.YtddklkgcodjijaaGreatW.PrintMore PL

theorem Comps.srt_nodup {adj : Int → List Int} {ns : List Int} {out : List (List Int)} (h : Comps adj ns out) (hin : ∀ u ∈ ns, ∀ v, RchW adj u v → v ∈ ns) : (out.map srt).Nodup := by
  unfold List.Nodup
  rw [List.pairwise_map]
  refine (List.Pairwise.and_mem.1 h.heads).imp ?_
  rintro a b ⟨ha, hb, hab⟩ e
  obtain ⟨u, hu, l, rfl, hm, _, hmin⟩ := h.parts a ha
  obtain ⟨v, hv, l2, rfl, hm2, _, hmin2⟩ := h.parts b hb
  have hmem : ∀ x, x ∈ u :: l ↔ x ∈ v :: l2 := fun x => by rw [← mem_srt, e, mem_srt]
  have h1 := hmin2 u hu ((hm2 u).1 ((hmem u).1 (by simp)))
  simp only [List.headD_cons] at hab
  omega
theorem Comps.len {adj : Int → List Int} {ns : List Int} {out : List (List Int)} (h : Comps adj ns out) (hin : ∀ u ∈ ns, ∀ v, RchW adj u v → v ∈ ns) : out.length ≤ ns.length ∧ ∀ q ∈ out, q.length ≤ ns.length := by
  constructor
  · have h1 : (out.map fun p => p.headD 0).Nodup := by
      unfold List.Nodup
      rw [List.pairwise_map]
      exact h.heads.imp fun h => by omega
    have := nodup_len h1 (xs := ns) (fun x hx => by
      obtain ⟨p, hp, rfl⟩ := List.mem_map.1 hx
      obtain ⟨u, hu, l, rfl, _⟩ := h.parts p hp
      exact hu)
    simpa using this
  · intro q hq
    obtain ⟨u, hu, l, rfl, hm, hnd, _⟩ := h.parts q hq
    exact nodup_len hnd fun x hx => hin u hu x ((hm x).1 hx)
/-- the rows, as they are told -/
theorem R_of_rows {lo : Nat} {w : World} {v : Value} {rows : List Value} {qs : List (List Int)} (h : RwsV kpI lo w v rows qs) : Kd.R (Kd.slice 3 (Kd.int .i64)) 22 w lo (fun _ => True) v qs := by
  refine ⟨fun _ _ => trivial, rows, by rw [← h.len]; exact h.own, by rw [h.len]; exact (Nat.mul_one _).symm, fun j p hj => ?_⟩
  obtain ⟨hl, rfl⟩ := List.getElem?_eq_some_iff.1 hj
  have hjr : j < rows.length := by rw [h.len]; exact hl
  show ∃ u, List.take 1 (List.drop (j * 1) rows) = [u] ∧ Kd.R (Kd.int .i64) 3 w lo _ u qs[j]
  refine ⟨rows[j], by rw [Nat.mul_one, List.drop_eq_getElem_cons hjr]; rfl, ?_⟩
  have he := h.each j hjr
  have hq : qs.getD j [] = qs[j] := by rw [List.getD_eq_getElem?_getD, List.getElem?_eq_getElem hl]; rfl
  rw [hq] at he
  refine ⟨fun k hk => ⟨trivial, fun e => ?_⟩, nums .i64 qs[j], he, by rw [nums_length]; exact (Nat.mul_one _).symm, fun i p hi => ?_⟩
  · obtain ⟨c1, hc1⟩ := own_block he hk
    obtain ⟨c2, hc2⟩ := own_block h.own e.symm
    exact absurd (blk_type hc1 hc2) (by decide)
  · show List.take 1 (List.drop (i * 1) (nums .i64 qs[j])) = [.int .i64 p]
    obtain ⟨hl2, rfl⟩ := List.getElem?_eq_some_iff.1 hi
    rw [Nat.mul_one, List.drop_eq_getElem_cons (by rw [nums_length]; exact hl2)]
    simp [nums]

end Go.Proofs.YtddklkgcodjijaaGreat.R

namespace Go.Proofs.YtddklkgcodjijaaGreat.PL
open Go.RowKit Go.Lab Go.Proofs.YtddklkgcodjijaaGreatW.PrintWords Go.Proofs.YtddklkgcodjijaaGreatW.PrintLast Go.Proofs.YtddklkgcodjijaaGreatW.PrintMore
end Go.Proofs.YtddklkgcodjijaaGreat.PL

/- Plain laws: what the small functions answer. -/
namespace Go.Proofs.YtddklkgcodjijaaGreat.Q
open Go.RowKit Go.Lab Go.Proofs.YtddklkgcodjijaaGreatW.PrintWords PL
/-- two places exchanged -/
def swp2 (ys : List Int) (i : Nat) : List Int := (ys.set i (ys.getD (i - 1) 0)).set (i - 1) (ys.getD i 0)

/-- the state of the inner loop of sorted -/
structure Ins (xs ys : List Int) (k i : Nat) : Prop where
  perm : ys.Perm xs
  ik : i ≤ k
  kn : k < ys.length
  rest : ∀ a b, a < b → b ≤ k → a ≠ i → b ≠ i → ys.getD a 0 ≤ ys.getD b 0
  self : ∀ b, i < b → b ≤ k → ys.getD i 0 ≤ ys.getD b 0

theorem swp2_length (ys : List Int) (i : Nat) : (swp2 ys i).length = ys.length := by simp [swp2]

theorem swp2_get (ys : List Int) (i : Nat) (h0 : 0 < i) (hi : i < ys.length) (j : Nat) : (swp2 ys i).getD j 0 = if j = i then ys.getD (i - 1) 0 else if j = i - 1 then ys.getD i 0 else ys.getD j 0 := by
  unfold swp2
  simp only [List.getD_eq_getElem?_getD, List.getElem?_set, List.length_set]
  by_cases h1 : j = i
  · subst h1
    rw [if_neg (by omega), if_pos rfl, if_pos hi, if_pos rfl]; rfl
  · rw [if_neg h1]
    by_cases h2 : j = i - 1
    · subst h2
      rw [if_pos rfl, if_pos (by omega), if_pos rfl]; rfl
    · rw [if_neg (fun e => h2 e.symm), if_neg (fun e => h1 e.symm), if_neg h2]

theorem swp2_perm (ys : List Int) (i : Nat) (h0 : 0 < i) (hi : i < ys.length) : (swp2 ys i).Perm ys := by
  unfold swp2
  have h1 : ys.getD (i - 1) 0 = ys[i - 1] := by rw [List.getD_eq_getElem?_getD, List.getElem?_eq_getElem (by omega)]; rfl
  have h2 : ys.getD i 0 = ys[i] := by rw [List.getD_eq_getElem?_getD, List.getElem?_eq_getElem hi]; rfl
  rw [h1, h2]
  exact Go.Sort.perm_set_set ys i (i - 1) hi (by omega)

theorem Ins.step {xs ys : List Int} {k i : Nat} (h : Ins xs ys k i) (h0 : 0 < i) (hlt : ys.getD i 0 < ys.getD (i - 1) 0) : Ins xs (swp2 ys i) k (i - 1) := by
  have hi : i < ys.length := by have := h.ik; have := h.kn; omega
  have g := swp2_get ys i h0 hi
  refine ⟨(swp2_perm ys i h0 hi).trans h.perm, by have := h.ik; omega, by rw [swp2_length]; exact h.kn, ?_, ?_⟩
  · intro a b hab hbk ha hb
    rw [g, g]
    by_cases h1 : a = i
    · rw [if_pos h1, if_neg (by omega), if_neg (by omega)]
      exact h.rest (i - 1) b (by omega) hbk (by omega) (by omega)
    · rw [if_neg h1, if_neg ha]
      by_cases h2 : b = i
      · rw [if_pos h2]; exact h.rest a (i - 1) (by omega) (by have := h.ik; omega) h1 (by omega)
      · rw [if_neg h2, if_neg hb]; exact h.rest a b hab hbk h1 h2
  · intro b hb hbk
    rw [g, g, if_neg (by omega), if_pos rfl]
    by_cases h2 : b = i
    · rw [if_pos h2]; omega
    · rw [if_neg h2, if_neg (by omega)]; exact h.self b (by omega) hbk

/-- the first k places ascend -/
def UpTo (ys : List Int) (k : Nat) : Prop := ∀ a b, a < b → b < k → ys.getD a 0 ≤ ys.getD b 0

theorem Ins.start {xs ys : List Int} {k : Nat} (hp : ys.Perm xs) (hk : k < ys.length) (hu : UpTo ys k) : Ins xs ys k k :=
  ⟨hp, Nat.le_refl _, hk, fun a b hab hbk _ hb => hu a b hab (by omega), fun b h1 h2 => by omega⟩

theorem Ins.stop {xs ys : List Int} {k i : Nat} (h : Ins xs ys k i) (hs : i = 0 ∨ ys.getD (i - 1) 0 ≤ ys.getD i 0) : UpTo ys (k + 1) := by
  intro a b hab hbk
  by_cases h1 : a = i
  · subst h1; exact h.self b hab (by omega)
  · by_cases h2 : b = i
    · subst h2
      rcases hs with hs | hs
      · omega
      · by_cases h3 : a = b - 1
        · subst h3; exact hs
        · exact Int.le_trans (h.rest a (b - 1) (by omega) (by omega) h1 (by omega)) hs
    · exact h.rest a b hab (by omega) h1 h2

theorem UpTo.srt {xs ys : List Int} (hp : ys.Perm xs) (h : UpTo ys ys.length) : ys = srt xs := by
  have h1 : ys.Pairwise (· ≤ ·) := by
    rw [List.pairwise_iff_getElem]
    intro i j hi hj hij
    have := h i j hij hj
    simpa [List.getD_eq_getElem?_getD, hi, hj] using this
  exact (hp.trans (srt_perm xs).symm).eq_of_pairwise (le := (· ≤ ·)) (fun a b _ _ h1 h2 => Int.le_antisymm h1 h2) h1 (srt_le xs)

theorem rd_getD (ys : List Int) (i : Nat) : rd ys (i : Int) = ys.getD i 0 := by unfold rd; rw [Int.toNat_natCast]

/-- laws.sorted sorts -/
theorem sorted_l0 (xs : List Int) (hl : xs.length ≤ 100000) : ∀ (d kk : Nat) (ys : List Int), xs.length - kk ≤ d → ys.Perm xs → UpTo ys kk → 1 ≤ kk → ∃ k0, laws_sorted.l0 k0 ys (kk : Int) = some (srt xs) := by
  intro d
  induction d with
  | zero =>
    intro kk ys hd hp hu h1
    have hlen := hp.length_eq
    refine ⟨1, ?_⟩
    simp only [laws_sorted.l0]
    rw [if_neg (by omega)]
    have hz : ys = srt xs := UpTo.srt hp (fun a b hab hb => hu a b hab (by omega))
    rw [hz]
  | succ d ih =>
    intro kk ys hd hp hu h1
    have hlen := hp.length_eq
    by_cases hlt : kk < xs.length
    · have inner : ∀ (i : Nat) (zs : List Int), Ins xs zs kk i → ∃ k0, laws_sorted.l1 k0 zs (kk : Int) (i : Int) = some (srt xs) := by
        intro i
        induction i with
        | zero =>
          intro zs hI
          obtain ⟨k0, h0⟩ := ih (kk + 1) zs (by omega) hI.perm (hI.stop (.inl rfl)) (by omega)
          refine ⟨k0 + 1, ?_⟩
          simp only [laws_sorted.l1]
          have w2 : wrap64 ((kk : Int) + 1) = ((kk + 1 : Nat) : Int) := by unfold wrap64; omega
          rw [if_neg (by omega), w2, h0]
        | succ i ihi =>
          intro zs hI
          have hzl := hI.perm.length_eq
          have hik := hI.ik
          have w1 : wrap64 (((i + 1 : Nat) : Int) - 1) = (i : Int) := by unfold wrap64; omega
          have w2 : wrap64 ((kk : Int) + 1) = ((kk + 1 : Nat) : Int) := by unfold wrap64; omega
          by_cases hs : zs.getD (i + 1) 0 < zs.getD i 0
          · have hI2 := hI.step (by omega) (by simpa using hs)
            rw [Nat.add_sub_cancel] at hI2
            obtain ⟨k0, h0⟩ := ihi _ hI2
            refine ⟨k0 + 1, ?_⟩
            simp only [laws_sorted.l1]
            rw [w1, rd_getD, rd_getD, if_pos (by omega), if_pos (by omega), if_pos (by omega), if_pos (by omega), if_pos (by omega), if_pos hs, Int.toNat_natCast, Int.toNat_natCast]
            unfold swp2 at h0
            simpa using h0
          · obtain ⟨k0, h0⟩ := ih (kk + 1) zs (by omega) hI.perm (hI.stop (.inr (by rw [Nat.add_sub_cancel]; omega))) (by omega)
            refine ⟨k0 + 1, ?_⟩
            simp only [laws_sorted.l1]
            rw [w1, rd_getD, rd_getD, if_pos (by omega), if_pos (by omega), if_pos (by omega), if_pos (by omega), if_pos (by omega), if_neg hs, w2, h0]
      obtain ⟨k0, h0⟩ := inner kk ys (Ins.start hp (by omega) hu)
      refine ⟨k0 + 1, ?_⟩
      simp only [laws_sorted.l0]
      rw [if_pos (by omega), h0]
    · refine ⟨1, ?_⟩
      simp only [laws_sorted.l0]
      rw [if_neg (by omega)]
      have hz : ys = srt xs := UpTo.srt hp (fun a b hab hb => hu a b hab (by omega))
      rw [hz]

theorem sorted_f (xs : List Int) (hl : xs.length ≤ 100000) : ∃ k0, laws_sorted.f k0 xs = some (srt xs) := by
  obtain ⟨k0, h0⟩ := sorted_l0 xs hl xs.length 1 xs (by omega) (List.Perm.refl _) (fun a b h1 h2 => by omega) (Nat.le_refl _)
  refine ⟨k0, ?_⟩
  unfold laws_sorted.f slices_Clone_int_int.f
  rw [if_pos hl]
  exact h0
end Go.Proofs.YtddklkgcodjijaaGreat.Q
namespace Go.Proofs.YtddklkgcodjijaaGreat.R
open Go.RowKit Go.Lab Go.Proofs.YtddklkgcodjijaaGreatW.PrintWords PL Q
theorem rising_l0 (l : List Int) (hl : l.length ≤ 100000) : ∀ (d k i : Nat), 1 ≤ i → l.length - i ≤ d → d < k →
    ∃ b, laws_rising.l0 k l (i : Int) = some b ∧ (b = true ↔ (∀ a, i - 1 ≤ a → a + 1 < l.length → l.getD a 0 < l.getD (a + 1) 0)) := by
  intro d
  induction d with
  | zero =>
    intro k i hi hd hk
    obtain ⟨k, rfl⟩ : ∃ m, k = m + 1 := ⟨k - 1, by omega⟩
    simp only [laws_rising.l0]
    rw [if_neg (by omega)]
    exact ⟨true, rfl, fun _ a h1 h2 => by omega, fun _ => rfl⟩
  | succ d ih =>
    intro k i hi hd hk
    obtain ⟨k, rfl⟩ : ∃ m, k = m + 1 := ⟨k - 1, by omega⟩
    simp only [laws_rising.l0]
    by_cases hlt : i < l.length
    · have w1 : wrap64 ((i : Int) - 1) = ((i - 1 : Nat) : Int) := by unfold wrap64; omega
      have w2 : wrap64 ((i : Int) + 1) = ((i + 1 : Nat) : Int) := by unfold wrap64; omega
      rw [if_pos (by omega), w1, if_pos (by omega), if_pos (by omega), if_pos (by omega), w2]
      have r1 : rd l ((i - 1 : Nat) : Int) = l.getD (i - 1) 0 := by unfold rd; rw [Int.toNat_natCast]
      have r2 : rd l (i : Int) = l.getD i 0 := by unfold rd; rw [Int.toNat_natCast]
      rw [r1, r2]
      by_cases hge : l.getD (i - 1) 0 ≥ l.getD i 0
      · rw [if_pos hge]
        refine ⟨false, rfl, fun h => (by cases h), fun h => ?_⟩
        have := h (i - 1) (Nat.le_refl _) (by omega)
        rw [show i - 1 + 1 = i by omega] at this
        omega
      · rw [if_neg hge]
        obtain ⟨b, hb1, hb2⟩ := ih k (i + 1) (by omega) (by omega) (by omega)
        refine ⟨b, hb1, ?_⟩
        rw [hb2]
        constructor
        · intro h a h1 h2
          by_cases ha : a = i - 1
          · subst ha; rw [show i - 1 + 1 = i by omega]; omega
          · exact h a (by omega) h2
        · intro h a h1 h2
          exact h a (by omega) h2
    · rw [if_neg (by omega)]
      exact ⟨true, rfl, fun _ a h1 h2 => by omega, fun _ => rfl⟩

theorem adj_pairwise (l : List Int) : (∀ a, 1 - 1 ≤ a → a + 1 < l.length → l.getD a 0 < l.getD (a + 1) 0) ↔ l.Pairwise (· < ·) := by
  constructor
  · intro h
    have hadj : ∀ j (hj : j + 1 < l.length), l[j] < l[j + 1] := by
      intro j hj
      have := h j (by omega) hj
      have e1 : l.getD j 0 = l[j] := by rw [List.getD_eq_getElem?_getD, List.getElem?_eq_getElem (by omega)]; rfl
      have e2 : l.getD (j + 1) 0 = l[j + 1] := by rw [List.getD_eq_getElem?_getD, List.getElem?_eq_getElem hj]; rfl
      rw [e1, e2] at this; exact this
    have hmono : ∀ i k, (hk : i + k + 1 < l.length) → l[i]'(by omega) < l[i + k + 1] := by
      intro i k
      induction k with
      | zero => intro hk; exact hadj i hk
      | succ k ih =>
        intro hk
        exact Int.lt_trans (ih (by omega)) (hadj (i + k + 1) (by omega))
    rw [List.pairwise_iff_getElem]
    intro i j hi hj hij
    have := hmono i (j - i - 1) (by omega)
    have e : i + (j - i - 1) + 1 = j := by omega
    simp only [e] at this
    exact this
  · intro h a _ ha
    have e1 : l.getD a 0 = l[a] := by rw [List.getD_eq_getElem?_getD, List.getElem?_eq_getElem (by omega)]; rfl
    have e2 : l.getD (a + 1) 0 = l[a + 1] := by rw [List.getD_eq_getElem?_getD, List.getElem?_eq_getElem ha]; rfl
    rw [e1, e2]
    exact (List.pairwise_iff_getElem.1 h) a (a + 1) (by omega) ha (by omega)


theorem rising_ev (l : List Int) (hl : l.length ≤ 100000) : Ev (fun k => laws_rising.f k l) (decide (l.Pairwise (· < ·))) := by
  obtain ⟨b, h1, h2⟩ := rising_l0 l hl l.length (l.length + 1) 1 (Nat.le_refl _) (by omega) (by omega)
  refine Ev.of (laws_rising.mono l) (k := l.length + 1) ?_
  unfold laws_rising.f
  rw [show (1 : Int) = ((1 : Nat) : Int) from rfl, h1]
  congr 1
  rw [adj_pairwise] at h2
  cases b with
  | true => exact (decide_eq_true (h2.1 rfl)).symm
  | false => exact (decide_eq_false (fun h => by have := h2.2 h; cases this)).symm

theorem index_ev (l : List Int) (x : Int) (hl : l.length ≤ 100000) : ∀ m i, l.length - i ≤ m → i ≤ l.length → ∃ r, Ev (fun k => laws_index.l0 k l x (i : Int)) r ∧ (r ≥ 0 ↔ x ∈ l.drop i)
  | 0, i, hm, hi => by
    refine ⟨-1, Ev.step (fun k => ?_) (Ev.now _), ?_⟩
    · simp only [laws_index.l0]
      rw [if_neg (by omega)]
    · rw [List.drop_eq_nil_of_le (by omega)]; simp
  | m + 1, i, hm, hi => by
    by_cases hlt : i < l.length
    · have w2 : wrap64 ((i : Int) + 1) = ((i + 1 : Nat) : Int) := by unfold wrap64; omega
      have r2 : rd l (i : Int) = l[i] := by unfold rd; rw [Int.toNat_natCast, List.getD_eq_getElem?_getD, List.getElem?_eq_getElem hlt]; rfl
      by_cases hx : l[i] = x
      · refine ⟨(i : Int), Ev.step (fun k => ?_) (Ev.now _), ?_⟩
        · simp only [laws_index.l0]
          rw [if_pos (by omega), if_pos (by omega), r2, if_pos hx]
        · rw [List.drop_eq_getElem_cons hlt, hx]; simp
      · obtain ⟨r, h1, h2⟩ := index_ev l x hl m (i + 1) (by omega) (by omega)
        refine ⟨r, Ev.step (fun k => ?_) h1, ?_⟩
        · simp only [laws_index.l0]
          rw [if_pos (by omega), if_pos (by omega), r2, if_neg hx, w2]
        · rw [h2, List.drop_eq_getElem_cons hlt, List.mem_cons]
          constructor
          · exact .inr
          · rintro (h | h)
            · exact absurd h.symm hx
            · exact h
    · refine ⟨-1, Ev.step (fun k => ?_) (Ev.now _), ?_⟩
      · simp only [laws_index.l0]
        rw [if_neg (by omega)]
      · rw [List.drop_eq_nil_of_le (by omega)]; simp

theorem has_ev (l : List Int) (x : Int) (hl : l.length ≤ 100000) : Ev (fun k => laws_has.f k l x) (decide (x ∈ l)) := by
  obtain ⟨r, h1, h2⟩ := index_ev l x hl l.length 0 (by omega) (Nat.zero_le _)
  have h3 : Ev (fun k => laws_index.f k l x) r := Ev.congr (fun k => rfl) h1
  refine Ev.congr (fun k => ?_) (Ev.bind h3 (f := fun _ t => some (decide (t ≥ 0))) ?_)
  · rfl
  · have : decide (r ≥ 0) = decide (x ∈ l) := by rw [decide_eq_decide, h2, List.drop_zero]
    rw [this]; exact Ev.now _

theorem rdT (es : List S95) (i : Nat) (h : i < es.length) : rd_T95 es (i : Int) = es[i] := by unfold rd_T95; simp [List.getD_eq_getElem?_getD, h]

theorem well_l0 (d : Bool) (zs : List Int) (es : List S95) (hz : zs.length ≤ 100000) (he : es.length ≤ 100000) : ∀ m i, es.length - i ≤ m → i ≤ es.length → Ev (fun k => laws_well.l0 k (i : Int) d zs es) ((es.drop i).all (goodE zs))
  | 0, i, hm, hi => by
    refine Ev.step (fun k => ?_) (Ev.now _)
    simp only [laws_well.l0]
    rw [if_neg (by omega), List.drop_eq_nil_of_le (by omega)]; rfl
  | m + 1, i, hm, hi => by
    by_cases hlt : i < es.length
    · have w2 : wrap64 ((i : Int) + 1) = ((i + 1 : Nat) : Int) := by unfold wrap64; omega
      have ih := well_l0 d zs es hz he m (i + 1) (by omega) (by omega)
      have hd : (es.drop i).all (goodE zs) = (goodE zs es[i] && (es.drop (i + 1)).all (goodE zs)) := by rw [List.drop_eq_getElem_cons hlt]; rfl
      rw [hd]
      have hr := rdT es i hlt
      generalize es[i] = e at hr
      by_cases h0 : e.f0 = e.f1
      · refine Ev.step (fun k => ?_) (Ev.now _)
        simp only [laws_well.l0]
        rw [if_pos (by omega), if_pos (by omega), hr, if_pos h0]
        have : goodE zs e = false := by unfold goodE; simp [h0]
        rw [this]; rfl
      · have a1 := has_ev zs e.f0 hz
        have a2 := has_ev zs e.f1 hz
        refine Ev.step (f := fun k => (laws_has.f k zs e.f0).bind fun t122 => (if t122 = true then ((laws_has.f k zs e.f1).bind fun t123 => (if t123 = true then (if e.f2 > 1099511627776 then (some false) else (if e.f2 < (-1099511627776) then (some false) else (laws_well.l0 k (wrap64 ((i : Int) + 1)) d zs es))) else (some false))) else (some false))) (fun k => ?_) ?_
        · simp only [laws_well.l0]
          rw [if_pos (by omega), if_pos (by omega), hr, if_neg h0]
        · by_cases m1 : e.f0 ∈ zs
          · by_cases m2 : e.f1 ∈ zs
            · rw [decide_eq_true m1] at a1
              rw [decide_eq_true m2] at a2
              by_cases g1 : 1099511627776 < e.f2
              · have hg : goodE zs e = false := by unfold goodE; simp [g1]
                rw [hg]
                refine Ev.bind a1 (Ev.congr (fun k => if_pos rfl) (Ev.bind a2 (Ev.congr (fun k => ?_) (Ev.now _))))
                rw [if_pos rfl, if_pos g1]; rfl
              · by_cases g2 : e.f2 < -1099511627776
                · have hg : goodE zs e = false := by unfold goodE; simp [g2]
                  rw [hg]
                  refine Ev.bind a1 (Ev.congr (fun k => if_pos rfl) (Ev.bind a2 (Ev.congr (fun k => ?_) (Ev.now _))))
                  rw [if_pos rfl, if_neg g1, if_pos g2]; rfl
                · have hg : goodE zs e = true := by unfold goodE; simp [m1, m2, h0, g1, g2]
                  rw [hg, Bool.true_and]
                  refine Ev.bind a1 (Ev.congr (fun k => if_pos rfl) (Ev.bind a2 (Ev.congr (fun k => ?_) ih)))
                  rw [if_pos rfl, if_neg g1, if_neg g2, w2]
            · rw [decide_eq_true m1] at a1
              rw [decide_eq_false m2] at a2
              have hg : goodE zs e = false := by unfold goodE; simp [m2]
              rw [hg]
              exact Ev.bind a1 (Ev.congr (fun k => if_pos rfl) (Ev.bind a2 (Ev.congr (fun k => if_neg (by simp)) (Ev.now _))))
          · rw [decide_eq_false m1] at a1
            have hg : goodE zs e = false := by unfold goodE; simp [m1]
            rw [hg]
            exact Ev.bind a1 (Ev.congr (fun k => if_neg (by simp)) (Ev.now _))
    · refine Ev.step (fun k => ?_) (Ev.now _)
      simp only [laws_well.l0]
      rw [if_neg (by omega), List.drop_eq_nil_of_le (by omega)]; rfl

theorem well_ev (d : Bool) (zs : List Int) (es : List S95) (hz : zs.length ≤ 1000) (he : es.length ≤ 100000) : Ev (fun k => laws_well.f k d zs es) (readOk zs es) := by
  obtain ⟨k0, h0⟩ := sorted_f zs (by omega)
  have h1 := Ev.of (laws_sorted.mono zs) h0
  have h2 := rising_ev (srt zs) (by rw [srt_length]; omega)
  refine Ev.bind h1 (Ev.bind h2 ?_)
  unfold readOk
  by_cases hs : (srt zs).Pairwise (· < ·)
  · rw [decide_eq_true hs, Bool.true_and]
    refine Ev.congr (fun k => if_pos rfl) ?_
    have := well_l0 d zs es (by omega) he es.length 0 (by omega) (Nat.zero_le _)
    rw [List.drop_zero] at this
    exact this
  · rw [decide_eq_false hs, Bool.false_and]
    exact Ev.congr (fun k => if_neg (by simp)) (Ev.now _)

/-- which graphs fewOf takes -/
def fewB (d want : Bool) (zs : List Int) (es : List S95) (n : Nat) : Bool := (d == want) && (decide (zs.length ≤ n) && (decide (es.length ≤ 8 * n) && readOk zs es))

theorem fewOf_ev (d want : Bool) (zs : List Int) (es : List S95) (n : Nat) (hn : n ≤ 1000) : Ev (fun k => laws_fewOf.f k d zs es want (n : Int)) (fewB d want zs es n) := by
  unfold fewB
  by_cases hd : (d == want) = true
  · rw [hd, Bool.true_and]
    refine Ev.congr (f := fun k => (laws_few.f k d zs es (n : Int)).bind fun t127 => (some t127)) (fun k => ?_) (Ev.bind (a := (decide (zs.length ≤ n) && (decide (es.length ≤ 8 * n) && readOk zs es))) ?_ (Ev.now _))
    · unfold laws_fewOf.f; rw [if_pos hd]
    · have hw : wrap64 (8 * (n : Int)) = 8 * (n : Int) := by unfold wrap64; omega
      by_cases h1 : zs.length ≤ n
      · by_cases h2 : es.length ≤ 8 * n
        · rw [decide_eq_true h1, decide_eq_true h2, Bool.true_and, Bool.true_and]
          refine Ev.congr (f := fun k => (laws_well.f k d zs es).bind fun t125 => (some t125)) (fun k => ?_) (Ev.bind (well_ev d zs es (by omega) (by omega)) (Ev.now _))
          unfold laws_few.f
          rw [if_pos (by omega), hw, if_pos (by omega)]
        · rw [decide_eq_true h1, decide_eq_false h2, Bool.true_and, Bool.false_and]
          refine Ev.congr (fun k => ?_) (Ev.now _)
          unfold laws_few.f
          rw [if_pos (by omega), hw, if_neg (by omega)]
      · rw [decide_eq_false h1, Bool.false_and]
        refine Ev.congr (fun k => ?_) (Ev.now _)
        unfold laws_few.f
        rw [if_neg (by omega)]
  · have : (d == want) = false := by simpa using hd
    rw [this, Bool.false_and]
    refine Ev.congr (fun k => ?_) (Ev.now _)
    unfold laws_fewOf.f
    rw [if_neg hd]

end Go.Proofs.YtddklkgcodjijaaGreat.R

namespace Go.Proofs.YtddklkgcodjijaaGreat.R
open Go.RowKit Go.Lab Go.Proofs.YtddklkgcodjijaaGreatW.PrintWords PL Q
theorem rdE (l : List Int) (i : Nat) (h : i < l.length) : rd l (i : Int) = l[i] := by unfold rd; rw [Int.toNat_natCast, List.getD_eq_getElem?_getD, List.getElem?_eq_getElem h]; rfl

theorem hasI_l0 (l : List Int) (x : Int) (hl : l.length ≤ 100000) : ∀ m i, l.length - i ≤ m → i ≤ l.length → Ev (fun k => spec_hasInt.l0 k x l (l.length : Int) (i : Int)) (decide (x ∈ l.drop i))
  | 0, i, hm, hi => by
    refine Ev.step (fun k => ?_) (Ev.now _)
    simp only [spec_hasInt.l0]
    rw [if_neg (by omega), List.drop_eq_nil_of_le (by omega)]; simp
  | m + 1, i, hm, hi => by
    by_cases hlt : i < l.length
    · have w2 : wrap64 ((i : Int) + 1) = ((i + 1 : Nat) : Int) := by unfold wrap64; omega
      by_cases hx : l[i] = x
      · have : decide (x ∈ l.drop i) = true := by rw [List.drop_eq_getElem_cons hlt, hx]; simp
        rw [this]
        refine Ev.step (fun k => ?_) (Ev.now _)
        simp only [spec_hasInt.l0]
        rw [if_pos (by omega), if_pos (by omega), if_pos (by omega), rdE l i hlt, if_pos hx]
      · have : decide (x ∈ l.drop i) = decide (x ∈ l.drop (i + 1)) := by
          rw [List.drop_eq_getElem_cons hlt, decide_eq_decide, List.mem_cons]
          exact ⟨fun h => h.elim (fun h => absurd h.symm hx) id, .inr⟩
        rw [this]
        refine Ev.step (fun k => ?_) (hasI_l0 l x hl m (i + 1) (by omega) (by omega))
        simp only [spec_hasInt.l0]
        rw [if_pos (by omega), if_pos (by omega), if_pos (by omega), rdE l i hlt, if_neg hx, w2]
    · refine Ev.step (fun k => ?_) (Ev.now _)
      simp only [spec_hasInt.l0]
      rw [if_neg (by omega), List.drop_eq_nil_of_le (by omega)]; simp

theorem hasI_ev (l : List Int) (x : Int) (hl : l.length ≤ 100000) : Ev (fun k => spec_hasInt.f k l x) (decide (x ∈ l)) := by
  have := hasI_l0 l x hl l.length 0 (by omega) (Nat.zero_le _)
  rw [List.drop_zero] at this
  exact this

theorem weightS_l0 (zs : List Int) (es : List S95) (u v : Int) (he : es.length ≤ 100000) : ∀ m i, es.length - i ≤ m → i ≤ es.length → ∀ st : Option Int,
    Ev (fun k => spec_Weight.l0 k u v (st.getD 0) st.isSome es (es.length : Int) (i : Int) true zs es) ((((es.drop i).foldl (fun o e => if e.f0 = u ∧ e.f1 = v then some e.f2 else o) st).getD 0), ((es.drop i).foldl (fun o e => if e.f0 = u ∧ e.f1 = v then some e.f2 else o) st).isSome)
  | 0, i, hm, hi, st => by
    refine Ev.step (fun k => ?_) (Ev.now _)
    simp only [spec_Weight.l0]
    rw [if_neg (by omega), List.drop_eq_nil_of_le (by omega)]; rfl
  | m + 1, i, hm, hi, st => by
    by_cases hlt : i < es.length
    · have w2 : wrap64 ((i : Int) + 1) = ((i + 1 : Nat) : Int) := by unfold wrap64; omega
      rw [List.drop_eq_getElem_cons hlt, List.foldl_cons]
      have hr := rdT es i hlt
      generalize es[i] = e at hr
      by_cases h0 : e.f0 = u
      · by_cases h1 : e.f1 = v
        · rw [if_pos ⟨h0, h1⟩]
          refine Ev.step (fun k => ?_) (weightS_l0 zs es u v he m (i + 1) (by omega) (by omega) (some e.f2))
          simp only [spec_Weight.l0]
          rw [if_pos (by omega), if_pos (by omega), if_pos (by omega), hr, if_pos h0, if_pos h1, w2]; rfl
        · rw [if_neg (fun h => h1 h.2)]
          refine Ev.step (fun k => ?_) (weightS_l0 zs es u v he m (i + 1) (by omega) (by omega) st)
          simp only [spec_Weight.l0]
          rw [if_pos (by omega), if_pos (by omega), if_pos (by omega), hr, if_pos h0, if_neg h1, if_pos trivial, w2]
      · rw [if_neg (fun h => h0 h.1)]
        refine Ev.step (fun k => ?_) (weightS_l0 zs es u v he m (i + 1) (by omega) (by omega) st)
        simp only [spec_Weight.l0]
        rw [if_pos (by omega), if_pos (by omega), if_pos (by omega), hr, if_neg h0, if_pos trivial, w2]
    · refine Ev.step (fun k => ?_) (Ev.now _)
      simp only [spec_Weight.l0]
      rw [if_neg (by omega), List.drop_eq_nil_of_le (by omega)]; rfl
theorem weightS_ev (zs : List Int) (es : List S95) (u v : Int) (he : es.length ≤ 100000) : Ev (fun k => spec_Weight.f k true zs es u v) ((arcW es u v).getD 0, (arcW es u v).isSome) := by
  have := weightS_l0 zs es u v he es.length 0 (by omega) (Nat.zero_le _) none
  rw [List.drop_zero] at this
  exact this
theorem joinedS_ev (zs : List Int) (es : List S95) (u v : Int) (he : es.length ≤ 100000) : Ev (fun k => spec_Joined.f k true zs es u v) (arcW es u v).isSome :=
  Ev.bind (weightS_ev zs es u v he) (Ev.now _)
end Go.Proofs.YtddklkgcodjijaaGreat.R

/- What the small functions answer: Equal. -/
namespace Go.Proofs.YtddklkgcodjijaaGreat.R
open Go.RowKit Go.Lab Go.Proofs.YtddklkgcodjijaaGreatW.PrintWords PL Q
theorem rdI (l : List Int) (i : Nat) (h : i < l.length) : rd l (i : Int) = l[i] := by unfold rd; simp [List.getD_eq_getElem?_getD, h]
theorem equal_l0 (a b : List Int) (he : a.length = b.length) (hl : a.length ≤ 100000) : ∀ m i, a.length - i ≤ m → i ≤ a.length → Ev (fun k => slices_Equal_int_int.l0 k a b (a.length : Int) (i : Int)) (decide (a.drop i = b.drop i))
  | 0, i, hm, hi => by
    refine Ev.step (fun k => ?_) (Ev.now _)
    simp only [slices_Equal_int_int.l0]
    rw [if_neg (by omega), List.drop_eq_nil_of_le (by omega), List.drop_eq_nil_of_le (by omega)]; rfl
  | m + 1, i, hm, hi => by
    by_cases hlt : i < a.length
    · have w2 : wrap64 ((i : Int) + 1) = ((i + 1 : Nat) : Int) := by unfold wrap64; omega
      have hlb : i < b.length := by omega
      by_cases hx : a[i] = b[i]
      · have hd : decide (a.drop i = b.drop i) = decide (a.drop (i + 1) = b.drop (i + 1)) := by
          rw [List.drop_eq_getElem_cons hlt, List.drop_eq_getElem_cons hlb, hx]
          exact decide_eq_decide.2 ⟨fun h => (List.cons.inj h).2, fun h => by rw [h]⟩
        rw [hd]
        refine Ev.step (fun k => ?_) (equal_l0 a b he hl m (i + 1) (by omega) (by omega))
        simp only [slices_Equal_int_int.l0]
        rw [if_pos (by omega), if_pos (by omega), if_pos (by omega), if_pos (by omega), rdI a i hlt, rdI b i hlb, if_pos hx, w2]
      · have hd : decide (a.drop i = b.drop i) = false := by
          rw [List.drop_eq_getElem_cons hlt, List.drop_eq_getElem_cons hlb]
          exact decide_eq_false (fun h => hx (List.cons.inj h).1)
        rw [hd]
        refine Ev.step (fun k => ?_) (Ev.now _)
        simp only [slices_Equal_int_int.l0]
        rw [if_pos (by omega), if_pos (by omega), if_pos (by omega), if_pos (by omega), rdI a i hlt, rdI b i hlb, if_neg hx]
    · refine Ev.step (fun k => ?_) (Ev.now _)
      simp only [slices_Equal_int_int.l0]
      rw [if_neg (by omega), List.drop_eq_nil_of_le (by omega), List.drop_eq_nil_of_le (by omega)]; rfl
theorem equal_ev (a b : List Int) (hl : a.length ≤ 100000) : Ev (fun k => slices_Equal_int_int.f k a b) (decide (a = b)) := by
  by_cases he : a.length = b.length
  · have := equal_l0 a b he hl a.length 0 (by omega) (Nat.zero_le _)
    rw [List.drop_zero, List.drop_zero] at this
    refine Ev.congr (fun k => ?_) this
    unfold slices_Equal_int_int.f
    rw [if_pos (by omega)]; rfl
  · rw [decide_eq_false (fun h => he (by rw [h]))]
    refine Ev.congr (fun k => ?_) (Ev.now _)
    unfold slices_Equal_int_int.f
    rw [if_neg (by omega)]
end Go.Proofs.YtddklkgcodjijaaGreat.R

/- laws.sameLists, in the printed contracts' form. -/
namespace Go.Proofs.YtddklkgcodjijaaGreat.R
open Go.RowKit Go.Lab Go.Maps Go.Proofs.YtddklkgcodjijaaGreatW.PrintWords Go.Proofs.YtddklkgcodjijaaGreatW.PrintLast Go.Proofs.YtddklkgcodjijaaGreatW.PrintMore PL Q

/-- lists of at most so many numbers each -/
def smallL (l : List (List Int)) : Bool := decide (l.length ≤ 100000) && l.all fun q => decide (q.length ≤ 100000)
theorem smallL_iff {l : List (List Int)} : smallL l = true ↔ l.length ≤ 100000 ∧ ∀ q ∈ l, q.length ≤ 100000 := by
  unfold smallL
  rw [Bool.and_eq_true, decide_eq_true_iff, List.all_eq_true]
  exact and_congr_right fun _ => forall_congr' fun q => forall_congr' fun _ => decide_eq_true_iff

theorem C_lists_at {w : World} {A : Option Addr} {n : Nat} {xs : List (List Int)} (h : Kd.C (Kd.slice 3 (Kd.int .i64)) w A n xs) (i : Nat) (hi : i < n) : ∃ ad A0 c0, A = some ad ∧ w.cell? (ad.add i) = some (.slice A0 (xs.getD i []).length c0) ∧ (xs.getD i []).length ≤ c0 ∧ Kd.C (Kd.int .i64) w A0 (xs.getD i []).length (xs.getD i []) := by
  obtain ⟨ad, A0, c0, e, h1, h2, h3⟩ := at_L2 h (i : Int) (by omega) (by omega)
  unfold rd_L2 at h1 h2 h3
  rw [Int.toNat_natCast] at h1 h2 h3
  exact ⟨ad, A0, c0, e, h1, h2, h3⟩

set_option maxHeartbeats 2000000 in
set_option maxRecDepth 100000 in
theorem eqFunc_any (A1 A2 : Option Addr) (c1 c2 : Nat) (xs ys : List (List Int)) (w : World) (hx : Kd.C (Kd.slice 3 (Kd.int .i64)) w A1 xs.length xs) (hy : Kd.C (Kd.slice 3 (Kd.int .i64)) w A2 ys.length ys) (hs1 : smallL xs = true) (hs2 : smallL ys = true) :
    Calls Tryz.prog 38 #[.slice A1 xs.length c1, .slice A2 ys.length c2, .func (.func 39) #[] #[]] w fun e w' => e = .returned (.bool (decide (xs = ys))) ∧ Below w.heap.size w w' := by
  obtain ⟨hl1, hr1⟩ := smallL_iff.1 hs1
  obtain ⟨hl2, hr2⟩ := smallL_iff.1 hs2
  have HX := Aside0.mk hx
  have HY := Aside0.mk hy
  have HS := Aside0.mk (And.intro hr1 hr2)
  clear hx hy hs1 hs2 hr1 hr2
  by_cases hlen : xs.length = ys.length
  · have HLEN := Aside0.mk hlen
    have hnq : ((xs.length : Int) != (ys.length : Int)) = false := by simp [hlen]
    have hnq2 : decide ((xs.length : Int) = (ys.length : Int)) = true := by simp [hlen]
    obtain ⟨n, hn⟩ : ∃ n, xs.length = n := ⟨_, rfl⟩
    have hn2 : ys.length = n := by omega
    rw [hn] at HX hl1
    rw [hn2] at HY hl2
    have HN := Aside0.mk (And.intro hn hn2)
    rw [hn, hn2]
    clear hlen hnq hnq2 hn hn2 HLEN
    go_enter Tryz.func38, Tryz.ntmps38
    go_wp2
    go_loopw [17] (fun i wr => ∃ k : Nat, k ≤ n ∧ i = .int .i64 k ∧ Aside0 (decide (xs = ys) = decide (xs.drop k = ys.drop k) ∧ Below w.heap.size w wr)) (fun i _ => n - (intOf i).toNat)
    case atStart => exact ⟨0, Nat.zero_le _, rfl, ⟨by simp, Below.refl _ _⟩⟩
    case round =>
      obtain ⟨k, hk, rfl, HR⟩ := hrel
      by_cases hlt : k < n
      · have hxl : k < xs.length := by rw [HN.out.1]; exact hlt
        have hyl : k < ys.length := by rw [HN.out.2]; exact hlt
        obtain ⟨ad, B1, d1, rfl, hc1, hd1, hC1⟩ := C_lists_at (Kd.C_below HX.out HR.out.2) k hlt
        obtain ⟨ad2, B2, d2, rfl, hc2, hd2, hC2⟩ := C_lists_at (Kd.C_below HY.out HR.out.2) k hlt
        have hgx : xs.getD k [] = xs[k] := by simp [List.getD_eq_getElem?_getD, hxl]
        have hgy : ys.getD k [] = ys[k] := by simp [List.getD_eq_getElem?_getD, hyl]
        have hq1 : (xs.getD k []).length ≤ 100000 := by rw [hgx]; exact HS.out.1 _ (List.getElem_mem _)
        have hdr : decide (xs.drop k = ys.drop k) = decide (xs.getD k [] = ys.getD k [] ∧ xs.drop (k + 1) = ys.drop (k + 1)) := by
          rw [List.drop_eq_getElem_cons hxl, List.drop_eq_getElem_cons hyl, hgx, hgy]
          exact decide_eq_decide.2 List.cons_eq_cons
        have HDR := Aside0.mk hdr
        have HBW := Aside0.mk HR.out.2.size
        clear hgx hgy hdr hxl hyl
        obtain ⟨p, hp⟩ : ∃ p, xs.getD k [] = p := ⟨_, rfl⟩
        obtain ⟨q, hq⟩ : ∃ q, ys.getD k [] = q := ⟨_, rfl⟩
        rw [hp] at hc1 hd1 hC1 hq1 HDR
        rw [hq] at hc2 hd2 hC2 HDR
        have HC1 := Aside0.mk hC1
        have HC2 := Aside0.mk hC2
        clear hp hq hC1 hC2
        obtain ⟨kk, hev⟩ := (equal_ev p q hq1).rounds
        have HEV := Aside0.mk hev
        clear hev
        by_cases he : p = q
        · have hde : decide (p = q) = true := decide_eq_true he
          have HDE := Aside0.mk he
          clear he
          go_wp2_with (go_at_call 39; refine (slices_Equal_int_int.calls kk _ _ p _ _ q _ _ HC1.out hd1 HC2.out hd2 HEV.out).mono ?_; rintro e w1 ⟨rfl, hdw⟩; rw [hde]; have HD := Aside0.mk hdw; clear hdw)
          go_roundw
          case rel => exact ⟨k + 1, by omega, by go_num, ⟨by rw [HR.out.1, HDR.out, HDE.out]; simp, HR.out.2.trans (HD.out.below.mono HBW.out)⟩⟩
          case measure => simp [intOf]; omega
        · have hde : decide (p = q) = false := decide_eq_false he
          have hres : decide (xs = ys) = false := by rw [HR.out.1, HDR.out]; exact decide_eq_false (fun h => he h.1)
          have HRES := Aside0.mk hres
          clear he hres
          go_wp2_with (go_at_call 39; refine (slices_Equal_int_int.calls kk _ _ p _ _ q _ _ HC1.out hd1 HC2.out hd2 HEV.out).mono ?_; rintro e w1 ⟨rfl, hdw⟩; rw [hde]; have HD := Aside0.mk hdw; clear hdw)
          go_ret
          exact ⟨by rw [HRES.out]; rfl, HR.out.2.trans (HD.out.below.mono HBW.out)⟩
      · have hres : decide (xs = ys) = true := by
          rw [HR.out.1, List.drop_eq_nil_of_le (by rw [HN.out.1]; omega), List.drop_eq_nil_of_le (by rw [HN.out.2]; omega)]; rfl
        have HRES := Aside0.mk hres
        clear hres
        go_wp2
        go_ret
        exact ⟨by rw [HRES.out]; rfl, HR.out.2⟩
  · have hres : decide (xs = ys) = false := decide_eq_false (fun h => hlen (by rw [h]))
    have hnq : ¬ ((xs.length : Int) = (ys.length : Int)) := by omega
    rw [hres]
    clear hres
    go_enter Tryz.func38, Tryz.ntmps38
    go_wp2
    go_ret
    exact ⟨rfl, Below.refl _ _⟩
end Go.Proofs.YtddklkgcodjijaaGreat.R
namespace Go.Proofs.YtddklkgcodjijaaGreat.PL
open Go.RowKit Go.Lab Go.Proofs.YtddklkgcodjijaaGreatW.PrintWords Go.Proofs.YtddklkgcodjijaaGreatW.PrintLast Go.Proofs.YtddklkgcodjijaaGreatW.PrintMore Go.Proofs.YtddklkgcodjijaaGreat.R
def laws_sameLists.f (l0 l1 : List (List Int)) : Option Bool := if (smallL l0 && smallL l1) = true then some (decide (l0 = l1)) else none
set_option maxHeartbeats 1000000 in
theorem laws_sameLists.calls (A0 : Option Addr) (c0 : Nat) (l0 : List (List Int)) (A1 : Option Addr) (c1 : Nat) (l1 : List (List Int)) (r : Bool) (w : World) (hr0 : Kd.C (Kd.slice 3 (Kd.int .i64)) w A0 l0.length l0) (hc0 : l0.length ≤ c0) (hr1 : Kd.C (Kd.slice 3 (Kd.int .i64)) w A1 l1.length l1) (hc1 : l1.length ≤ c1) (h : laws_sameLists.f l0 l1 = some r) :
    Calls Tryz.prog 11 #[.slice A0 l0.length c0, .slice A1 l1.length c1] w fun e w' => e = .returned (.bool r) ∧ Below w.heap.size w w' := by
  unfold laws_sameLists.f at h
  split at h
  · rename_i hs
    rw [Bool.and_eq_true] at hs
    injection h with h
    subst h
    have H := Aside0.mk (eqFunc_any A0 A1 c0 c1 l0 l1 w hr0 hr1 hs.1 hs.2)
    obtain ⟨b, hb⟩ : ∃ b, decide (l0 = l1) = b := ⟨_, rfl⟩
    rw [hb] at H ⊢
    clear hb hr0 hr1 hs
    go_enter Tryz.func11, Tryz.ntmps11
    go_wp2_with (go_at_call 38; refine H.out.mono ?_; rintro e w1 ⟨rfl, hbw⟩; have HB := Aside0.mk hbw; clear hbw)
    go_ret
    exact ⟨rfl, HB.out⟩
  · cases h
end Go.Proofs.YtddklkgcodjijaaGreat.PL

/-
  DERIVED: THE SHELF's CONTRACTS AT THIS DUMP, IN PLAIN WORDS (tools/lay-plain.mjs out of 'TryzShelfB.lean', which tools/lay-shelf.mjs wrote): THE SAME DECLARATIONS UNDER THE SAME NAMES: 'import', 'namespace', 'open', 'def', 'theorem' AND NOTHING ELSE: no command of the shelf's: FOR A HAND-IN. Each laying: the table of numbers ('.._ren') and one theorem, a field a fact of the dump's own or the kernel's comparison; each contract: ONE APPLICATION.
-/
namespace Go.Proofs
open Go.Shelf
def Tryz.laysSlC25_f134_ren : Go.Shelf.Ren := ⟨fun | 5 => 134 | 7 => 139 | n => n, fun | 3 => 3 | 4 => 4 | 22 => 2 | n => n, fun | n => n⟩
theorem Tryz.laysSlC25_f134 : Go.Proofs.SlLaysC2.n5 Tryz.prog Tryz.laysSlC25_f134_ren := {
  mixed := by kernel_rfl
  f5 := ⟨Tryz.f134.name, by decide, Tryz.func134.trans (congrArg some (by kernel_rfl))⟩
  f7 := ⟨Tryz.f139.name, by decide, Tryz.func139.trans (congrArg some (by kernel_rfl))⟩
  t3 := Tryz.underlying3
  a3 := Tryz.isAgg3
  z3 := Tryz.sizeOf3
  v3 := Tryz.zeroValue3
  t4 := Tryz.underlying4
  a4 := Tryz.isAgg4
  z4 := Tryz.sizeOf4
  v4 := Tryz.zeroValue4
  t22 := Tryz.underlying2
  a22 := Tryz.isAgg2
  z22 := Tryz.sizeOf2
  v22 := Tryz.zeroValue2 }
open Go.RowKit in
/-- cmp.Compare at int64 -/
theorem Tryz.cmp_Compare_int_f134 (x y : Int) (w : World) :
    Calls Tryz.prog 134 #[.int .i64 x, .int .i64 y] w fun e w' => e = .returned (.int .i64 (Lib.compareInt x y)) ∧ w' = w := AnyG.cmp_Compare_int Tryz.laysSlC25_f134 x y w
def Tryz.laysSlF6_f44_ren : Go.Shelf.Ren := ⟨fun | 6 => 44 | 15 => 78 | 14 => 77 | 28 => 113 | 29 => 114 | 20 => 105 | 21 => 106 | 22 => 107 | 23 => 108 | 24 => 109 | 25 => 110 | 26 => 111 | 27 => 112 | 46 => 140 | 47 => 141 | 48 => 142 | 49 => 143 | 50 => 144 | 57 => 171 | n => n, fun | 22 => 60 | 24 => 88 | 25 => 91 | 3 => 3 | 39 => 128 | 0 => 0 | 53 => 178 | 55 => 180 | 4 => 4 | 46 => 172 | 45 => 171 | 50 => 84 | 5 => 5 | 9 => 9 | 66 => 205 | 70 => 209 | 76 => 236 | 77 => 237 | n => n, fun | n => n⟩
theorem Tryz.laysSlF6_f44 : Go.Proofs.SlLaysF.n6 Tryz.prog Tryz.laysSlF6_f44_ren := {
  mixed := by kernel_rfl
  f6 := ⟨Tryz.f44.name, by decide, Tryz.func44.trans (congrArg some (by kernel_rfl))⟩
  f14 := ⟨Tryz.f77.name, by decide, Tryz.func77.trans (congrArg some (by kernel_rfl))⟩
  f15 := Tryz.func78.trans (congrArg some (by kernel_rfl))
  f20 := ⟨Tryz.f105.name, by decide, Tryz.func105.trans (congrArg some (by kernel_rfl))⟩
  f21 := ⟨Tryz.f106.name, by decide, Tryz.func106.trans (congrArg some (by kernel_rfl))⟩
  f22 := ⟨Tryz.f107.name, by decide, Tryz.func107.trans (congrArg some (by kernel_rfl))⟩
  f23 := ⟨Tryz.f108.name, by decide, Tryz.func108.trans (congrArg some (by kernel_rfl))⟩
  f24 := ⟨Tryz.f109.name, by decide, Tryz.func109.trans (congrArg some (by kernel_rfl))⟩
  f25 := ⟨Tryz.f110.name, by decide, Tryz.func110.trans (congrArg some (by kernel_rfl))⟩
  f26 := ⟨Tryz.f111.name, by decide, Tryz.func111.trans (congrArg some (by kernel_rfl))⟩
  f27 := ⟨Tryz.f112.name, by decide, Tryz.func112.trans (congrArg some (by kernel_rfl))⟩
  f28 := Tryz.func113.trans (congrArg some (by kernel_rfl))
  f29 := Tryz.func114.trans (congrArg some (by kernel_rfl))
  f46 := ⟨Tryz.f140.name, by decide, Tryz.func140.trans (congrArg some (by kernel_rfl))⟩
  f47 := Tryz.func141.trans (congrArg some (by kernel_rfl))
  f48 := Tryz.func142.trans (congrArg some (by kernel_rfl))
  f49 := ⟨Tryz.f143.name, by decide, Tryz.func143.trans (congrArg some (by kernel_rfl))⟩
  f50 := ⟨Tryz.f144.name, by decide, Tryz.func144.trans (congrArg some (by kernel_rfl))⟩
  f57 := ⟨Tryz.f171.name, by decide, Tryz.func171.trans (congrArg some (by kernel_rfl))⟩
  t0 := Tryz.underlying0
  a0 := Tryz.isAgg0
  z0 := Tryz.sizeOf0
  v0 := Tryz.zeroValue0
  t3 := Tryz.underlying3
  a3 := Tryz.isAgg3
  z3 := Tryz.sizeOf3
  v3 := Tryz.zeroValue3
  t4 := Tryz.underlying4
  a4 := Tryz.isAgg4
  z4 := Tryz.sizeOf4
  v4 := Tryz.zeroValue4
  t5 := Tryz.underlying5
  a5 := Tryz.isAgg5
  z5 := Tryz.sizeOf5
  v5 := Tryz.zeroValue5
  t9 := Tryz.underlying9
  a9 := Tryz.isAgg9
  z9 := Tryz.sizeOf9
  v9 := Tryz.zeroValue9
  t22 := Tryz.underlying60
  a22 := Tryz.isAgg60
  z22 := Tryz.sizeOf60
  v22 := Tryz.zeroValue60
  a24 := Tryz.isAgg88
  z24 := Tryz.sizeOf88
  t25 := Tryz.underlying91
  a25 := Tryz.isAgg91
  z25 := Tryz.sizeOf91
  v25 := Tryz.zeroValue91
  t39 := Tryz.underlying128
  a39 := Tryz.isAgg128
  z39 := Tryz.sizeOf128
  v39 := Tryz.zeroValue128
  t45 := Tryz.underlying171
  a45 := Tryz.isAgg171
  z45 := Tryz.sizeOf171
  v45 := Tryz.zeroValue171
  t46 := Tryz.underlying172
  a46 := Tryz.isAgg172
  z46 := Tryz.sizeOf172
  v46 := Tryz.zeroValue172
  t50 := Tryz.underlying84
  a50 := Tryz.isAgg84
  z50 := Tryz.sizeOf84
  v50 := Tryz.zeroValue84
  t53 := Tryz.underlying178
  a53 := Tryz.isAgg178
  z53 := Tryz.sizeOf178
  v53 := Tryz.zeroValue178
  t55 := Tryz.underlying180
  a55 := Tryz.isAgg180
  z55 := Tryz.sizeOf180
  v55 := Tryz.zeroValue180
  t66 := Tryz.underlying205
  a66 := Tryz.isAgg205
  z66 := Tryz.sizeOf205
  v66 := Tryz.zeroValue205
  t70 := Tryz.underlying209
  a70 := Tryz.isAgg209
  z70 := Tryz.sizeOf209
  v70 := Tryz.zeroValue209
  t76 := Tryz.underlying236
  a76 := Tryz.isAgg236
  z76 := Tryz.sizeOf236
  v76 := Tryz.zeroValue236
  t77 := Tryz.underlying237
  a77 := Tryz.isAgg237
  z77 := Tryz.sizeOf237
  v77 := Tryz.zeroValue237 }
def Tryz.laysSlF06_f44_ren : Go.Shelf.Ren := ⟨fun | 6 => 44 | 15 => 78 | 14 => 77 | 28 => 113 | 29 => 114 | 20 => 105 | 21 => 106 | 22 => 107 | 23 => 108 | 24 => 109 | 25 => 110 | 26 => 111 | 27 => 112 | 46 => 140 | 47 => 141 | 48 => 142 | 49 => 143 | 50 => 144 | 57 => 171 | n => n, fun | 22 => 60 | 24 => 88 | 25 => 91 | 3 => 3 | 39 => 128 | 0 => 0 | 53 => 178 | 55 => 180 | 4 => 4 | 46 => 172 | 45 => 171 | 50 => 84 | 5 => 5 | 9 => 9 | 66 => 205 | 70 => 209 | 76 => 236 | 77 => 237 | n => n, fun | n => n⟩
theorem Tryz.laysSlF06_f44 : Go.Proofs.SlLaysF0.n6 Tryz.prog Tryz.laysSlF06_f44_ren := {
  mixed := by kernel_rfl
  f6 := ⟨Tryz.f44.name, by decide, Tryz.func44.trans (congrArg some (by kernel_rfl))⟩
  f14 := ⟨Tryz.f77.name, by decide, Tryz.func77.trans (congrArg some (by kernel_rfl))⟩
  f15 := Tryz.func78.trans (congrArg some (by kernel_rfl))
  f20 := ⟨Tryz.f105.name, by decide, Tryz.func105.trans (congrArg some (by kernel_rfl))⟩
  f21 := ⟨Tryz.f106.name, by decide, Tryz.func106.trans (congrArg some (by kernel_rfl))⟩
  f22 := ⟨Tryz.f107.name, by decide, Tryz.func107.trans (congrArg some (by kernel_rfl))⟩
  f23 := ⟨Tryz.f108.name, by decide, Tryz.func108.trans (congrArg some (by kernel_rfl))⟩
  f24 := ⟨Tryz.f109.name, by decide, Tryz.func109.trans (congrArg some (by kernel_rfl))⟩
  f25 := ⟨Tryz.f110.name, by decide, Tryz.func110.trans (congrArg some (by kernel_rfl))⟩
  f26 := ⟨Tryz.f111.name, by decide, Tryz.func111.trans (congrArg some (by kernel_rfl))⟩
  f27 := ⟨Tryz.f112.name, by decide, Tryz.func112.trans (congrArg some (by kernel_rfl))⟩
  f28 := Tryz.func113.trans (congrArg some (by kernel_rfl))
  f29 := Tryz.func114.trans (congrArg some (by kernel_rfl))
  f46 := ⟨Tryz.f140.name, by decide, Tryz.func140.trans (congrArg some (by kernel_rfl))⟩
  f47 := Tryz.func141.trans (congrArg some (by kernel_rfl))
  f48 := Tryz.func142.trans (congrArg some (by kernel_rfl))
  f49 := ⟨Tryz.f143.name, by decide, Tryz.func143.trans (congrArg some (by kernel_rfl))⟩
  f50 := ⟨Tryz.f144.name, by decide, Tryz.func144.trans (congrArg some (by kernel_rfl))⟩
  f57 := ⟨Tryz.f171.name, by decide, Tryz.func171.trans (congrArg some (by kernel_rfl))⟩
  t0 := Tryz.underlying0
  a0 := Tryz.isAgg0
  z0 := Tryz.sizeOf0
  v0 := Tryz.zeroValue0
  t3 := Tryz.underlying3
  a3 := Tryz.isAgg3
  z3 := Tryz.sizeOf3
  v3 := Tryz.zeroValue3
  t4 := Tryz.underlying4
  a4 := Tryz.isAgg4
  z4 := Tryz.sizeOf4
  v4 := Tryz.zeroValue4
  t5 := Tryz.underlying5
  a5 := Tryz.isAgg5
  z5 := Tryz.sizeOf5
  v5 := Tryz.zeroValue5
  t9 := Tryz.underlying9
  a9 := Tryz.isAgg9
  z9 := Tryz.sizeOf9
  v9 := Tryz.zeroValue9
  t22 := Tryz.underlying60
  a22 := Tryz.isAgg60
  z22 := Tryz.sizeOf60
  v22 := Tryz.zeroValue60
  t25 := Tryz.underlying91
  a25 := Tryz.isAgg91
  z25 := Tryz.sizeOf91
  v25 := Tryz.zeroValue91
  t39 := Tryz.underlying128
  a39 := Tryz.isAgg128
  z39 := Tryz.sizeOf128
  v39 := Tryz.zeroValue128
  t45 := Tryz.underlying171
  a45 := Tryz.isAgg171
  z45 := Tryz.sizeOf171
  v45 := Tryz.zeroValue171
  t46 := Tryz.underlying172
  a46 := Tryz.isAgg172
  z46 := Tryz.sizeOf172
  v46 := Tryz.zeroValue172
  t50 := Tryz.underlying84
  a50 := Tryz.isAgg84
  z50 := Tryz.sizeOf84
  v50 := Tryz.zeroValue84
  t53 := Tryz.underlying178
  a53 := Tryz.isAgg178
  z53 := Tryz.sizeOf178
  v53 := Tryz.zeroValue178
  t55 := Tryz.underlying180
  a55 := Tryz.isAgg180
  z55 := Tryz.sizeOf180
  v55 := Tryz.zeroValue180
  t66 := Tryz.underlying205
  a66 := Tryz.isAgg205
  z66 := Tryz.sizeOf205
  v66 := Tryz.zeroValue205
  t70 := Tryz.underlying209
  a70 := Tryz.isAgg209
  z70 := Tryz.sizeOf209
  v70 := Tryz.zeroValue209
  t76 := Tryz.underlying236
  a76 := Tryz.isAgg236
  z76 := Tryz.sizeOf236
  v76 := Tryz.zeroValue236
  t77 := Tryz.underlying237
  a77 := Tryz.isAgg237
  z77 := Tryz.sizeOf237
  v77 := Tryz.zeroValue237 }
open Go.RowKit Go.Lib Go.Sort in
/-- **slices.SortFunc AT NO ELEMENT, A nil SLICE TOO: nothing turns.** (LAID AT THE INSTANCE 'slices.SortFunc at []Node': no walk: one application.) -/
theorem Tryz.slices_SortFunc_none_f44 {α : Type} [Inhabited α] (p : Option Addr) (cap : Nat) (fv : Value) (w : World) :
    Calls Tryz.prog 44 #[.slice p 0 cap, fv] w fun e w' => e = .returned (.tuple #[]) ∧ w' = w := AnyF.slices_SortFunc_none Tryz.laysSlF06_f44 p cap fv w
open Go.RowKit Go.Lib Go.Sort in
/-- **slices.SortFunc AT ONE CELL, UNDER A 'cmp' THAT PARTS WHATEVER TWO THAT ARE NOT ONE: THE ROW HOLDS core's 'mergeSort'.** (LAID AT THE INSTANCE 'slices.SortFunc at []Node': no walk: one application.) -/
theorem Tryz.slices_SortFunc_total_f44 {α : Type} [Inhabited α] (enc : α → Value) (h1 : OneCell enc) (cf : α → α → Int) (hO : SWO (ltOf cf)) (g : Nat) (cb : Array Value) (blk off cap : Nat) (d : Array α) (w : World) (eg : ∀ args w, (callFunc g args).run Tryz.prog w = .ok (.enter g args) w) (hcmp : CmpLays1 Tryz.prog g cb enc cf blk off d.size w) (hH : Holds enc w blk off d) (hblk : blk < w.heap.size) (hsz : d.size < 4611686018427387904) (hT : ∀ x y, (ltOf cf) x y = false → (ltOf cf) y x = false → x = y) :
    Calls Tryz.prog 44 #[.slice (some ⟨blk, off, none⟩) d.size cap, .func (.func g) #[] cb] w fun e w' =>
      e = .returned (.tuple #[]) ∧ ∃ n os, w' = sortWorld enc w blk off n (d.toList.mergeSort fun x y => !(ltOf cf) y x).toArray os := Any.slices_SortFunc_total Tryz.laysSlF6_f44 enc h1 cf hO g cb blk off cap d w eg hcmp hH hblk hsz hT
end Go.Proofs

/- order.ByID: nodes are sorted by their numbers. -/
namespace Go.Proofs.YtddklkgcodjijaaGreat.R
open Go.RowKit Go.Lab Go.Maps Go.Proofs.YtddklkgcodjijaaGreatW.PrintWords Go.Proofs.YtddklkgcodjijaaGreatW.PrintLast Go.Proofs.YtddklkgcodjijaaGreatW.PrintMore PL

set_option maxHeartbeats 4000000 in
set_option maxRecDepth 100000 in
theorem compareN_any (x y : Int) (w : World) : Calls Tryz.prog 133 #[.iface 272 (.int .i64 x), .iface 272 (.int .i64 y)] w fun e w' => e = .returned (.int .i64 (Lib.compareInt x y)) ∧ w' = w := by
  have m1 := meth_ID x
  have m2 := meth_ID y
  go_enter Tryz.func133, Tryz.ntmps133
  go_wp2_with (first
    | (go_at_call 239; refine (nodeID_any x _).mono ?_; rintro e wi ⟨rfl, rfl⟩)
    | (go_at_call 239; refine (nodeID_any y _).mono ?_; rintro e wi ⟨rfl, rfl⟩)
    | (go_at_call 134; refine (Tryz.cmp_Compare_int_f134 x y _).mono ?_; rintro e wi ⟨rfl, rfl⟩))
  go_ret
  exact ⟨rfl, rfl⟩
open Go.Sort in
theorem ltOf_cmp (x y : Int) : ltOf Lib.compareInt x y = decide (x < y) := by
  unfold ltOf Lib.compareInt
  by_cases h1 : x < y
  · simp [h1]
  · by_cases h2 : x = y
    · simp [h2]
    · have : y < x := by omega
      simp [h1, h2, this]
open Go.Sort in
theorem cmp_srt (xs : List Int) : ((xs.toArray).toList.mergeSort fun x y => !(ltOf Lib.compareInt) y x) = srt xs := by
  unfold srt
  congr 1
  funext x y
  rw [ltOf_cmp]
  by_cases h : y < x
  · simp [h]
  · have : x ≤ y := by omega
    simp [h, this]
open Go.Sort in
set_option maxHeartbeats 2000000 in
theorem sortN_own (base : Nat) (v : Value) (xs : List Int) (w : World) (h : w.ownsRow base 88 1 v xs.length (nodeVs xs)) (hn : xs.length ≤ 100000) :
    Calls Tryz.prog 44 #[v, .func (.func 133) #[] #[]] w fun e w' => e = .returned (.tuple #[]) ∧ w'.ownsRow base 88 1 v xs.length (nodeVs (srt xs)) ∧ w.grownBy w' v.ownBlock := by
  by_cases h0 : xs.length = 0
  · have hx : xs = [] := List.eq_nil_of_length_eq_zero h0
    subst hx
    obtain ⟨A, c, rfl⟩ := own_slice h
    refine (Tryz.slices_SortFunc_none_f44 (α := Nat) A c _ w).mono ?_
    rintro e w' ⟨rfl, rfl⟩
    exact ⟨rfl, (by simpa [srt] using h), ⟨rfl, rfl, rfl, Nat.le_refl _, fun _ _ _ => rfl⟩⟩
  · rcases h.2 with ⟨_, hn0⟩ | ⟨g, cap, cur, rfl, hb1, hg, hc1, hc2, hcs, htk⟩
    · exact absurd hn0 h0
    · have hgl : g < w.heap.size := blk_lt hg
      have hH : Holds nodeV w g 0 xs.toArray := by
        intro j hj
        have hj' : j < xs.length := by simpa using hj
        refine ⟨?_, blk_frozen hg _⟩
        rw [Nat.zero_add, blk_cell hg]
        have h1 : (cur.toList.take (xs.length * 1))[j]? = some (nodeV xs[j]) := by rw [htk]; unfold nodeVs; simp [hj']
        rw [List.getElem?_take] at h1
        split at h1
        · rw [getElem!_pos xs.toArray j (by simpa using hj)]
          simpa using h1
        · cases h1
      have hlt := ltOf_cmp
      have hsw : SWO (ltOf Lib.compareInt) :=
        ⟨fun x => by rw [hlt]; simp, fun x y z h1 h2 => by rw [hlt, decide_eq_true_iff] at *; omega, fun x y z h1 h2 => by rw [hlt, decide_eq_false_iff_not] at *; omega⟩
      have eg : ∀ args w, (callFunc 133 args).run Tryz.prog w = .ok (.enter 133 args) w := enters_of Tryz.func133 (by kernel_rfl) rfl
      have hcmp : CmpReads Tryz.prog 133 #[] nodeV Lib.compareInt g 0 xs.toArray.size w := by
        intro m os dk hdk x y
        refine (compareN_any x y _).mono ?_
        rintro e w' ⟨rfl, rfl⟩
        exact ⟨rfl, 0, rfl⟩
      have hone : OneCell nodeV := fun i => rfl
      have hcon := Tryz.slices_SortFunc_total_f44 nodeV hone Lib.compareInt hsw 133 #[] g 0 cap xs.toArray w eg hcmp.lays hH hgl (by simp; omega) (fun x y h1 h2 => by rw [hlt, decide_eq_false_iff_not] at h1 h2; omega)
      rw [List.size_toArray] at hcon
      refine hcon.mono ?_
      rintro e w' ⟨rfl, n, os, rfl⟩
      rw [cmp_srt]
      obtain ⟨m, hm⟩ : ∃ m, srt xs = m := ⟨_, rfl⟩
      have hml : m.length = xs.length := by rw [← hm]; exact srt_length xs
      rw [hm]
      have hh : (sortWorld nodeV w g 0 n m.toArray os).heap[g]? = some (.cells (putCells nodeV 0 m.toArray cur) 88 (0, 0)) := by
        unfold sortWorld
        have hsz : (putRow nodeV (Go.Sort.ahead w n) g 0 m.toArray).heap.size = w.heap.size := by simp [putRow, mapBlock, Go.Sort.ahead]
        rw [heap_grow_old _ _ (by rw [hsz]; exact hgl)]
        unfold putRow mapBlock
        have : (Go.Sort.ahead w n).heap = w.heap := rfl
        simp only [this, Array.getElem?_modify, if_true]
        rw [hg]
        rfl
      have hsl : (putCells nodeV 0 m.toArray cur).size = cur.size := by simp [putCells]
      refine ⟨rfl, ⟨by rw [nodeVs_len, Nat.mul_one]; exact hml, .inr ⟨g, cap, _, rfl, hb1, hh, hc1, hc2, by rw [hsl]; exact hcs, ?_⟩⟩, ⟨rfl, rfl, rfl, ?_, fun k hk hne => ?_⟩⟩
      · rw [Nat.mul_one]
        exact putCells_takeE nodeV cur xs.length m hml (by rw [hcs]; omega)
      · unfold sortWorld; simp [grow, putRow, mapBlock, Go.Sort.ahead]
      · exact sortWorld_heap nodeV w g n m.toArray os k hk (fun e => hne (by simp [Value.ownBlock, e]))

set_option maxHeartbeats 4000000 in
set_option maxRecDepth 100000 in
theorem lexical_own (base : Nat) (v : Value) (xs : List Int) (w : World) (h : w.ownsRow base 88 1 v xs.length (nodeVs xs)) (hn : xs.length ≤ 100000) :
    Calls Tryz.prog 67 #[v] w fun e w' => e = .returned (.tuple #[]) ∧ w'.ownsRow base 88 1 v xs.length (nodeVs (srt xs)) ∧ w.grownBy w' v.ownBlock := by
  have HO := Aside0.mk h
  clear h
  have h105 : Calls Tryz.prog 95 #[v] w fun e w' => e = .returned (.tuple #[]) ∧ w'.ownsRow base 88 1 v xs.length (nodeVs (srt xs)) ∧ w.grownBy w' v.ownBlock := by
    go_enter Tryz.func95, Tryz.ntmps95
    go_wp2_with (go_at_call 44; refine (sortN_own base v xs _ HO.out hn).mono ?_; rintro e w1 ⟨rfl, hp⟩; have HP := Aside0.mk hp; clear hp)
    go_end0
    exact ⟨rfl, HP.out⟩
  go_enter Tryz.func67, Tryz.ntmps67
  go_wp2_with (go_at_call 95; refine h105.mono ?_; rintro e w1 ⟨rfl, hp⟩; have HP := Aside0.mk hp; clear hp)
  go_end0
  exact ⟨rfl, HP.out⟩
end Go.Proofs.YtddklkgcodjijaaGreat.R
