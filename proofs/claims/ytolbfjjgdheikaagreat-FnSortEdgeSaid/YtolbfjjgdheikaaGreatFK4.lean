import Derived.Test.YtolbfjjgdheikaaGreatFK3
import Derived.Test.YtolbfjjgdheikaaGreatFK2
set_option linter.unusedVariables false
set_option linter.unusedSimpArgs false
/- The state of a walk through all, between two walks. -/
namespace Go.Proofs.YtolbfjjgdheikaaGreat.R
open Go.RowKit Go.Lab Go.Maps Go.Proofs.YtolbfjjgdheikaaGreatW.PrintWords Go.Proofs.YtolbfjjgdheikaaGreatW.PrintLast Go.Proofs.YtolbfjjgdheikaaGreatW.PrintMore PL

/-- which blocks the parts that were laid down hold -/
def RF (lv : Value) (rows : List Value) (k : Nat) : Prop := lv.ownBlock = some k ∨ ∃ v ∈ rows, v.ownBlock = some k
/-- which blocks a walk leaves alone -/
def WF (gu lo B : Nat) (lv : Value) (rows : List Value) (k : Nat) : Prop := k = gu ∨ (lo ≤ k ∧ k < B) ∨ RF lv rows k

theorem Rws.bound {K : Kp} {TL : TypeId} {lo : Nat} {w : World} {gl : Nat} {lv : Value} {rows : List Value} {ps : List (List Int)} (h : Rws K TL lo w gl lv rows ps) {k : Nat} (hk : RF lv rows k) : lo ≤ k ∧ k < w.heap.size := by
  rcases hk with hk | ⟨v, hv, hk⟩
  · obtain ⟨c, hc⟩ := own_block h.own hk
    exact ⟨own_base h.own k hk, blk_lt hc⟩
  · obtain ⟨i, hi, rfl⟩ := List.mem_iff_getElem.1 hv
    obtain ⟨c, hc⟩ := own_block (h.each i hi) hk
    exact ⟨own_base (h.each i hi) k hk, blk_lt hc⟩
theorem Rws.stay2 {K : Kp} {TL : TypeId} {lo : Nat} {w w1 : World} {gl : Nat} {lv : Value} {rows : List Value} {ps : List (List Int)} (h : Rws K TL lo w gl lv rows ps) (h1 : w1.heap[gl]? = w.heap[gl]?) (h2 : ∀ k, RF lv rows k → w1.heap[k]? = w.heap[k]?) : Rws K TL lo w1 gl lv rows ps :=
  h.stay h1 (fun k hk => h2 k (.inl hk)) (fun v hv k hk => h2 k (.inr ⟨v, hv, hk⟩))

structure WA (K : Kp) (TL : TypeId) (w0 w : World) (gd gv gl gu b lo B : Nat) (dv : Value) (xs : List Int) (i : Nat) (ps : List (List Int)) (pt : List Int) (mp : Option Nat) (st vv lv : Value) (rows : List Value) : Prop where
  ok : K.Ok
  tl : TL = 29 ∨ TL = 60
  stk : Stk w0.heap.size w gd .nilFunc .nilFunc (.map mp) st []
  new : mp = none → ps = [] ∧ pt = []
  set : ∀ gm, mp = some gm → SetOk w gm (ps.flatten ++ pt) ∧ w0.heap.size ≤ gm
  gat : Gat K w0.heap.size w gv vv pt
  rws : Rws K TL w0.heap.size w gl lv rows ps
  gd0 : gd < w0.heap.size
  gv0 : gv < w0.heap.size
  gl0 : gl < w0.heap.size
  ll : ∃ lv0, w0.heap[gl]? = some (.cells #[lv0] TL (0, 0))
  kp : KeepF (fun k => WM gd gv w0.heap.size k ∨ k = gl) w0 w
  it : OIt lo B w b xs i
  box : w.heap[gu]? = some (.cells #[dv] 74 (0, 0))
  gu0 : w0.heap.size ≤ gu
  lo0 : gu < lo
  B0 : B ≤ w.heap.size
  sep : ∀ k, st.ownBlock = some k → vv.ownBlock ≠ some k
  far : ∀ k, WF gu lo B lv rows k → st.ownBlock ≠ some k ∧ vv.ownBlock ≠ some k ∧ mp ≠ some k
  rit : ∀ k, RF lv rows k → (k < lo ∨ B ≤ k) ∧ k ≠ gu

section
variable {K : Kp} {TL : TypeId} {w0 w w1 : World} {gd gv gl gu b lo B : Nat} {dv : Value} {xs : List Int} {i : Nat} {ps : List (List Int)} {pt : List Int} {mp : Option Nat} {st vv lv : Value} {rows : List Value}

theorem WA.stLt (h : WA K TL w0 w gd gv gl gu b lo B dv xs i ps pt mp st vv lv rows) {k : Nat} (hk : st.ownBlock = some k) : w0.heap.size ≤ k ∧ k < w.heap.size := by
  obtain ⟨c, hc⟩ := own_block h.stk.own hk; exact ⟨own_base h.stk.own k hk, blk_lt hc⟩
theorem WA.vvLt (h : WA K TL w0 w gd gv gl gu b lo B dv xs i ps pt mp st vv lv rows) {k : Nat} (hk : vv.ownBlock = some k) : w0.heap.size ≤ k ∧ k < w.heap.size := by
  obtain ⟨c, hc⟩ := own_block h.gat.own hk; exact ⟨own_base h.gat.own k hk, blk_lt hc⟩
theorem WA.mLt (h : WA K TL w0 w gd gv gl gu b lo B dv xs i ps pt mp st vv lv rows) {k : Nat} (hk : mp = some k) : w0.heap.size ≤ k ∧ k < w.heap.size := ⟨(h.set k hk).2, (h.set k hk).1.lt⟩
theorem WA.ne (h : WA K TL w0 w gd gv gl gu b lo B dv xs i ps pt mp st vv lv rows) : gl ≠ gd ∧ gl ≠ gv ∧ gd ≠ gv := by
  refine ⟨fun e => ?_, fun e => ?_, fun e => ?_⟩
  · subst e
    have := blk_type h.rws.blk h.stk.blk
    rcases h.tl with e | e <;> rw [e] at this <;> exact absurd this (by decide)
  · subst e
    have := blk_type h.rws.blk h.gat.blk
    rcases h.tl with e | e <;> rcases h.ok.1 with e2 | e2 <;> rw [e, e2] at this <;> exact absurd this (by decide)
  · subst e
    have := blk_type h.stk.blk h.gat.blk
    rcases h.ok.1 with e2 | e2 <;> rw [e2] at this <;> exact absurd this (by decide)

theorem WA.keep {i' : Nat} (h : WA K TL w0 w gd gv gl gu b lo B dv xs i ps pt mp st vv lv rows) (hk : KeepF (fun k => WM gd gv w0.heap.size k ∨ k = gl) w w1) (hlow : ∀ k, k < w0.heap.size → w1.heap[k]? = w.heap[k]?)
    (hst : ∀ k, st.ownBlock = some k → w1.heap[k]? = w.heap[k]?) (hvv : ∀ k, vv.ownBlock = some k → w1.heap[k]? = w.heap[k]?) (hm : ∀ k, mp = some k → w1.heap[k]? = w.heap[k]?) (hr : ∀ k, RF lv rows k → w1.heap[k]? = w.heap[k]?) (hu : w1.heap[gu]? = w.heap[gu]?) (hit : OIt lo B w1 b xs i') :
    WA K TL w0 w1 gd gv gl gu b lo B dv xs i' ps pt mp st vv lv rows :=
  ⟨h.ok, h.tl, h.stk.stay (hlow _ h.gd0) hst, h.new, fun gm e => ⟨(h.set gm e).1.stay (hm gm e), (h.set gm e).2⟩, h.gat.stay (hlow _ h.gv0) hvv, h.rws.stay2 (hlow _ h.gl0) hr, h.gd0, h.gv0, h.gl0, h.ll, h.kp.trans hk, hit, hu.trans h.box, h.gu0, h.lo0, Nat.le_trans h.B0 hk.size, h.sep, h.far, h.rit⟩
theorem WA.below (h : WA K TL w0 w gd gv gl gu b lo B dv xs i ps pt mp st vv lv rows) (hb : Below w.heap.size w w1) : WA K TL w0 w1 gd gv gl gu b lo B dv xs i ps pt mp st vv lv rows :=
  h.keep (KeepF.of_below hb) (fun k hk => hb.block k (Nat.lt_of_lt_of_le hk h.kp.size)) (fun k hk => hb.block k (h.stLt hk).2) (fun k hk => hb.block k (h.vvLt hk).2) (fun k hk => hb.block k (h.mLt hk).2) (fun k hk => hb.block k (h.rws.bound hk).2) (hb.block _ (blk_lt h.box))
    (h.it.far fun q _ hq => hb.block q (Nat.lt_of_lt_of_le hq h.B0))
theorem WA.mid {i' : Nat} (h : WA K TL w0 w gd gv gl gu b lo B dv xs i ps pt mp st vv lv rows) (hm : Mid lo B w w1) (hit : OIt lo B w1 b xs i') : WA K TL w0 w1 gd gv gl gu b lo B dv xs i' ps pt mp st vv lv rows := by
  have hg := h.gu0
  have hl := h.lo0
  have out : ∀ k, st.ownBlock ≠ some k ∧ vv.ownBlock ≠ some k ∧ mp ≠ some k → True := fun _ _ => trivial
  refine h.keep ⟨hm.os, hm.tape, hm.output, hm.size, fun k hk hn => hm.block k hk (.inl ?_)⟩ (fun k hk => hm.block k (Nat.lt_of_lt_of_le hk h.kp.size) (.inl (by omega))) (fun k hk => hm.block k (h.stLt hk).2 ?_) (fun k hk => hm.block k (h.vvLt hk).2 ?_) (fun k hk => hm.block k (h.mLt hk).2 ?_) (fun k hk => hm.block k (h.rws.bound hk).2 (h.rit k hk).1) (hm.block _ (blk_lt h.box) (.inl hl)) hit
  · simp only [WM] at hn; omega
  · rcases Nat.lt_or_ge k lo with h1 | h1
    · exact .inl h1
    · rcases Nat.lt_or_ge k B with h2 | h2
      · exact absurd hk (h.far k (.inr (.inl ⟨h1, h2⟩))).1
      · exact .inr h2
  · rcases Nat.lt_or_ge k lo with h1 | h1
    · exact .inl h1
    · rcases Nat.lt_or_ge k B with h2 | h2
      · exact absurd hk (h.far k (.inr (.inl ⟨h1, h2⟩))).2.1
      · exact .inr h2
  · rcases Nat.lt_or_ge k lo with h1 | h1
    · exact .inl h1
    · rcases Nat.lt_or_ge k B with h2 | h2
      · exact absurd hk (h.far k (.inr (.inl ⟨h1, h2⟩))).2.2
      · exact .inr h2

/-- the world at the beginning, with the parts as they are now -/
theorem setl_size (w0 : World) (gl : Nat) (lv : Value) : (w0.setCell ⟨gl, 0, none⟩ lv).heap.size = w0.heap.size := by simp
theorem VEnv.setl {base bp : Nat} {zs : List Int} {es : List S34} {p : Pl} (h : VEnv K w0 gd gv base bp zs es p) (ht : TL = 29 ∨ TL = 60) (hl : ∃ lv0, w0.heap[gl]? = some (.cells #[lv0] TL (0, 0))) (lv : Value) : VEnv K (w0.setCell ⟨gl, 0, none⟩ lv) gd gv base bp zs es p := by
  obtain ⟨lv0, hl⟩ := hl
  have other : ∀ (k : Nat) (c : Array Value) (t : TypeId), w0.heap[k]? = some (Obj.cells c t (0, 0)) → t ≠ TL → (w0.setCell ⟨gl, 0, none⟩ lv).heap[k]? = w0.heap[k]? := fun k c t hk hne => Below.heap_setCell _ _ _ _ (fun e => by
    have e2 : k = gl := e
    subst e2
    exact hne (blk_type hk hl))
  refine ⟨⟨h.gr.ok.kinds fun k c t hk htt => other k c t hk ?_, h.gr.good, h.gr.adj, h.gr.hs, h.gr.hn⟩, h.ok, ?_, ?_, h.wf⟩
  · rcases htt with rfl | rfl | rfl | rfl <;> rcases ht with rfl | rfl <;> decide
  · obtain ⟨cs, hc⟩ := h.hd
    exact ⟨cs, (other gd cs _ hc (by rcases ht with rfl | rfl <;> decide)).trans hc⟩
  · obtain ⟨cs, hc⟩ := h.hv
    exact ⟨cs, (other gv cs _ hc (by rcases ht with rfl | rfl <;> rcases h.ok.1 with e | e <;> rw [e] <;> decide)).trans hc⟩
theorem WA.kpl (h : WA K TL w0 w gd gv gl gu b lo B dv xs i ps pt mp st vv lv rows) : KeepF (WM gd gv w0.heap.size) (w0.setCell ⟨gl, 0, none⟩ lv) w := by
  obtain ⟨lv0, hl⟩ := h.ll
  have hk := h.kp
  refine ⟨hk.os, hk.tape, hk.output, by rw [setl_size]; exact hk.size, fun k hlt hn => ?_⟩
  rw [setl_size] at hlt
  by_cases e : k = gl
  · subst e
    rw [h.rws.blk]
    exact (blk_put (cs := #[lv0]) hl 0 lv rfl).symm
  · rw [Below.heap_setCell _ _ _ _ (show k ≠ _ from e)]
    exact hk.block k hlt (fun hh => by rcases hh with hh | hh; exact hn hh; exact e hh)
/-- a walk has ended -/
theorem WA.walked {gm : Nat} {st' vv' : Value} {r : List Int} {wF : World} (h : WA K TL w0 wF gd gv gl gu b lo B dv xs i ps [] mp st vv lv rows)
    (hD : DV K (WF gu lo B lv rows) (w0.setCell ⟨gl, 0, none⟩ lv) wF w1 gd gv gm st' vv' [] (ps.flatten ++ r) r) : WA K TL w0 w1 gd gv gl gu b lo B dv xs i ps r (some gm) st' vv' lv rows := by
  have hsz := setl_size w0 gl lv
  obtain ⟨lv0, hl⟩ := h.ll
  have hne := h.ne
  have h1 := hD.stk
  have h2 := hD.gmL
  have h3 := hD.gat
  have h4 := hD.kp
  rw [hsz] at h1 h2 h3 h4
  have hgl : w1.heap[gl]? = some (.cells #[lv] TL (0, 0)) := by
    rw [h4.block gl (by rw [hsz]; exact h.gl0) (by have := h.gl0; unfold WM; omega)]
    exact blk_put (cs := #[lv0]) hl 0 lv rfl
  have hb : b < B ∧ lo ≤ b := ⟨h.it.hb.2, h.it.hb.1⟩
  refine ⟨h.ok, h.tl, h1, (fun e => by cases e), fun g e => ?_, h3, ?_, h.gd0, h.gv0, h.gl0, h.ll, ?_, ?_, ?_, h.gu0, h.lo0, ?_, hD.sep, fun k hk => ?_, h.rit⟩
  · obtain rfl := Option.some.inj e
    exact ⟨hD.set, h2⟩
  · exact h.rws.stay2 (hgl.trans h.rws.blk.symm) (fun k hk => (hD.nF k (.inr (.inr hk))).2.2.2.2.2)
  · refine ⟨h4.os, h4.tape, h4.output, by have := h4.size; rwa [hsz] at this, fun k hk hn => ?_⟩
    rw [h4.block k (by rw [hsz]; exact hk) (fun hh => hn (.inl hh))]
    exact Below.heap_setCell _ _ _ _ (fun e => hn (.inr e))
  · exact h.it.far fun q h5 h6 => (hD.nF q (.inr (.inl ⟨h5, h6⟩))).2.2.2.2.2
  · exact (hD.nF gu (.inl rfl)).2.2.2.2.2.trans h.box
  · have := (hD.nF (B - 1) (.inr (.inl ⟨by omega, by omega⟩))).2.1
    omega
  · obtain ⟨_, _, h5, h6, h7, _⟩ := hD.nF k hk
    exact ⟨h5, h6, fun e => h7 (Option.some.inj e).symm⟩
end

section
variable {K : Kp} {TL : TypeId} {w0 w w1 : World} {gd gv gl gu b lo B : Nat} {dv : Value} {xs : List Int} {i : Nat} {ps : List (List Int)} {pt : List Int} {mp : Option Nat} {st vv lv : Value} {rows : List Value}
theorem WA.after {vv' lv' : Value} {rows' : List Value} (h : WA K TL w0 w gd gv gl gu b lo B dv xs i ps pt mp st vv lv rows) (hnn : mp ≠ none) (hg : Gat K w0.heap.size w1 gv vv' []) (hr : Rws K TL w0.heap.size w1 gl lv' rows' (ps ++ [pt])) (hk : KeepF (fun k => k = gv ∨ k = gl ∨ lv.ownBlock = some k) w w1)
    (hv : ∀ k, vv'.ownBlock = some k → vv.ownBlock = some k ∨ w.heap.size ≤ k) (hl : ∀ k, lv'.ownBlock = some k → lv.ownBlock = some k ∨ w.heap.size ≤ k)
    (hrr : ∀ v ∈ rows', ∀ k, v.ownBlock = some k → (∃ u ∈ rows, u.ownBlock = some k) ∨ vv.ownBlock = some k ∨ w.heap.size ≤ k) (hrv : ∀ v ∈ rows', ∀ k, v.ownBlock = some k → vv'.ownBlock ≠ some k) (hET : K.E ≠ K.T) :
    WA K TL w0 w1 gd gv gl gu b lo B dv xs i (ps ++ [pt]) [] mp st vv' lv' rows' := by
  have hne := h.ne
  have g0 := h.gd0
  have g1 := h.gv0
  have g2 := h.gl0
  have g3 := h.gu0
  have g4 := h.lo0
  have g5 := h.B0
  have gul := blk_lt h.box
  have hL := h.kp.size
  have lvb : ∀ k, lv.ownBlock = some k → w0.heap.size ≤ k := fun k hk => (h.rws.bound (.inl hk)).1
  have keep : ∀ k, k < w.heap.size → k ≠ gv → k ≠ gl → lv.ownBlock ≠ some k → w1.heap[k]? = w.heap[k]? := fun k a b c d => hk.block k a (by rintro (e | e | e); exact b e; exact c e; exact d e)
  have stk : ∀ k, st.ownBlock = some k → w1.heap[k]? = w.heap[k]? := fun k hk2 => keep k (h.stLt hk2).2 (by have := (h.stLt hk2).1; omega) (by have := (h.stLt hk2).1; omega) (fun e => (h.far k (.inr (.inr (.inl e)))).1 hk2)
  have cls : ∀ k, RF lv' rows' k → RF lv rows k ∨ (vv.ownBlock = some k ∧ lv'.ownBlock ≠ some k) ∨ w.heap.size ≤ k := by
    rintro k (e | ⟨v, hv1, e⟩)
    · rcases hl k e with e2 | e2
      · exact .inl (.inl e2)
      · exact .inr (.inr e2)
    · rcases hrr v hv1 k e with ⟨u, hu, e2⟩ | e2 | e2
      · exact .inl (.inr ⟨u, hu, e2⟩)
      · refine .inr (.inl ⟨e2, fun e3 => ?_⟩)
        obtain ⟨j, hj, rfl⟩ := List.mem_iff_getElem.1 hv1
        obtain ⟨c1, hc1⟩ := own_block (hr.each j hj) e
        obtain ⟨c2, hc2⟩ := own_block hr.own e3
        exact hET (blk_type hc1 hc2)
      · exact .inr (.inr e2)
  refine ⟨h.ok, h.tl, h.stk.stay (keep gd (by omega) hne.2.2 hne.1.symm (fun e => by have := lvb _ e; omega)) stk, fun e => absurd e hnn, fun gm e => ?_, hg, hr, g0, g1, g2, h.ll, ?_, ?_, ?_, g3, g4, Nat.le_trans g5 hk.size, fun k hs hv2 => ?_, fun k hk2 => ?_, fun k hk2 => ?_⟩
  · have hm := h.mLt e
    have := (h.set gm e)
    refine ⟨?_, this.2⟩
    have h6 := this.1.stay (keep gm hm.2 (by omega) (by omega) (fun e2 => (h.far gm (.inr (.inr (.inl e2)))).2.2 e))
    simpa using h6
  · exact h.kp.trans ⟨hk.os, hk.tape, hk.output, hk.size, fun k hk2 hn => hk.block k hk2 (by
      rintro (e | e | e)
      · exact hn (.inl (.inr (.inl e)))
      · exact hn (.inr e)
      · exact hn (.inl (.inr (.inr (lvb k e)))))⟩
  · exact h.it.far fun q h1 h2 => keep q (by omega) (by omega) (by omega) (fun e => by have := h.rit q (.inl e); omega)
  · exact (keep gu gul (by omega) (by omega) (fun e => (h.rit gu (.inl e)).2 rfl)).trans h.box
  · rcases hv k hv2 with e | e
    · exact h.sep k hs e
    · have := (h.stLt hs).2; omega
  · have old : ∀ k, WF gu lo B lv rows k → st.ownBlock ≠ some k ∧ mp ≠ some k ∧ (k < w.heap.size) := fun k hk3 => ⟨(h.far k hk3).1, (h.far k hk3).2.2, by
      rcases hk3 with e | e | e
      · omega
      · omega
      · exact (h.rws.bound e).2⟩
    have vvw : ∀ k, WF gu lo B lv rows k → vv'.ownBlock ≠ some k := fun k hk3 e => by
      rcases hv k e with e2 | e2
      · exact (h.far k hk3).2.1 e2
      · have := (old k hk3).2.2; omega
    rcases hk2 with e | e | e
    · exact ⟨(old k (.inl e)).1, vvw k (.inl e), (old k (.inl e)).2.1⟩
    · exact ⟨(old k (.inr (.inl e))).1, vvw k (.inr (.inl e)), (old k (.inr (.inl e))).2.1⟩
    · rcases cls k e with e2 | ⟨e2, e3⟩ | e2
      · exact ⟨(old k (.inr (.inr e2))).1, vvw k (.inr (.inr e2)), (old k (.inr (.inr e2))).2.1⟩
      · refine ⟨fun e4 => h.sep k e4 e2, fun e4 => ?_, fun e4 => ?_⟩
        · rcases e with e5 | ⟨v, hv1, e5⟩
          · exact e3 e5
          · exact hrv v hv1 k e5 e4
        · obtain ⟨c, hc⟩ := own_block h.gat.own e2
          exact (h.set k e4).1.cells_ne hc rfl
      · refine ⟨fun e4 => by have := (h.stLt e4).2; omega, fun e4 => ?_, fun e4 => by have := (h.mLt e4).2; omega⟩
        rcases e with e5 | ⟨v, hv1, e5⟩
        · obtain ⟨c1, hc1⟩ := own_block hg.own e4
          obtain ⟨c2, hc2⟩ := own_block hr.own e5
          exact hET (blk_type hc1 hc2)
        · exact hrv v hv1 k e5 e4
  · rcases cls k hk2 with e2 | ⟨e2, e3⟩ | e2
    · exact h.rit k e2
    · constructor
      · rcases Nat.lt_or_ge k lo with h1 | h1
        · exact .inl h1
        · rcases Nat.lt_or_ge k B with h2 | h2
          · exact absurd e2 (h.far k (.inr (.inl ⟨h1, h2⟩))).2.1
          · exact .inr h2
      · intro e
        exact (h.far k (.inl e)).2.1 e2
    · exact ⟨.inr (by omega), by omega⟩
end
end Go.Proofs.YtolbfjjgdheikaaGreat.R

/- What a walk through all asks of its object: was a node visited, and the walk from a node that was not. -/
namespace Go.Proofs.YtolbfjjgdheikaaGreat.R
open Go.RowKit Go.Lab Go.Maps Go.Proofs.YtolbfjjgdheikaaGreatW.PrintWords Go.Proofs.YtolbfjjgdheikaaGreatW.PrintLast Go.Proofs.YtolbfjjgdheikaaGreatW.PrintMore PL

theorem nodup_len : ∀ {l xs : List Int}, l.Nodup → (∀ x ∈ l, x ∈ xs) → l.length ≤ xs.length
  | [], _, _, _ => Nat.zero_le _
  | x :: l, xs, hn, hs => by
    have hn' := List.nodup_cons.1 hn
    have h1 := nodup_len (xs := xs.erase x) hn'.2 (fun y hy => (List.mem_erase_of_ne (by rintro rfl; exact hn'.1 hy)).2 (hs y (by simp [hy])))
    have h2 := List.length_erase_of_mem (hs x (by simp))
    have h3 : 0 < xs.length := List.length_pos_of_mem (hs x (by simp))
    simp only [List.length_cons]
    omega

section
variable {K : Kp} {TL : TypeId} {w0 w : World} {gd gv gl gu b lo B : Nat} {dv : Value} {xs : List Int} {i : Nat} {ps : List (List Int)} {pt : List Int} {mp : Option Nat} {st vv lv : Value} {rows : List Value}
theorem WA.visited (h : WA K TL w0 w gd gv gl gu b lo B dv xs i ps [] mp st vv lv rows) (x : Int) (hw : (Lit.int .i64 x).wf = true) :
    Calls Tryz.prog 61 #[.pointer (some ⟨gd, 0, none⟩), .iface 97 (.int .i64 x)] w fun e w' => e = .returned (.bool (decide (x ∈ ps.flatten))) ∧ Below w.heap.size w w' := by
  cases mp with
  | none =>
    have e := (h.new rfl).1
    subst e
    exact visited_none gd x w ((blk_cell h.stk.blk 3).trans rfl) hw
  | some gm =>
    have h1 := (h.set gm rfl).1
    rw [List.append_nil] at h1
    exact visited_some gd gm ps.flatten x w h1 ((blk_cell h.stk.blk 3).trans rfl) hw
theorem WA.walk {base bp : Nat} {zs : List Int} {es : List S34} {p : Pl} (h : WA K TL w0 w gd gv gl gu b lo B dv xs i ps [] mp st vv lv rows) (hE : VEnv K w0 gd gv base bp zs es p) (hU : UntilOk K w0.heap.size gv gu dv) (hl : ps.flatten.length ≤ 100000) (x : Int) (hx : x ∈ zs) (N : Nat) (hN : N ≤ 9000) (r : List Int)
    (hr : dfsV (outN zs es) ps.flatten N [x] [] = some r) :
    Calls Tryz.prog 62 #[.pointer (some ⟨gd, 0, none⟩), .iface 56 (.agg #[.pointer (some ⟨bp, 0, none⟩)]), .iface 97 (.int .i64 x), .func (.func 63) #[] #[.pointer (some ⟨gu, 0, none⟩)]] w fun e w' =>
      e = .returned .nilIface ∧ ∃ gm st' vv', WA K TL w0 w' gd gv gl gu b lo B dv xs i ps r (some gm) st' vv' lv rows := by
  have hsz := setl_size w0 gl lv
  have hE2 := hE.setl h.tl h.ll lv
  have hst := h.stk
  have hga := h.gat
  have hkp := h.kpl
  have hU2 : UntilOk K (w0.setCell ⟨gl, 0, none⟩ lv).heap.size gv gu dv := by rw [hsz]; exact hU
  have hc : w.cell? ⟨gu, 0, none⟩ = some dv := (blk_cell h.box 0).trans rfl
  have hL := h.kp.size
  have nF : ∀ k, WF gu lo B lv rows k → w0.heap.size ≤ k ∧ k < w.heap.size ∧ st.ownBlock ≠ some k ∧ vv.ownBlock ≠ some k := fun k hk => by
    have h1 := h.far k hk
    have h2 := h.gu0
    have h3 := h.lo0
    have h4 := h.B0
    have h5 := blk_lt h.box
    rcases hk with e | e | e
    · exact ⟨by omega, by omega, h1.1, h1.2.1⟩
    · exact ⟨by omega, by omega, h1.1, h1.2.1⟩
    · exact ⟨(h.rws.bound e).1, (h.rws.bound e).2, h1.1, h1.2.1⟩
  cases mp with
  | none =>
    have e := (h.new rfl).1
    have hv0 : ps.flatten = [] := by rw [e]; rfl
    rw [hv0] at hr
    refine (dfsV_first K (WF gu lo B lv rows) (w0.setCell ⟨gl, 0, none⟩ lv) w gd gv gu base bp dv zs es p st vv x N hN r hE2 hU2 (.inl rfl) hc (by rw [hsz]; exact hst) (by rw [hsz]; exact hga) (by rw [hsz]; exact h.gv0) (by rw [hsz]; exact h.gd0) (by rw [hsz]; exact hkp) h.sep (by rw [hsz]; exact nF) hx hr).mono ?_
    rintro e' w' ⟨rfl, st', vv', hD⟩
    exact ⟨rfl, _, st', vv', h.walked (by rw [hv0]; exact hD)⟩
  | some gm =>
    obtain ⟨h1, h2⟩ := h.set gm rfl
    rw [List.append_nil] at h1
    have hD : DV K (WF gu lo B lv rows) (w0.setCell ⟨gl, 0, none⟩ lv) w w gd gv gm st vv [] ps.flatten [] :=
      ⟨h.ok, by rw [hsz]; exact hst, h1, by rw [hsz]; exact h2, by rw [hsz]; exact hga, by rw [hsz]; exact h.gv0, by rw [hsz]; exact h.gd0, by rw [hsz]; exact hkp, h.sep, fun k hk => by
        obtain ⟨a, b, c, d⟩ := nF k hk
        exact ⟨by rw [hsz]; exact a, b, c, d, fun e => (h.far k hk).2.2 (by rw [e]), rfl⟩⟩
    refine (dfsV_next K (WF gu lo B lv rows) (w0.setCell ⟨gl, 0, none⟩ lv) w gd gv gu base bp dv zs es p st vv gm ps.flatten hl x N hN r hE2 hU2 (.inl rfl) hc hD hx hr).mono ?_
    rintro e' w' ⟨rfl, st', vv', hD'⟩
    exact ⟨rfl, _, st', vv', h.walked hD'⟩
end
end Go.Proofs.YtolbfjjgdheikaaGreat.R

/- DepthFirst.WalkAll with ConnectedComponents's functions: the parts are laid down, one after the other. -/
namespace Go.Proofs.YtolbfjjgdheikaaGreat.R
open Go.RowKit Go.Lab Go.Maps Go.Proofs.YtolbfjjgdheikaaGreatW.PrintWords Go.Proofs.YtolbfjjgdheikaaGreatW.PrintLast Go.Proofs.YtolbfjjgdheikaaGreatW.PrintMore PL

end Go.Proofs.YtolbfjjgdheikaaGreat.R
