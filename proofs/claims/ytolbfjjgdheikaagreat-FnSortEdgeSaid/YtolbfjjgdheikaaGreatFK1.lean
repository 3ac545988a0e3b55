import Derived.Test.YtolbfjjgdheikaaGreatFB6
import Derived.Test.YtolbfjjgdheikaaGreatFB7
import Derived.Test.YtolbfjjgdheikaaGreatFB5
set_option linter.unusedVariables false
set_option linter.unusedSimpArgs false
/- The state of one walk of a walk through all: what it gathers, and the blocks that it leaves alone. -/
namespace Go.Proofs.YtolbfjjgdheikaaGreat.R
open Go.RowKit Go.Lab Go.Maps Go.Proofs.YtolbfjjgdheikaaGreatW.PrintWords Go.Proofs.YtolbfjjgdheikaaGreatW.PrintLast Go.Proofs.YtolbfjjgdheikaaGreatW.PrintMore PL

/-- how nodes are kept in a list: as numbers or as nodes -/
structure Kp where
  E : TypeId
  T : TypeId
  val : List Int → List Value
def kpI : Kp := ⟨3, 22, nums .i64⟩
def kpN : Kp := ⟨72, 68, nodeVs⟩
/-- what a list's variable may be: its type is none of the walk's own -/
def Kp.Ok (K : Kp) : Prop := (K.T = 22 ∨ K.T = 68) ∧ (K.E = 3 ∨ K.E = 72)
/-- nodes gathered in a variable -/
structure Gat (K : Kp) (lo : Nat) (w : World) (gv : Nat) (vv : Value) (pt : List Int) : Prop where
  blk : w.heap[gv]? = some (.cells #[vv] K.T (0, 0))
  own : w.ownsRow lo K.E 1 vv pt.length (K.val pt)
theorem Gat.stay {K : Kp} {lo : Nat} {w w1 : World} {gv : Nat} {vv : Value} {pt : List Int} (h : Gat K lo w gv vv pt) (h1 : w1.heap[gv]? = w.heap[gv]?) (h2 : ∀ k, vv.ownBlock = some k → w1.heap[k]? = w.heap[k]?) : Gat K lo w1 gv vv pt :=
  ⟨h1.trans h.blk, own_of_heap h.own h2⟩

/-- the state of a walk: w0: the world at the beginning of all walks, wF: at the beginning of this one, F: the blocks that it leaves alone -/
structure DV (K : Kp) (F : Nat → Prop) (w0 wF w : World) (gd gv gm : Nat) (st vv : Value) (stk vis pt : List Int) : Prop where
  ok : K.Ok
  stk : Stk w0.heap.size w gd .nilFunc .nilFunc (.map (some gm)) st stk
  set : SetOk w gm vis
  gmL : w0.heap.size ≤ gm
  gat : Gat K w0.heap.size w gv vv pt
  gv0 : gv < w0.heap.size
  gd0 : gd < w0.heap.size
  kp : KeepF (WM gd gv w0.heap.size) w0 w
  sep : ∀ k, st.ownBlock = some k → vv.ownBlock ≠ some k
  nF : ∀ k, F k → w0.heap.size ≤ k ∧ k < w.heap.size ∧ st.ownBlock ≠ some k ∧ vv.ownBlock ≠ some k ∧ k ≠ gm ∧ w.heap[k]? = wF.heap[k]?

section
variable {K : Kp} {F : Nat → Prop} {w0 wF w w1 wa : World} {gd gv gm : Nat} {st vv : Value} {stk vis pt : List Int}
theorem DV.L (h : DV K F w0 wF w gd gv gm st vv stk vis pt) : w0.heap.size ≤ w.heap.size := h.kp.size
theorem DV.stLt (h : DV K F w0 wF w gd gv gm st vv stk vis pt) {k : Nat} (hk : st.ownBlock = some k) : k < w.heap.size := by
  obtain ⟨c, hc⟩ := own_block h.stk.own hk; exact blk_lt hc
theorem DV.vvLt (h : DV K F w0 wF w gd gv gm st vv stk vis pt) {k : Nat} (hk : vv.ownBlock = some k) : k < w.heap.size := by
  obtain ⟨c, hc⟩ := own_block h.gat.own hk; exact blk_lt hc
theorem DV.apart (h : DV K F w0 wF w gd gv gm st vv stk vis pt) {k : Nat} (hk : st.ownBlock = some k) : k ≠ gd ∧ k ≠ gv ∧ k ≠ gm ∧ vv.ownBlock ≠ some k := by
  obtain ⟨c, hc⟩ := own_block h.stk.own hk
  refine ⟨fun e => ?_, fun e => ?_, h.set.cells_ne hc, h.sep k hk⟩
  · subst e; exact absurd (blk_type h.stk.blk hc) (by decide)
  · subst e
    have := blk_type h.gat.blk hc
    rcases h.ok.1 with e | e <;> rw [e] at this <;> exact absurd this (by decide)
theorem DV.apartV (h : DV K F w0 wF w gd gv gm st vv stk vis pt) {k : Nat} (hk : vv.ownBlock = some k) : k ≠ gd ∧ k ≠ gv ∧ k ≠ gm ∧ st.ownBlock ≠ some k := by
  obtain ⟨c, hc⟩ := own_block h.gat.own hk
  refine ⟨fun e => ?_, fun e => ?_, h.set.cells_ne hc, fun e => h.sep k e hk⟩
  · subst e
    have := blk_type h.stk.blk hc
    rcases h.ok.2 with e | e <;> rw [e] at this <;> exact absurd this (by decide)
  · subst e
    have := blk_type h.gat.blk hc
    rcases h.ok.1 with e | e <;> rcases h.ok.2 with e2 | e2 <;> rw [e, e2] at this <;> exact absurd this (by decide)
theorem DV.gdm (h : DV K F w0 wF w gd gv gm st vv stk vis pt) : gd ≠ gm ∧ gv ≠ gm ∧ gd ≠ gv :=
  ⟨h.set.cells_ne h.stk.blk, h.set.cells_ne h.gat.blk, fun e => by
    subst e
    have := blk_type h.stk.blk h.gat.blk
    rcases h.ok.1 with e | e <;> rw [e] at this <;> exact absurd this (by decide)⟩

/-- nothing of it is turned -/
theorem DV.stay (h : DV K F w0 wF w gd gv gm st vv stk vis pt) (hk : KeepF (WM gd gv w0.heap.size) w w1) (hd : w1.heap[gd]? = w.heap[gd]?) (hv : w1.heap[gv]? = w.heap[gv]?) (hm : w1.heap[gm]? = w.heap[gm]?)
    (hs : ∀ k, st.ownBlock = some k → w1.heap[k]? = w.heap[k]?) (hvv : ∀ k, vv.ownBlock = some k → w1.heap[k]? = w.heap[k]?) (hF : ∀ k, F k → w1.heap[k]? = w.heap[k]?) : DV K F w0 wF w1 gd gv gm st vv stk vis pt :=
  ⟨h.ok, h.stk.stay hd hs, h.set.stay hm, h.gmL, h.gat.stay hv hvv, h.gv0, h.gd0, h.kp.trans hk, h.sep, fun k hk2 => by
    obtain ⟨a, b, c, d, e, f⟩ := h.nF k hk2
    exact ⟨a, Nat.lt_of_lt_of_le b hk.size, c, d, e, (hF k hk2).trans f⟩⟩
theorem DV.below (h : DV K F w0 wF w gd gv gm st vv stk vis pt) (hb : Below w.heap.size w w1) : DV K F w0 wF w1 gd gv gm st vv stk vis pt :=
  h.stay (KeepF.of_below hb) (hb.block _ (blk_lt h.stk.blk)) (hb.block _ (blk_lt h.gat.blk)) (hb.block _ h.set.lt) (fun k hk => hb.block k (h.stLt hk)) (fun k hk => hb.block k (h.vvLt hk)) (fun k hk => hb.block k (h.nF k hk).2.1)
/-- the iterator goes on -/
theorem DV.mid (h : DV K F w0 wF w gd gv gm st vv stk vis pt) {lo B : Nat} (hm : Mid lo B w w1) (hlo : w0.heap.size ≤ lo) (hgm : gm < lo) (hst : ∀ k, st.ownBlock = some k → k < lo ∨ B ≤ k) (hvv : ∀ k, vv.ownBlock = some k → k < lo) (hF : ∀ k, F k → k < lo) : DV K F w0 wF w1 gd gv gm st vv stk vis pt := by
  have hd := blk_lt h.stk.blk
  have hv := blk_lt h.gat.blk
  have h1 := h.gv0
  have h2 := h.gd0
  refine h.stay ⟨hm.os, hm.tape, hm.output, hm.size, fun k hk hn => hm.block k hk (.inl ?_)⟩ (hm.block _ hd (.inl (by omega))) (hm.block _ hv (.inl (by omega))) (hm.block _ h.set.lt (.inl hgm)) (fun k hk => hm.block k (h.stLt hk) (hst k hk)) (fun k hk => hm.block k (h.vvLt hk) (.inl (hvv k hk))) (fun k hk => hm.block k (h.nF k hk).2.1 (.inl (hF k hk)))
  unfold WM at hn
  omega
/-- a node is taken off the stack -/
theorem DV.pop (h : DV K F w0 wF w gd gv gm st vv stk vis pt) {st' : Value} {ys : List Int} (hs : Stk w0.heap.size w1 gd .nilFunc .nilFunc (.map (some gm)) st' ys) (hb : st'.ownBlock = st.ownBlock) (hg : w.grownBy w1 (some gd)) : DV K F w0 wF w1 gd gv gm st' vv ys vis pt := by
  have hne := h.gdm
  refine ⟨h.ok, hs, h.set.stay (hg.block _ h.set.lt (fun e => hne.1 (Option.some.inj e).symm)), h.gmL, h.gat.stay (hg.block _ (blk_lt h.gat.blk) (fun e => hne.2.2 (Option.some.inj e).symm)) (fun k hk => hg.block k (h.vvLt hk) (fun e => (h.apartV hk).1 (Option.some.inj e))), h.gv0, h.gd0, h.kp.trans (KeepF.of_grown hg (fun k hk => .inl (Option.some.inj hk).symm)), fun k hk => h.sep k (hb ▸ hk), fun k hk => ?_⟩
  obtain ⟨a, b, c, d, e, f⟩ := h.nF k hk
  have := h.gd0
  exact ⟨a, Nat.lt_of_lt_of_le b hg.size, hb ▸ c, d, e, (hg.block k b (fun e2 => by have := Option.some.inj e2; omega)).trans f⟩
/-- a node is put on the stack -/
theorem DV.push (h : DV K F w0 wF w gd gv gm st vv stk vis pt) {st' : Value} {ys : List Int} (hs : Stk w0.heap.size w1 gd .nilFunc .nilFunc (.map (some gm)) st' ys) (h1 : w.grownBy wa st.ownBlock) (h2 : wa.grownBy w1 (some gd)) (hat : st'.ownBlock = st.ownBlock ∨ ∃ q, st'.ownBlock = some q ∧ w.heap.size ≤ q) : DV K F w0 wF w1 gd gv gm st' vv ys vis pt := by
  have hne := h.gdm
  refine ⟨h.ok, hs, h.set.stay (two_turns h1 h2 h.set.lt (fun e => (h.apart e).2.2.1 rfl) (fun e => hne.1 e.symm)), h.gmL, h.gat.stay (two_turns h1 h2 (blk_lt h.gat.blk) (fun e => (h.apart e).2.1 rfl) (fun e => hne.2.2 e.symm)) (fun k hk => two_turns h1 h2 (h.vvLt hk) (fun e => (h.apart e).2.2.2 hk) (h.apartV hk).1), h.gv0, h.gd0, ?_, fun k hk hv => ?_, fun k hk => ?_⟩
  · exact (h.kp.trans (KeepF.of_grown h1 (fun k hk => .inr (.inr (own_base h.stk.own k hk))))).trans (KeepF.of_grown h2 (fun k hk => .inl (Option.some.inj hk).symm))
  · rcases hat with e | ⟨q, e, hq⟩
    · exact h.sep k (e ▸ hk) hv
    · rw [e] at hk
      have := h.vvLt hv
      have := Option.some.inj hk
      omega
  · obtain ⟨a, b, c, d, e, f⟩ := h.nF k hk
    have hgd := h.gd0
    refine ⟨a, Nat.lt_of_lt_of_le b (Nat.le_trans h1.size h2.size), fun e2 => ?_, d, e, (two_turns h1 h2 b c (by omega)).trans f⟩
    rcases hat with e3 | ⟨q, e3, hq⟩
    · exact c (e3 ▸ e2)
    · rw [e3] at e2
      have := Option.some.inj e2
      omega
/-- a node is marked, and gathered -/
theorem DV.visit (h : DV K F w0 wF w gd gv gm st vv stk vis pt) {w2 w3 : World} {vis' pt' : List Int} {vv' : Value} (hs : SetOk w1 gm vis') (hg : w.grownBy w1 (some gm))
    (hv' : Gat K w0.heap.size w3 gv vv' pt') (h1 : w1.grownBy w2 vv.ownBlock) (h2 : w2.grownBy w3 (some gv)) (hat : vv'.ownBlock = vv.ownBlock ∨ ∃ q, vv'.ownBlock = some q ∧ w1.heap.size ≤ q) : DV K F w0 wF w3 gd gv gm st vv' stk vis' pt' := by
  have hne := h.gdm
  have z1 := hg.size
  have bk : ∀ k, k < w.heap.size → k ≠ gm → vv.ownBlock ≠ some k → k ≠ gv → w3.heap[k]? = w.heap[k]? := fun k hk a b c =>
    (two_turns h1 h2 (Nat.lt_of_lt_of_le hk z1) b c).trans (hg.block k hk (fun e => a (Option.some.inj e)))
  refine ⟨h.ok, h.stk.stay (bk _ (blk_lt h.stk.blk) hne.1 (fun e => (h.apartV e).1 rfl) hne.2.2) (fun k hk => bk k (h.stLt hk) (h.apart hk).2.2.1 (h.apart hk).2.2.2 (h.apart hk).2.1), hs.stay (two_turns h1 h2 hs.lt (fun e => (h.apartV e).2.2.1 rfl) (fun e => hne.2.1 e.symm)), h.gmL, hv', h.gv0, h.gd0, ?_, fun k hk hv => ?_, fun k hk => ?_⟩
  · exact ((h.kp.trans (KeepF.of_grown hg (fun k hk => .inr (.inr (by have := h.gmL; have := Option.some.inj hk; omega))))).trans (KeepF.of_grown h1 (fun k hk => .inr (.inr (own_base h.gat.own k hk))))).trans (KeepF.of_grown h2 (fun k hk => .inr (.inl (Option.some.inj hk).symm)))
  · rcases hat with e | ⟨q, e, hq⟩
    · exact h.sep k hk (e ▸ hv)
    · rw [e] at hv
      have := h.stLt hk
      have := Option.some.inj hv
      omega
  · obtain ⟨a, b, c, d, e, f⟩ := h.nF k hk
    have hgv := h.gv0
    refine ⟨a, Nat.lt_of_lt_of_le (Nat.lt_of_lt_of_le b z1) (Nat.le_trans h1.size h2.size), c, fun e2 => ?_, e, (bk k b e d (by omega)).trans f⟩
    rcases hat with e3 | ⟨q, e3, hq⟩
    · exact d (e3 ▸ e2)
    · rw [e3] at e2
      have := Option.some.inj e2
      omega
theorem DV.cells (h : DV K F w0 wF w gd gv gm st vv stk vis pt) : w.cell? ⟨gd, 0, none⟩ = some .nilFunc ∧ w.cell? ⟨gd, 1, none⟩ = some .nilFunc ∧ w.cell? ⟨gd, 3, none⟩ = some (.map (some gm)) :=
  ⟨(blk_cell h.stk.blk 0).trans rfl, (blk_cell h.stk.blk 1).trans rfl, (blk_cell h.stk.blk 3).trans rfl⟩
end
end Go.Proofs.YtolbfjjgdheikaaGreat.R

/- One walk depth first inside a walk through all. -/
namespace Go.Proofs.YtolbfjjgdheikaaGreat.R
open Go.RowKit Go.Lab Go.Maps Go.Proofs.YtolbfjjgdheikaaGreatW.PrintWords Go.Proofs.YtolbfjjgdheikaaGreatW.PrintLast Go.Proofs.YtolbfjjgdheikaaGreatW.PrintMore PL

theorem vnU (gu : Nat) (w : World) : (binOp .neq 119 (.func (.func 63) #[] #[.pointer (some ⟨gu, 0, none⟩)]) .nilFunc).run Tryz.prog w = .ok (.bool true) w := by kernel_rfl
theorem vnV (w : World) : (binOp .neq 74 .nilFunc .nilFunc).run Tryz.prog w = .ok (.bool false) w := by kernel_rfl
theorem vnT (w : World) : (binOp .neq 75 .nilFunc .nilFunc).run Tryz.prog w = .ok (.bool false) w := by kernel_rfl
theorem mapNil' (w : World) : (binOp .eql 78 (.map none) (.map none)).run Tryz.prog w = .ok (.bool true) w := by kernel_rfl
theorem mapSome' (g : Nat) (w : World) : (binOp .eql 78 (.map (some g)) (.map none)).run Tryz.prog w = .ok (.bool false) w := by kernel_rfl
theorem run_map78 (w : World) : (Instr.makeMap 78 none).run Tryz.prog w = .ok (.map (some w.heap.size)) (w.alloc (.map #[] 0)) := by
  simp [Instr.makeMap, run_underlying Tryz.underlying78]
theorem meth_UFrom2 (a : Addr) (w : World) : (method 363 56 (.agg #[.pointer (some a)]) "From").run Tryz.prog w = .ok (185, .agg #[.pointer (some a)]) w := by kernel_rfl

theorem outN_len (zs : List Int) (es : List S34) (u : Int) : (outN zs es u).length ≤ zs.length := by
  unfold outN
  exact Nat.le_trans (List.length_filter_le _ _) (by rw [srt_length]; exact Nat.le_refl _)
theorem outN_mem {zs : List Int} {es : List S34} {u v : Int} (h : v ∈ outN zs es u) : v ∈ zs ∧ (arcW es u v).isSome = true := by
  unfold outN at h
  obtain ⟨h1, h2⟩ := List.mem_filter.1 h
  exact ⟨(mem_srt _ _).1 h1, h2⟩

/-- what is done at each node of a walk: it is gathered -/
def UntilOk (K : Kp) (lo gv gu : Nat) (dv : Value) : Prop := ∀ (w : World) (vv : Value) (pt : List Int) (x : Int), Gat K lo w gv vv pt → pt.length ≤ 10000000 → lo ≤ w.heap.size → w.cell? ⟨gu, 0, none⟩ = some dv →
  Calls Tryz.prog 63 #[.iface 97 (.int .i64 x), .pointer (some ⟨gu, 0, none⟩)] w fun e w' => e = .returned (.bool false) ∧ ∃ vv' w1, Gat K lo w' gv vv' (pt ++ [x]) ∧ w.grownBy w1 vv.ownBlock ∧ w1.grownBy w' (some gv) ∧ (vv'.ownBlock = vv.ownBlock ∨ ∃ q, vv'.ownBlock = some q ∧ w.heap.size ≤ q)

/-- what the walks read, in the world at the beginning of all -/
structure VEnv (K : Kp) (w0 : World) (gd gv base bp : Nat) (zs : List Int) (es : List S34) (p : Pl) : Prop where
  gr : GrOk w0 base bp zs es p
  ok : K.Ok
  hd : ∃ cs, w0.heap[gd]? = some (.cells cs 80 (0, 0))
  hv : ∃ cs, w0.heap[gv]? = some (.cells cs K.T (0, 0))
  wf : ∀ x ∈ zs, (Lit.int .i64 x).wf = true
theorem VEnv.to {K : Kp} {w0 w : World} {gd gv base bp : Nat} {zs : List Int} {es : List S34} {p : Pl} (h : VEnv K w0 gd gv base bp zs es p) (hk : KeepF (WM gd gv w0.heap.size) w0 w) : GrOk w base bp zs es p := by
  refine ⟨h.gr.ok.kinds fun k cc tt hkk ht => hk.block k (blk_lt hkk) (fun hm => ?_), h.gr.good, h.gr.adj, h.gr.hs, h.gr.hn⟩
  obtain ⟨c1, hd⟩ := h.hd
  obtain ⟨c2, hv⟩ := h.hv
  rcases hm with e | e | e
  · subst e
    have := blk_type hkk hd
    exact absurd this (by rcases ht with rfl | rfl | rfl | rfl <;> decide)
  · subst e
    have := blk_type hkk hv
    rcases h.ok.1 with e | e <;> rw [e] at this <;> exact absurd this (by rcases ht with rfl | rfl | rfl | rfl <;> decide)
  · have := blk_lt hkk
    omega

/-- a walk's object with its new map -/
theorem DV.first {K : Kp} {F : Nat → Prop} {w0 wF : World} {gd gv : Nat} {st vv : Value} (ok : K.Ok) (hs : Stk w0.heap.size wF gd .nilFunc .nilFunc (.map none) st []) (hg : Gat K w0.heap.size wF gv vv []) (gv0 : gv < w0.heap.size) (gd0 : gd < w0.heap.size) (kp : KeepF (WM gd gv w0.heap.size) w0 wF)
    (sep : ∀ k, st.ownBlock = some k → vv.ownBlock ≠ some k) (nF : ∀ k, F k → w0.heap.size ≤ k ∧ k < wF.heap.size ∧ st.ownBlock ≠ some k ∧ vv.ownBlock ≠ some k) :
    DV K F w0 wF ((wF.setCell ⟨gd, 3, none⟩ (.map (some wF.heap.size))).alloc (.map #[] 0)) gd gv wF.heap.size st vv [] [] [] := by
  have hsz : (wF.setCell ⟨gd, 3, none⟩ (.map (some wF.heap.size))).heap.size = wF.heap.size := by simp
  have hm := SetOk.made (wF.setCell ⟨gd, 3, none⟩ (.map (some wF.heap.size)))
  rw [hsz] at hm
  have hL := kp.size
  have keep : ∀ k, k < wF.heap.size → k ≠ gd → ((wF.setCell ⟨gd, 3, none⟩ (.map (some wF.heap.size))).alloc (.map #[] 0)).heap[k]? = wF.heap[k]? := fun k hk hne => by
    rw [Below.heap_alloc _ _ _ (by rw [hsz]; exact hk)]
    exact Below.heap_setCell _ _ _ _ hne
  have hnegv : gv ≠ gd := fun e => by
    subst e
    have := blk_type hs.blk hg.blk
    rcases ok.1 with e | e <;> rw [e] at this <;> exact absurd this (by decide)
  have stne : ∀ k, st.ownBlock = some k → k < wF.heap.size ∧ k ≠ gd := fun k hk => by
    obtain ⟨c, hc⟩ := own_block hs.own hk
    exact ⟨blk_lt hc, fun e => by subst e; exact absurd (blk_type hs.blk hc) (by decide)⟩
  have vvne : ∀ k, vv.ownBlock = some k → k < wF.heap.size ∧ k ≠ gd := fun k hk => by
    obtain ⟨c, hc⟩ := own_block hg.own hk
    refine ⟨blk_lt hc, fun e => ?_⟩
    subst e
    have := blk_type hs.blk hc
    rcases ok.2 with e | e <;> rw [e] at this <;> exact absurd this (by decide)
  refine ⟨ok, ⟨blk_alloc (blk_put (cs := #[.nilFunc, .nilFunc, st, .map none]) hs.blk 3 _ rfl) _, own_of_heap hs.own fun k hk => keep k (stne k hk).1 (stne k hk).2⟩, hm, hL, ⟨(keep gv (blk_lt hg.blk) hnegv).trans hg.blk, own_of_heap hg.own fun k hk => keep k (vvne k hk).1 (vvne k hk).2⟩, gv0, gd0, ?_, sep, fun k hk => ?_⟩
  · exact (kp.trans (KeepF.of_grown (grown_set wF gd 3 _) (fun k hk => .inl (Option.some.inj hk).symm))).trans (KeepF.of_grown (World.grownBy_alloc _ _ none) (fun k hk => by cases hk))
  · obtain ⟨a, b, c, d⟩ := nF k hk
    exact ⟨a, by simp; omega, c, d, by omega, keep k b (by omega)⟩

/-- what a walk leaves -/
def VEnd (K : Kp) (F : Nat → Prop) (w0 wF w' : World) (gd gv gm : Nat) (v0 pt : List Int) : Prop := ∃ st vv, DV K F w0 wF w' gd gv gm st vv [] (v0 ++ pt) pt
/-- the walk's state ahead of a round, with the rounds that are left -/
def DvI (K : Kp) (F : Nat → Prop) (w0 wF w : World) (gd gv gm : Nat) (adj : Int → List Int) (zs v0 : List Int) (N : Nat) (r : List Int) (kq : Nat) : Prop :=
  ∃ st vv stk pt, DV K F w0 wF w gd gv gm st vv stk (v0 ++ pt) pt ∧ dfsV adj v0 kq stk pt = some r ∧ stk.length ≤ 1 + 1000 * (N - kq) ∧ pt.length ≤ N - kq ∧ kq ≤ N ∧ ∀ x ∈ stk, x ∈ zs
/-- inside a round: the neighbours are gone through -/
def VnI (K : Kp) (F : Nat → Prop) (w0 wF wr : World) (gd gv gm : Nat) (vv : Value) (lo B b : Nat) (nb : List Int) (s vis pt : List Int) : Prop :=
  ∃ (k : Nat) (st' : Value), k ≤ nb.length ∧ OIt lo B wr b nb k ∧ DV K F w0 wF wr gd gv gm st' vv (s ++ nb.take k) vis pt ∧ (∀ q, st'.ownBlock = some q → q < lo ∨ B ≤ q) ∧ B ≤ wr.heap.size

set_option maxHeartbeats 16000000 in
set_option maxRecDepth 100000 in
theorem dfsV_next (K : Kp) (F : Nat → Prop) (w0 wF : World) (gd gv gu base bp : Nat) (dv : Value) (zs : List Int) (es : List S34) (p : Pl) (st vv : Value) (gm : Nat) (v0 : List Int) (hv0 : v0.length ≤ 100000) (s0 : Int) (N : Nat) (hN : N ≤ 9000) (r : List Int)
    (h : VEnv K w0 gd gv base bp zs es p) (hU : UntilOk K w0.heap.size gv gu dv) (hFu : F gu) (hdv : wF.cell? ⟨gu, 0, none⟩ = some dv)
    (hD : DV K F w0 wF wF gd gv gm st vv [] v0 [])
    (hs0 : s0 ∈ zs) (hr : dfsV (outN zs es) v0 N [s0] [] = some r) :
    Calls Tryz.prog 62 #[.pointer (some ⟨gd, 0, none⟩), .iface 56 (.agg #[.pointer (some ⟨bp, 0, none⟩)]), .iface 97 (.int .i64 s0), .func (.func 63) #[] #[.pointer (some ⟨gu, 0, none⟩)]] wF fun e w' =>
      e = .returned .nilIface ∧ VEnd K F w0 wF w' gd gv gm v0 r := by
  have HE := Aside0.mk h
  have HU := Aside0.mk hU
  have hnn := h.gr.hn
  have HDV : Aside0 (∀ w' : World, w'.heap[gu]? = wF.heap[gu]? → w'.cell? ⟨gu, 0, none⟩ = some dv) := ⟨fun w' e => (World.cell?_of_block e).trans hdv⟩
  have HFU := Aside0.mk hFu
  have HS := Aside0.mk hD
  have e3 : wF.cell? ⟨gd, 3, none⟩ = some (.map (some gm)) := (blk_cell hD.stk.blk 3).trans rfl
  have f3 := blk_frozen hD.stk.blk 3
  have hgl := blk_lt hD.stk.blk
  have kM := mapSome' gm
  have mF := meth_UFrom2 ⟨bp, 0, none⟩
  have kU := vnU gu
  have kV := vnV
  have kT := vnT
  have HR := Aside0.mk hr
  have HS0 := Aside0.mk hs0
  clear h hU hFu hdv hr hs0
  clear hD
  go_enter Tryz.func62, Tryz.ntmps62
  go_wp2_with (go_at_call 96; refine (spush_any w0.heap.size gd .nilFunc .nilFunc (.map (some gm)) st [] s0 _ HS.out.stk (by simp) HS.out.L).mono ?_; rintro e w1 ⟨rfl, st1, wa, hs1, hg1, hg2, hat⟩; have HD := Aside0.mk (HS.out.push hs1 hg1 hg2 hat); clear hs1 hg1 hg2 hat)
  have HI := Aside0.mk (show DvI K F w0 wF w1 gd gv gm (outN zs es) zs v0 N r N from ⟨st1, _, [s0], [], by simpa using HD.out, HR.out, by simp, by simp, Nat.le_refl _, fun x hx => by simp at hx; subst hx; exact HS0.out⟩)
  clear HD e3 f3
  go_loopg [9] N (fun kq v9 w' => Aside0 (DvI K F w0 wF w' gd gv gm (outN zs es) zs v0 N r kq))
  case atStart => exact HI
  case round =>
    clear HI HS HR HS0
    obtain ⟨st, vv, stk, pt, hD, hr, hl1, hl2, hkq, hz⟩ := hrel.out
    cases gk with
    | zero => exact absurd hr (by simp [dfsV])
    | succ k1 =>
      have HD := Aside0.mk hD
      rcases nil_or_snoc stk with rfl | ⟨s, u, rfl⟩
      · rw [dfsV_nil] at hr
        obtain rfl := Option.some.inj hr
        clear hrel hr hl1 hl2 hkq hz hD
        go_wp2_with (go_at_call 97; refine (slen_any _ gd _ _ _ _ [] _ HD.out.stk).mono ?_; rintro e w2 ⟨rfl, rfl⟩)
        go_ret
        exact ⟨rfl, _, _, HD.out⟩
      · rw [dfsV_snoc] at hr
        have hlen : (s ++ [u]).length = s.length + 1 := by simp
        rw [hlen] at hl1
        have HN := Aside0.mk hlen
        have HW := Aside0.mk (HE.out.wf u (hz u (by simp)))
        have HUZ := Aside0.mk (hz u (by simp))
        have HZ := Aside0.mk (show ∀ x ∈ s, x ∈ zs from fun x hx => hz x (by simp [hx]))
        have m1 := meth_ID u
        have HL := Aside0.mk (And.intro hl1 (And.intro hl2 hkq))
        have hsb : s.length ≤ 10000000 := by omega
        have hvb : (v0 ++ pt).length ≤ 10000000 := by rw [List.length_append]; (try simp only [List.length_nil]); omega
        have hq2 := (blk_cell hD.stk.blk 2).trans (rfl : _ = some st)
        clear hlen hz hl1 hl2 hkq hrel hD
        by_cases hm : u ∈ v0 ++ pt
        · rw [if_pos hm] at hr
          have HR := Aside0.mk hr
          have hd : decide (u ∈ v0 ++ pt) = true := decide_eq_true hm
          clear hr hm
          go_wp2_with (first
            | (go_at_call 97; refine (slen_any _ gd _ _ _ _ (s ++ [u]) _ HD.out.stk).mono ?_; rintro e w2 ⟨rfl, rfl⟩; rw [HN.out])
            | (go_at_call 98; refine (spop_any _ gd _ _ _ _ s u _ HD.out.stk hsb).mono ?_; rintro e w2 ⟨rfl, st2, hs2, hb2, hg2⟩; have HD2 := Aside0.mk (HD.out.pop hs2 hb2 hg2); obtain ⟨q0, q1, q3⟩ := HD2.out.cells; clear hs2 hb2 hg2)
            | (go_at_call 202; refine (nodeID_any u _).mono ?_; rintro e w3 ⟨rfl, rfl⟩)
            | (go_at_call 95; refine (has_any _ (v0 ++ pt) u _ HD2.out.set HW.out).mono ?_; rintro e w3 ⟨rfl, hb3⟩; have HD3 := Aside0.mk (HD2.out.below hb3); clear hb3; rw [hd]))
          go_roundg k1
          case measure => omega
          case rel => exact ⟨st2, vv, s, pt, HD3.out, HR.out, by have := HL.out; omega, by have := HL.out; omega, by have := HL.out; omega, HZ.out⟩
        · rw [if_neg hm] at hr
          have hd : decide (u ∈ v0 ++ pt) = false := decide_eq_false hm
          have HR := Aside0.mk hr
          have hpb : pt.length ≤ 10000000 := by have := HL.out; omega
          clear hr hm
          go_wp2_with (first
            | (go_at_call 97; refine (slen_any _ gd _ _ _ _ (s ++ [u]) _ HD.out.stk).mono ?_; rintro e w2 ⟨rfl, rfl⟩; rw [HN.out])
            | (go_at_call 98; refine (spop_any _ gd _ _ _ _ s u _ HD.out.stk hsb).mono ?_; rintro e w2 ⟨rfl, st2, hs2, hb2, hg2⟩; have HD2 := Aside0.mk (HD.out.pop hs2 hb2 hg2); obtain ⟨q0, q1, q3⟩ := HD2.out.cells; clear hs2 hb2 hg2)
            | (go_at_call 202; refine (nodeID_any u _).mono ?_; rintro e w3 ⟨rfl, rfl⟩)
            | (go_at_call 95; refine (has_any _ (v0 ++ pt) u _ HD2.out.set HW.out).mono ?_; rintro e w3 ⟨rfl, hb3⟩; have HD3 := Aside0.mk (HD2.out.below hb3); obtain ⟨q0, q1, q3⟩ := HD3.out.cells; clear hb3; rw [hd])
            | (go_at_call 99; refine (add_any _ (v0 ++ pt) u _ HD3.out.set HW.out hvb).mono ?_; rintro e w4 ⟨rfl, hs4, hg4⟩; have HA := Aside0.mk (And.intro hs4 hg4); have q0 := (World.cell?_of_block (hg4.block gd (blk_lt HD3.out.stk.blk) (fun e => HD3.out.gdm.1 (Option.some.inj e)))).trans q0; clear hs4 hg4)
            | (go_at_call 63; refine (HU.out w4 vv pt u (HD3.out.gat.stay (HA.out.2.block _ (blk_lt HD3.out.gat.blk) (fun e => HD3.out.gdm.2.1 (Option.some.inj e))) (fun k hk => HA.out.2.block k (HD3.out.vvLt hk) (fun e => (HD3.out.apartV hk).2.2.1 (Option.some.inj e)))) hpb (Nat.le_trans HD3.out.L HA.out.2.size) (HDV.out w4 ((HA.out.2.block gu (HD3.out.nF gu HFU.out).2.1 (fun e => (HD3.out.nF gu HFU.out).2.2.2.2.1 (Option.some.inj e))).trans (HD3.out.nF gu HFU.out).2.2.2.2.2))).mono ?_; rintro e w6 ⟨rfl, vv5, wb, hv5, hg5, hg5', hat5⟩; have HD6 := Aside0.mk (HD3.out.visit HA.out.1 HA.out.2 hv5 hg5 hg5' hat5); clear hv5 hg5 hg5' hat5)
            | (go_at_call 185; refine (gFromU base bp zs es p u _ (HE.out.to HD6.out.kp) HUZ.out).mono ?_; rintro e w7 ⟨b, rfl, hit, hb7⟩; have HD7 := Aside0.mk (HD6.out.below hb7); have HIT := Aside0.mk hit; have HB7 := Aside0.mk hb7; clear hit hb7))
          obtain ⟨nb, hnb⟩ : ∃ nb, outN zs es u = nb := ⟨_, rfl⟩
          rw [hnb] at HIT
          have HNB := Aside0.mk hnb
          have hnl : nb.length ≤ 1000 := by rw [← hnb]; exact Nat.le_trans (outN_len zs es u) hnn
          clear hnb
          have HLO := Aside0.mk (show w0.heap.size ≤ w6.heap.size ∧ gm < w6.heap.size ∧ (∀ k, vv5.ownBlock = some k → k < w6.heap.size) ∧ (∀ k, F k → k < w6.heap.size) from ⟨HD6.out.L, HD6.out.set.lt, fun k hk => HD6.out.vvLt hk, fun k hk => (HD6.out.nF k hk).2.1⟩)
          have HI2 := Aside0.mk (show VnI K F w0 wF w7 gd gv gm vv5 w6.heap.size w7.heap.size b nb s (v0 ++ pt ++ [u]) (pt ++ [u]) from ⟨0, st2, Nat.zero_le _, HIT.out, by simpa using HD7.out, fun q hq => .inl (HD6.out.stLt hq), Nat.le_refl _⟩)
          have n1 := meth_ONext ⟨b, 0, none⟩
          have n2 := meth_ONode ⟨b, 0, none⟩
          clear HD HD2 HD3 HA HD7 HIT HB7 HD6
          generalize w6.heap.size = lo at HI2 HLO
          generalize w7.heap.size = B at HI2
          go_loopw [12] (fun _ wr => Aside0 (VnI K F w0 wF wr gd gv gm vv5 lo B b nb s (v0 ++ pt ++ [u]) (pt ++ [u]))) (fun _ wr => nb.length + 2 - posI wr b)
          case atStart => exact HI2
          case round =>
            clear HI2
            obtain ⟨k, st3, hk, hO, hD, hst, hB⟩ := hrel.out
            have HO := Aside0.mk hO
            have HD8 := Aside0.mk hD
            have HST := Aside0.mk hst
            have HB := Aside0.mk hB
            have hpos := hO.pos
            have HPOS := Aside0.mk hpos
            have hkk := hk
            clear hrel hO hD hst hB hk hpos
            by_cases hlt : k < nb.length
            · have hdk : decide (k < nb.length) = true := decide_eq_true hlt
              obtain ⟨v, hv⟩ : ∃ v, nb[k] = v := ⟨_, rfl⟩
              have HV := Aside0.mk hv
              have m2 := meth_ID v
              have htk : nb.take (k + 1) = nb.take k ++ [v] := by rw [← hv]; exact List.take_succ_eq_append_getElem hlt
              have HTK := Aside0.mk htk
              have hfl : (nb.take k).length ≤ 1000 := by rw [List.length_take]; omega
              have HFL := Aside0.mk hfl
              clear hv htk hfl
              go_wp2_with (first
                | (go_at_call 217; refine (next_any lo B b k nb _ HO.out (by omega)).mono ?_; rintro e wn ⟨rfl, hO1, hM1⟩; rw [hdk]; rw [if_pos hlt] at hO1; have HO1 := Aside0.mk hO1; have HD9 := Aside0.mk (HD8.out.mid hM1 HLO.out.1 HLO.out.2.1 HST.out HLO.out.2.2.1 HLO.out.2.2.2); have HS9 := Aside0.mk hM1.size; clear hO1 hM1)
                | (go_at_call 218; refine (nodeI_q lo B b k nb _ HO1.out hlt (by omega)).mono ?_; rintro e wq ⟨rfl, nq, hwq⟩; rw [HV.out]; have HO2 := Aside0.mk (show OIt lo B wq b nb (k + 1) by subst hwq; exact HO1.out.far (fun _ _ _ => rfl)); have HS10 := Aside0.mk (show wn.heap.size ≤ wq.heap.size by subst hwq; exact Nat.le_refl _); have HD10 := Aside0.mk (HD9.out.below (show Below wn.heap.size wn wq by subst hwq; exact pw_below_drewN (Below.refl _ _) nq)); clear hwq)
                | (go_at_call 202; refine (nodeID_any v _).mono ?_; rintro e wi ⟨rfl, rfl⟩))
              obtain ⟨q0, q1, q3⟩ := HD10.out.cells
              go_quiet (fail)
              have HBQ := Aside0.mk (show Below wq.heap.size wq (wq.drewN nq) from pw_below_drewN (Below.refl _ _) nq)
              have HD11 := Aside0.mk (HD10.out.below HBQ.out)
              have HO3 := Aside0.mk (HO2.out.far (fun q hq1 hq2 => HBQ.out.block q (by have := HB.out; have := HS9.out; have := HS10.out; omega)))
              have HS11 := Aside0.mk (Nat.le_trans HB.out (Nat.le_trans HS9.out HS10.out))
              go_wp2_with (go_at_call 96; refine (spush_any w0.heap.size gd .nilFunc .nilFunc (.map (some gm)) st3 _ v _ HD11.out.stk (by have := HFL.out; have := HL.out; rw [List.length_append]; omega) HD11.out.L).mono ?_; rintro e w10 ⟨rfl, st4, wc, hs4, hg4, hg5, hat⟩; have HD12 := Aside0.mk (HD11.out.push hs4 hg4 hg5 hat); have HG := Aside0.mk (And.intro hg4 (And.intro hg5 hat)); clear hs4 hg4 hg5 hat)
              go_roundw
              case rel =>
                have hOn : OIt lo B w10 b nb (k + 1) := HO3.out.far (fun q hq1 hq2 => two_turns HG.out.1 HG.out.2.1 (by have := HS11.out; simp at *; omega) (fun e => by have := HST.out q e; omega) (by have := HD11.out.gd0; have := HLO.out.1; omega))
                have hsz : wq.heap.size ≤ w10.heap.size := Nat.le_trans HG.out.1.size HG.out.2.1.size
                refine ⟨⟨k + 1, st4, by omega, hOn, ?_, fun q hq => ?_, Nat.le_trans HS11.out hsz⟩⟩
                · have := HD12.out
                  rw [List.append_assoc] at this
                  rw [HTK.out]
                  exact this
                · rcases HG.out.2.2 with h1 | ⟨q', h1, h2⟩
                  · rw [h1] at hq; exact HST.out q hq
                  · rw [h1] at hq
                    have := Option.some.inj hq
                    have := HS11.out
                    simp at h2
                    omega
              case measure =>
                have hOn : OIt lo B w10 b nb (k + 1) := HO3.out.far (fun q hq1 hq2 => two_turns HG.out.1 HG.out.2.1 (by have := HS11.out; simp at *; omega) (fun e => by have := HST.out q e; omega) (by have := HD11.out.gd0; have := HLO.out.1; omega))
                rw [hOn.pos, HPOS.out]; omega
            · have hke : k = nb.length := by omega
              have hdk : decide (k < nb.length) = false := decide_eq_false hlt
              go_wp2_with (go_at_call 217; refine (next_any lo B b k nb _ HO.out (by omega)).mono ?_; rintro e wn ⟨rfl, hO1, hM1⟩; rw [hdk]; have HD9 := Aside0.mk (HD8.out.mid hM1 HLO.out.1 HLO.out.2.1 HST.out HLO.out.2.2.1 HLO.out.2.2.2); clear hO1 hM1)
              go_roundg k1
              case measure => omega
              case rel =>
                have hD9 := HD9.out
                rw [hke, List.take_length, ← HNB.out, List.append_assoc] at hD9
                have hal : (outN zs es u).length ≤ 1000 := by rw [HNB.out]; exact hnl
                refine ⟨⟨st3, vv5, _, _, hD9, HR.out, ?_, ?_, ?_, fun x hx => ?_⟩⟩
                · rw [List.length_append]; have := HL.out; omega
                · rw [List.length_append, List.length_singleton]; have := HL.out; omega
                · have := HL.out; omega
                · rcases List.mem_append.1 hx with hx | hx
                  · exact HZ.out x hx
                  · exact (outN_mem hx).1
end Go.Proofs.YtolbfjjgdheikaaGreat.R
