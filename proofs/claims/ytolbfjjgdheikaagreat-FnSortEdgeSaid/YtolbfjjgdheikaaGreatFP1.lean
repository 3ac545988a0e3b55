import Derived.Test.YtolbfjjgdheikaaGreatFTJ
import Derived.Test.YtolbfjjgdheikaaGreatFK8
import Derived.Test.YtolbfjjgdheikaaGreatFX3
import Derived.Test.YtolbfjjgdheikaaGreatFB2
set_option linter.unusedVariables false
set_option linter.unusedSimpArgs false
/- The successors of a node, as the closure that Tarjan's object holds tells them. -/
namespace Go.Proofs.YtolbfjjgdheikaaGreat.R
open Go.RowKit Go.Lab Go.Maps Go.Proofs.YtolbfjjgdheikaaGreatW.PrintWords Go.Proofs.YtolbfjjgdheikaaGreatW.PrintLast Go.Proofs.YtolbfjjgdheikaaGreatW.PrintMore PL

theorem meth_DFrom (a : Addr) (w : World) : (method 363 64 (.agg #[.pointer (some a)]) "From").run Tryz.prog w = .ok (197, .agg #[.pointer (some a)]) w := by kernel_rfl
theorem meth_DNodes (a : Addr) (w : World) : (method 363 64 (.agg #[.pointer (some a)]) "Nodes").run Tryz.prog w = .ok (201, .agg #[.pointer (some a)]) w := by kernel_rfl
/-- the graph stands, and the box that names it -/
structure GEnv (wE : World) (gb base bp : Nat) (zs : List Int) (es : List S34) (p : Pl) (w : World) : Prop where
  gr : GrOk wE base bp zs es p
  old : ∀ k, k < wE.heap.size → w.heap[k]? = wE.heap[k]?
  box : w.heap[gb]? = some (.cells #[.iface 64 (.agg #[.pointer (some ⟨bp, 0, none⟩)])] 108 (0, 0))
theorem GEnv.now {wE w : World} {gb base bp : Nat} {zs : List Int} {es : List S34} {p : Pl} (h : GEnv wE gb base bp zs es p w) : GrOk w base bp zs es p :=
  ⟨h.gr.ok.kinds (fun k c t hk _ => h.old k (blk_lt hk)), h.gr.good, h.gr.adj, h.gr.hs, h.gr.hn⟩

set_option maxHeartbeats 4000000 in
set_option maxRecDepth 100000 in
theorem succ80_any (wE : World) (gb base bp : Nat) (zs : List Int) (es : List S34) (p : Pl) (w : World) (v : Int) (h : GEnv wE gb base bp zs es p w) (hv : v ∈ zs) :
    Calls Tryz.prog 80 #[.int .i64 v, .pointer (some ⟨gb, 0, none⟩)] w fun e w' => ∃ vv, e = .returned vv ∧ w'.ownsRow w.heap.size 72 1 vv (outN zs es v).length (nodeVs (outN zs es v)) ∧ Below w.heap.size w w' := by
  have hn := h.gr.hn
  have hl : (outN zs es v).length ≤ 100000 := by have h1 := outN_len zs es v; omega
  have HG := Aside0.mk h.now
  have c0 : w.cell? ⟨gb, 0, none⟩ = some (.iface 64 (.agg #[.pointer (some ⟨bp, 0, none⟩)])) := (blk_cell h.box 0).trans rfl
  have m1 := meth_DFrom ⟨bp, 0, none⟩
  clear h hn
  go_enter Tryz.func80, Tryz.ntmps80
  go_wp2_with (first
    | (go_at_call 197; refine (gFromD base bp zs es p v _ HG.out hv).mono ?_; rintro e w1 ⟨b, rfl, hit, hbel⟩; have H1 := Aside0.mk (And.intro hit hbel); clear hit hbel)
    | (go_at_call 79; refine (nodesOf_any _ _ b (outN zs es v) _ H1.out.1 hl).mono ?_; rintro e w2 ⟨vv, rfl, h1, h2, h3⟩; have H2 := Aside0.mk (And.intro h1 (And.intro h2 h3)); clear h1 h2 h3))
  go_ret
  exact ⟨vv, rfl, H2.out.1, H1.out.2.trans (H2.out.2.2.below H1.out.2.size)⟩
end Go.Proofs.YtolbfjjgdheikaaGreat.R

/- topo.PathExistsIn: a walk breadth first that ends at a node: its state, and the plain walk. -/
namespace Go.Proofs.YtolbfjjgdheikaaGreat.R
open Go.RowKit Go.Lab Go.Maps Go.Proofs.YtolbfjjgdheikaaGreatW.PrintWords Go.Proofs.YtolbfjjgdheikaaGreatW.PrintLast Go.Proofs.YtolbfjjgdheikaaGreatW.PrintMore PL

/-- breadth first till a node is met -/
def bfsT (adj : Int → List Int) (t : Int) : Nat → List Int → List Int → Option Bool
  | 0, _, _ => none
  | _ + 1, [], _ => some false
  | k + 1, u :: q, pt => if u = t then some true else bfsT adj t k (newQ (pt ++ [u]) (adj u) q) (pt ++ [u])
theorem bfsT_found (adj : Int → List Int) (t s0 : Int) : ∀ (k : Nat) (q pt : List Int), (∀ x ∈ q, RchW adj s0 x) → bfsT adj t k q pt = some true → RchW adj s0 t := by
  intro k
  induction k with
  | zero => intro q pt _ h; simp [bfsT] at h
  | succ k ih =>
    intro q pt hq h
    cases q with
    | nil => simp [bfsT] at h
    | cons u q =>
      rw [bfsT] at h
      by_cases e : u = t
      · rw [← e]; exact hq u (by simp)
      · rw [if_neg e] at h
        refine ih _ _ (fun x hx => ?_) h
        rcases (newQ_mem _ _ _ x).1 hx with h1 | ⟨h1, _⟩
        · exact hq x (by simp [h1])
        · exact (hq u (by simp)).step h1
theorem bfsT_not (adj : Int → List Int) (t : Int) : ∀ (k : Nat) (q pt : List Int), t ∉ pt → bfsT adj t k q pt = some false → ∃ r, bfsV adj [] k q pt = some r ∧ t ∉ r := by
  intro k
  induction k with
  | zero => intro q pt _ h; simp [bfsT] at h
  | succ k ih =>
    intro q pt hp h
    cases q with
    | nil => exact ⟨pt, rfl, hp⟩
    | cons u q =>
      rw [bfsT] at h
      by_cases e : u = t
      · rw [if_pos e] at h; simp at h
      · rw [if_neg e] at h
        obtain ⟨r, h1, h2⟩ := ih _ _ (by simp [hp]; exact fun e2 => e e2.symm) h
        exact ⟨r, by rw [bfsV, List.nil_append]; exact h1, h2⟩
theorem bfsT_ends (adj : Int → List Int) (t : Int) : ∀ (k : Nat) (q pt r : List Int), bfsV adj [] k q pt = some r → ∃ b, bfsT adj t k q pt = some b := by
  intro k
  induction k with
  | zero => intro q pt r h; simp [bfsV] at h
  | succ k ih =>
    intro q pt r h
    cases q with
    | nil => exact ⟨false, rfl⟩
    | cons u q =>
      rw [bfsT]
      by_cases e : u = t
      · exact ⟨true, if_pos e⟩
      · rw [if_neg e]
        rw [bfsV, List.nil_append] at h
        exact ih _ _ r h
/-- the walk finds the node just if there is a way to it -/
theorem bfsT_iff {adj : Int → List Int} {t s0 : Int} {k : Nat} {b : Bool} (h : bfsT adj t k [s0] [] = some b) : b = true ↔ RchW adj s0 t := by
  cases b with
  | true => exact ⟨fun _ => bfsT_found adj t s0 k [s0] [] (fun x hx => by rw [List.mem_singleton] at hx; subst hx; exact RchW.here) h, fun _ => rfl⟩
  | false =>
    refine ⟨fun e => (by cases e), fun hr => ?_⟩
    obtain ⟨r, h1, h2⟩ := bfsT_not adj t k [s0] [] (by simp) h
    have hp := bfsV_ok adj [] s0 k [s0] [] r (by simp) ⟨[], rfl⟩ (fun x hx => by simp at hx; subst hx; exact RchW.here) (fun x hx => by cases hx) h1
    obtain ⟨l, hl⟩ := hp.first
    have : t ∈ r := hr (fun x => x ∈ r) (by rw [hl]; simp) (fun x hx y hy => by
      rcases hp.cl x hx y hy with h | h
      · cases h
      · exact h)
    exact absurd this h2

/-- which blocks the walk turns -/
def PM (gd L k : Nat) : Prop := k = gd ∨ L ≤ k
structure PB (w0 w : World) (gd gm : Nat) (st : Value) (jk : List Value) (q vis : List Int) : Prop where
  que : Que w0.heap.size w gd .nilFunc .nilFunc (.map (some gm)) st jk q
  set : SetOk w gm vis
  gmL : w0.heap.size ≤ gm
  gd0 : gd < w0.heap.size
  kp : KeepF (PM gd w0.heap.size) w0 w
section
variable {w0 w w1 : World} {gd gm : Nat} {st : Value} {jk : List Value} {q vis : List Int}
theorem PB.L (h : PB w0 w gd gm st jk q vis) : w0.heap.size ≤ w.heap.size := h.kp.size
theorem PB.stLt (h : PB w0 w gd gm st jk q vis) {k : Nat} (hk : st.ownBlock = some k) : k < w.heap.size := by
  obtain ⟨c, hc⟩ := own_block h.que.own hk; exact blk_lt hc
theorem PB.apart (h : PB w0 w gd gm st jk q vis) {k : Nat} (hk : st.ownBlock = some k) : k ≠ gd ∧ k ≠ gm := by
  obtain ⟨c, hc⟩ := own_block h.que.own hk
  refine ⟨fun e => ?_, h.set.cells_ne hc⟩
  subst e; exact absurd (blk_type h.que.blk hc) (by decide)
theorem PB.gdm (h : PB w0 w gd gm st jk q vis) : gd ≠ gm := h.set.cells_ne h.que.blk
theorem PB.stay (h : PB w0 w gd gm st jk q vis) (hk : KeepF (PM gd w0.heap.size) w w1) (hd : w1.heap[gd]? = w.heap[gd]?) (hm : w1.heap[gm]? = w.heap[gm]?) (hs : ∀ k, st.ownBlock = some k → w1.heap[k]? = w.heap[k]?) : PB w0 w1 gd gm st jk q vis :=
  ⟨h.que.stay hd hs, h.set.stay hm, h.gmL, h.gd0, h.kp.trans hk⟩
theorem PB.below (h : PB w0 w gd gm st jk q vis) (hb : Below w.heap.size w w1) : PB w0 w1 gd gm st jk q vis :=
  h.stay (KeepF.of_below hb) (hb.block _ (blk_lt h.que.blk)) (hb.block _ h.set.lt) (fun k hk => hb.block k (h.stLt hk))
theorem PB.mid (h : PB w0 w gd gm st jk q vis) {lo B : Nat} (hm : Mid lo B w w1) (hlo : w0.heap.size ≤ lo) (hgm : gm < lo) (hst : ∀ k, st.ownBlock = some k → k < lo ∨ B ≤ k) : PB w0 w1 gd gm st jk q vis := by
  have hd := blk_lt h.que.blk
  have h2 := h.gd0
  refine h.stay ⟨hm.os, hm.tape, hm.output, hm.size, fun k hk hn => hm.block k hk (.inl ?_)⟩ (hm.block _ hd (.inl (by omega))) (hm.block _ h.set.lt (.inl hgm)) (fun k hk => hm.block k (h.stLt hk) (hst k hk))
  unfold PM at hn
  omega
theorem PB.queS (h : PB w0 w gd gm st jk q vis) {st' : Value} {jk' : List Value} {q' : List Int} (hq : Que w0.heap.size w1 gd .nilFunc .nilFunc (.map (some gm)) st' jk' q') (hk : KeepF (QM gd st) w w1) : PB w0 w1 gd gm st' jk' q' vis := by
  refine ⟨hq, h.set.stay (hk.block _ h.set.lt (fun hm => ?_)), h.gmL, h.gd0, h.kp.trans (hk.imp fun k hm => ?_)⟩
  · rcases hm with hm | hm
    · exact h.gdm hm.symm
    · exact (h.apart hm).2 rfl
  · rcases hm with hm | hm
    · exact .inl hm
    · exact .inr (own_base h.que.own k hm)
theorem PB.setS (h : PB w0 w gd gm st jk q vis) {vis' : List Int} (hs : SetOk w1 gm vis') (hg : w.grownBy w1 (some gm)) : PB w0 w1 gd gm st jk q vis' :=
  ⟨h.que.stay (hg.block _ (blk_lt h.que.blk) (fun e => h.gdm (Option.some.inj e))) (fun k hk => hg.block k (h.stLt hk) (fun e => (h.apart hk).2 (Option.some.inj e))), hs, h.gmL, h.gd0,
    h.kp.trans (KeepF.of_grown hg (fun k hk => .inr (by have := h.gmL; have := Option.some.inj hk; omega)))⟩
theorem PB.cells (h : PB w0 w gd gm st jk q vis) : w.cell? ⟨gd, 0, none⟩ = some .nilFunc ∧ w.cell? ⟨gd, 1, none⟩ = some .nilFunc ∧ w.cell? ⟨gd, 4, none⟩ = some (.map (some gm)) :=
  ⟨(blk_cell h.que.blk 0).trans rfl, (blk_cell h.que.blk 1).trans rfl, (blk_cell h.que.blk 4).trans rfl⟩
theorem PB.first (hs : Que w0.heap.size w0 gd .nilFunc .nilFunc (.map none) st [] []) (gd0 : gd < w0.heap.size) : PB w0 ((w0.setCell ⟨gd, 4, none⟩ (.map (some w0.heap.size))).alloc (.map #[] 0)) gd w0.heap.size st [] [] [] := by
  have hsz : (w0.setCell ⟨gd, 4, none⟩ (.map (some w0.heap.size))).heap.size = w0.heap.size := by simp
  have hm := SetOk.made (w0.setCell ⟨gd, 4, none⟩ (.map (some w0.heap.size)))
  rw [hsz] at hm
  refine ⟨⟨blk_alloc (blk_put (cs := #[.nilFunc, .nilFunc, .int .i64 0, st, .map none]) hs.blk 4 _ rfl) _, own_of_heap hs.own fun k hk => ?_, fun _ => rfl⟩, hm, Nat.le_refl _, gd0, ?_⟩
  · obtain ⟨c, hc⟩ := own_block hs.own hk
    rw [Below.heap_alloc _ _ _ (by rw [hsz]; exact blk_lt hc)]
    refine Below.heap_setCell _ _ _ _ (fun e => ?_)
    have e2 : k = gd := e
    subst e2
    exact absurd (blk_type hs.blk hc) (by decide)
  · exact ((KeepF.refl _ _).trans (KeepF.of_grown (grown_set w0 gd 4 _) (fun k hk => .inl (Option.some.inj hk).symm))).trans (KeepF.of_grown (World.grownBy_alloc _ _ none) (fun k hk => by cases hk))
end
theorem GrOk.keepP {w0 w : World} {gd base bp : Nat} {zs : List Int} {es : List S34} {p : Pl} {cs : Array Value} (h : GrOk w0 base bp zs es p) (hd : w0.heap[gd]? = some (.cells cs 85 (0, 0))) (hk : KeepF (PM gd w0.heap.size) w0 w) : GrOk w base bp zs es p := by
  refine ⟨h.ok.kinds fun k cc tt hkk ht => hk.block k (blk_lt hkk) (fun hm => ?_), h.good, h.adj, h.hs, h.hn⟩
  rcases hm with e | e
  · subst e
    have := blk_type hkk hd
    exact absurd this (by rcases ht with rfl | rfl | rfl | rfl <;> decide)
  · have := blk_lt hkk
    omega
/-- the walk's state ahead of a round, with the rounds that are left -/
def PqI (w0 w : World) (gd gm : Nat) (adj : Int → List Int) (t : Int) (zs : List Int) (N : Nat) (r : Bool) (kq : Nat) (d c n : Int) : Prop :=
  ∃ st jk q pt, PB w0 w gd gm st jk q (pt ++ q) ∧ bfsT adj t kq q pt = some r ∧ jk.length + q.length ≤ 1 + 1000 * (N - kq) ∧ pt.length ≤ N - kq ∧
    0 ≤ d ∧ d ≤ ((N - kq : Nat) : Int) ∧ 0 ≤ c ∧ c ≤ 1000 * ((N - kq : Nat) : Int) ∧ -((N - kq : Nat) : Int) ≤ n ∧ n ≤ 1 + 1000 * ((N - kq : Nat) : Int) ∧ kq ≤ N ∧ ∀ x ∈ q, x ∈ zs
/-- inside a round: the neighbours are gone through -/
def VnP (w0 wr : World) (gd gm : Nat) (lo B b : Nat) (nb seen q : List Int) (c0 c : Int) (M k : Nat) : Prop :=
  ∃ (st : Value) (jk : List Value), k ≤ nb.length ∧ OIt lo B wr b nb k ∧ c = c0 + (((newQ seen (nb.take k) q).length : Nat) : Int) - ((q.length : Nat) : Int) ∧ PB w0 wr gd gm st jk (newQ seen (nb.take k) q) (seen ++ newQ seen (nb.take k) q) ∧
    (∀ x, st.ownBlock = some x → x < lo ∨ B ≤ x) ∧ B ≤ wr.heap.size ∧ jk.length + (newQ seen (nb.take k) q).length ≤ M + k
theorem vnP (gu : Nat) (w : World) : (binOp .neq 123 (.func (.func 71) #[] #[.pointer (some ⟨gu, 0, none⟩)]) .nilFunc).run Tryz.prog w = .ok (.bool true) w := by kernel_rfl

set_option maxHeartbeats 4000000 in
set_option maxRecDepth 100000 in
theorem until71_any (gu : Nat) (u t d : Int) (w : World) (h : w.cell? ⟨gu, 0, none⟩ = some (.iface 97 (.int .i64 t))) :
    Calls Tryz.prog 71 #[.iface 97 (.int .i64 u), .int .i64 d, .pointer (some ⟨gu, 0, none⟩)] w fun e w' => e = .returned (.bool (u == t)) ∧ Below w.heap.size w w' := by
  have m1 := meth_ID u
  have m2 := meth_ID t
  go_enter Tryz.func71, Tryz.ntmps71
  go_wp2_with fail
  go_region_held3 (fun w' => w'.cell? ⟨gu, 0, none⟩ = some (.iface 97 (.int .i64 t))) (go_keep)
    (first
      | (go_at_call 202; refine (nodeID_any u _).mono ?_; rintro e wi ⟨rfl, rfl⟩)
      | (go_at_call 202; refine (nodeID_any t _).mono ?_; rintro e wi ⟨rfl, rfl⟩))
  all_goals
    go_wp2
    go_ret
    exact ⟨rfl, (Below.refl _ _).drew⟩
end Go.Proofs.YtolbfjjgdheikaaGreat.R

/- The walk breadth first of topo.PathExistsIn. -/
namespace Go.Proofs.YtolbfjjgdheikaaGreat.R
open Go.RowKit Go.Lab Go.Maps Go.Proofs.YtolbfjjgdheikaaGreatW.PrintWords Go.Proofs.YtolbfjjgdheikaaGreatW.PrintLast Go.Proofs.YtolbfjjgdheikaaGreatW.PrintMore PL

/-- what the walk returns -/
def foundT (r : Bool) (t : Int) : Value := if r = true then .iface 97 (.int .i64 t) else .nilIface
set_option maxHeartbeats 16000000 in
set_option maxRecDepth 100000 in
theorem bfsP_any (w0 : World) (gd gu base bp : Nat) (t : Int) (zs : List Int) (es : List S34) (p : Pl) (s0 : Int) (N : Nat) (hN : N ≤ 9000) (r : Bool)
    (h : GrOk w0 base bp zs es p) (wf : ∀ x ∈ zs, (Lit.int .i64 x).wf = true) (hs : Que w0.heap.size w0 gd .nilFunc .nilFunc (.map none) (.slice none 0 0) [] []) (hu : w0.cell? ⟨gu, 0, none⟩ = some (.iface 97 (.int .i64 t))) (hug : gu ≠ gd)
    (hs0 : s0 ∈ zs) (hr : bfsT (outN zs es) t N [s0] [] = some r) :
    Calls Tryz.prog 66 #[.pointer (some ⟨gd, 0, none⟩), .iface 64 (.agg #[.pointer (some ⟨bp, 0, none⟩)]), .iface 97 (.int .i64 s0), .func (.func 71) #[] #[.pointer (some ⟨gu, 0, none⟩)]] w0 fun e w' =>
      e = .returned (foundT r t) ∧ KeepF (PM gd w0.heap.size) w0 w' := by
  have HE := Aside0.mk (And.intro h (And.intro wf hs.blk))
  have hnn := h.hn
  have hgd0 := blk_lt hs.blk
  have HDV : Aside0 (∀ w' : World, KeepF (PM gd w0.heap.size) w0 w' → w'.cell? ⟨gu, 0, none⟩ = some (.iface 97 (.int .i64 t))) := ⟨fun w' e => e.cell hu (fun hm => by
    have := World.block_lt_of_cell? w0 _ hu
    rcases hm with e | e
    · exact hug e
    · dsimp only at this e; omega)⟩
  have HS := Aside0.mk (PB.first hs hgd0)
  have e3 : w0.cell? ⟨gd, 4, none⟩ = some (.map none) := (blk_cell hs.blk 4).trans rfl
  have f3 := blk_frozen hs.blk 4
  have hne : gd ≠ w0.heap.size := by omega
  have kM := mapNil'
  have kN := run_map78
  have mF := meth_DFrom ⟨bp, 0, none⟩
  have kU := vnP gu
  have kV := vnV
  have kT := vnT
  have HR := Aside0.mk hr
  have HS0 := Aside0.mk hs0
  have HW0 := Aside0.mk (wf s0 hs0)
  have m0 := meth_ID s0
  have hvb0 : (([] : List Int)).length ≤ 10000000 := by (try simp only [List.length_nil]); omega
  clear h wf hu hr hs0 hs hug
  go_enter Tryz.func66, Tryz.ntmps66
  go_wp2_with (go_at_call 101; refine (enq_any w0.heap.size gd .nilFunc .nilFunc (.map (some w0.heap.size)) (.slice none 0 0) [] [] s0 _ HS.out.que (by simp) HS.out.L).mono ?_; rintro e w1 ⟨rfl, st1, jk1, hq1, hj1, hk1, hat⟩; have HD := Aside0.mk (HS.out.queS hq1 hk1); have HJ := Aside0.mk hj1; clear hq1 hk1 hat hj1)
  clear e3 f3
  obtain ⟨q0, q1, q3⟩ := HD.out.cells
  go_quiet (fail)
  have HBQ := Aside0.mk (show Below w1.heap.size w1 (w1.drewN nq) from pw_below_drewN (Below.refl _ _) nq)
  go_wp2_with fail
  go_region_held3 (fun w' => w'.cell? ⟨gd, 4, none⟩ = some (.map (some w0.heap.size)))
    (first | exact hkeep | go_keep)
    (first
      | (go_at_call 202; refine (nodeID_any s0 _).mono ?_; rintro e w3 ⟨rfl, rfl⟩)
      | (go_at_call 99; refine (add_any w0.heap.size ([] : List Int) s0 _ (HD.out.below (pw_below_drewN (Below.refl _ _) _)).set HW0.out hvb0).mono ?_; rintro e w5 ⟨rfl, hs5, hg5⟩; have HD5 := Aside0.mk ((HD.out.below (pw_below_drewN (Below.refl _ _) _)).setS hs5 hg5); have hkeep := HD5.out.cells.2.2; clear hs5 hg5))
  have HI := Aside0.mk (show PqI w0 w5 gd w0.heap.size (outN zs es) t zs N r N 0 0 1 from ⟨st1, jk1, [s0], [], by simpa using HD5.out, HR.out, by have := HJ.out; simp at this ⊢; omega, by simp, by omega, by omega, by omega, by omega, by omega, by omega, Nat.le_refl _, fun x hx => by simp at hx; subst hx; exact HS0.out⟩)
  clear HD HD5 q0 q1 q3 hkeep HBQ HJ
  go_wp2
  go_loopg [9, 10, 11] N (fun kq v9 v10 v11 w' => ∃ d' c' n' : Int, v9 = .int .i64 d' ∧ v10 = .int .i64 c' ∧ v11 = .int .i64 n' ∧ Aside0 (PqI w0 w' gd w0.heap.size (outN zs es) t zs N r kq d' c' n'))
  case atStart => exact ⟨0, 0, 1, rfl, rfl, rfl, HI⟩
  case round =>
    clear HI HS HR HS0
    obtain ⟨d', c', n', rfl, rfl, rfl, hrel⟩ := hrel
    obtain ⟨st, jk, q, pt, hD, hr, hl1, hl2, hd1, hd2, hc1, hc2, hn1, hn2, hkq, hz⟩ := hrel.out
    cases gk with
    | zero => exact absurd hr (by simp [bfsT])
    | succ k1 =>
      have HD := Aside0.mk hD
      have hql : jk.length + q.length ≤ 10000000 := by omega
      have hpb : pt.length ≤ 10000000 := by omega
      cases q with
      | nil =>
        have hr' : some false = some r := hr
        obtain rfl := Option.some.inj hr'
        clear hrel hr hr' hl1 hl2 hz hD
        go_wp2_with (go_at_call 102; refine (qlen_any _ gd _ _ _ _ jk [] _ HD.out.que hql).mono ?_; rintro e w2 ⟨rfl, hb2⟩; rw [show (([] : List Int).length : Int) = 0 from rfl]; have HD2 := Aside0.mk (HD.out.below hb2); clear hb2)
        go_ret
        exact ⟨rfl, HD2.out.kp⟩
      | cons u q =>
        by_cases hut : u = t
        · have hrt : r = true := by
            rw [bfsT, if_pos hut] at hr
            exact (Option.some.inj hr).symm
          have hub : (u == t) = true := by rw [hut]; simp
          have hlen : ((u :: q).length : Int) = (q.length : Int) + 1 := by simp
          have hlen' : (u :: q).length = q.length + 1 := by simp
          rw [hlen'] at hl1
          have HN := Aside0.mk hlen
          have HRT := Aside0.mk (And.intro hrt hut)
          clear hlen hlen' hz hl1 hl2 hkq hrel hD hr hd2 hc2 hn1 hn2 hut hrt
          go_wp2_with (first
            | (go_at_call 102; refine (qlen_any _ gd _ _ _ _ jk (u :: q) _ HD.out.que hql).mono ?_; rintro e w2 ⟨rfl, hb2⟩; rw [HN.out]; have HD2 := Aside0.mk (HD.out.below hb2); clear hb2)
            | (go_at_call 103; refine (deq_any _ gd _ _ _ _ jk q u _ HD2.out.que hql).mono ?_; rintro e w3 ⟨rfl, st3, jk3, hq3, hj3, hs3, hk3⟩; have HD3 := Aside0.mk (HD2.out.queS hq3 hk3); clear hq3 hj3 hs3 hk3)
            | (go_at_call 71; refine (until71_any gu u t d' w3 (HDV.out w3 HD3.out.kp)).mono ?_; rintro e w4 ⟨rfl, hb4⟩; have HD6 := Aside0.mk (HD3.out.below hb4); clear hb4))
          go_ret
          obtain ⟨rfl, rfl⟩ := HRT.out
          exact ⟨rfl, HD6.out.kp⟩
        have hr' : bfsT (outN zs es) t k1 (newQ (pt ++ [u]) (outN zs es u) q) (pt ++ [u]) = some r := by rw [bfsT, if_neg hut] at hr; exact hr
        have hub : (u == t) = false := by rw [beq_eq_false_iff_ne]; exact hut
        clear hut
        have hlen : ((u :: q).length : Int) = (q.length : Int) + 1 := by simp
        have hlen' : (u :: q).length = q.length + 1 := by simp
        rw [hlen'] at hl1
        have HN := Aside0.mk hlen
        have HW := Aside0.mk (HE.out.2.1 u (hz u (by simp)))
        have HUZ := Aside0.mk (hz u (by simp))
        have HZ := Aside0.mk (show ∀ x ∈ q, x ∈ zs from fun x hx => hz x (by simp [hx]))
        have m1 := meth_ID u
        have hk1 : N - k1 = N - (k1 + 1) + 1 := by omega
        have HL := Aside0.mk (And.intro hl1 (And.intro hl2 (And.intro hkq hk1)))
        have bn1 : -10000000 ≤ n' := by omega
        have bn2 : n' ≤ 10000000 := by omega
        have bd2 : d' ≤ 10000000 := by omega
        have bc2 : c' ≤ 10000000 := by omega
        have HBN := Aside0.mk (And.intro hd2 (And.intro hc2 (And.intro hn1 hn2)))
        have HR := Aside0.mk hr'
        clear hlen hlen' hz hl1 hl2 hkq hrel hD hr hr' hd2 hc2 hn1 hn2 hk1
        go_wp2_with (first
          | (go_at_call 102; refine (qlen_any _ gd _ _ _ _ jk (u :: q) _ HD.out.que hql).mono ?_; rintro e w2 ⟨rfl, hb2⟩; rw [HN.out]; have HD2 := Aside0.mk (HD.out.below hb2); clear hb2)
          | (go_at_call 103; refine (deq_any _ gd _ _ _ _ jk q u _ HD2.out.que hql).mono ?_; rintro e w3 ⟨rfl, st3, jk3, hq3, hj3, hs3, hk3⟩; have HD3 := Aside0.mk (HD2.out.queS hq3 hk3); have HJ3 := Aside0.mk hj3; clear hq3 hj3 hs3 hk3)
          | (go_at_call 71; refine (until71_any gu u t d' w3 (HDV.out w3 HD3.out.kp)).mono ?_; rintro e w4 ⟨rfl, hb4⟩; have HD6 := Aside0.mk (HD3.out.below hb4); clear hb4)
          | (go_at_call 202; refine (nodeID_any u _).mono ?_; rintro e w3 ⟨rfl, rfl⟩)
          | (go_at_call 197; refine (gFromD base bp zs es p u _ (HE.out.1.keepP HE.out.2.2 HD6.out.kp) HUZ.out).mono ?_; rintro e w7 ⟨b, rfl, hit, hb7⟩; have HD7 := Aside0.mk (HD6.out.below hb7); have HIT := Aside0.mk hit; have HB7 := Aside0.mk hb7; clear hit hb7))
        obtain ⟨nb, hnb⟩ : ∃ nb, outN zs es u = nb := ⟨_, rfl⟩
        rw [hnb] at HIT HR
        have HNB := Aside0.mk hnb
        have hnl : nb.length ≤ 1000 := by rw [← hnb]; exact Nat.le_trans (outN_len zs es u) hnn
        clear hnb
        have e0 : pt ++ (u :: q) = (pt ++ [u]) ++ q := by simp
        rw [e0] at HD6 HD7
        clear e0
        obtain ⟨seen, hseen⟩ : ∃ seen, pt ++ [u] = seen := ⟨_, rfl⟩
        rw [hseen] at HD6 HD7 HR
        have HSEEN := Aside0.mk hseen
        have hsl : seen.length ≤ 200000 := by rw [← hseen]; simp only [List.length_append, List.length_cons, List.length_nil]; have := HL.out; omega
        clear hseen
        have HLO := Aside0.mk (show w0.heap.size ≤ w4.heap.size ∧ w0.heap.size < w4.heap.size from ⟨HD6.out.L, HD6.out.set.lt⟩)
        have HI2 := Aside0.mk (show VnP w0 w7 gd w0.heap.size w4.heap.size w7.heap.size b nb seen q c' c' (jk.length + q.length + 1) 0 from ⟨st3, jk3, Nat.zero_le _, HIT.out, by simp [newQ], by simpa [newQ] using HD7.out, fun x hx => .inl (HD6.out.stLt hx), Nat.le_refl _, by have := HJ3.out; simp [newQ]; omega⟩)
        have n1 := meth_ONext ⟨b, 0, none⟩
        have n2 := meth_ONode ⟨b, 0, none⟩
        clear HD HD2 HD3 HD6 HD7 HIT HB7 HJ3
        generalize w4.heap.size = lo at HI2 HLO
        generalize w7.heap.size = B at HI2
        go_loopw [10] (fun v10 wr => ∃ (cK : Int) (k : Nat), v10 = .int .i64 cK ∧ Aside0 (VnP w0 wr gd w0.heap.size lo B b nb seen q c' cK (jk.length + q.length + 1) k)) (fun _ wr => nb.length + 2 - posI wr b)
        case atStart => exact ⟨c', 0, rfl, HI2⟩
        case round =>
          clear HI2
          obtain ⟨cK, k, rfl, hrel⟩ := hrel
          obtain ⟨st4, jk4, hk, hO, hcK, hD, hst, hB, hjq⟩ := hrel.out
          have hRS := newQ_size seen (nb.take k) q
          have htl : (nb.take k).length ≤ k := by rw [List.length_take]; omega
          obtain ⟨R, hR⟩ : ∃ R, newQ seen (nb.take k) q = R := ⟨_, rfl⟩
          rw [hR] at hcK hD hjq hRS
          have bcK1 : 0 ≤ cK := by omega
          have bcK2 : cK ≤ 20000000 := by omega
          have HRR := Aside0.mk hR
          have HCK := Aside0.mk hcK
          have HO := Aside0.mk hO
          have HD8 := Aside0.mk hD
          have HST := Aside0.mk hst
          have HB := Aside0.mk hB
          have HJQ := Aside0.mk hjq
          have HRL := Aside0.mk (show R.length ≤ 9700000 ∧ jk4.length + R.length ≤ 9700000 ∧ q.length ≤ R.length ∧ R.length ≤ q.length + k from by have := HL.out; omega)
          have hpos := hO.pos
          have HPOS := Aside0.mk hpos
          clear hrel hO hD hst hB hjq hpos hR hcK hRS htl
          by_cases hlt : k < nb.length
          · have hdk : decide (k < nb.length) = true := decide_eq_true hlt
            obtain ⟨v, hv⟩ : ∃ v, nb[k] = v := ⟨_, rfl⟩
            have HV := Aside0.mk hv
            have hvm : v ∈ outN zs es u := by rw [HNB.out, ← hv]; exact List.getElem_mem _
            have HVW := Aside0.mk (HE.out.2.1 v (outN_mem hvm).1)
            have m2 := meth_ID v
            have HTK := Aside0.mk (show nb.take (k + 1) = nb.take k ++ [v] by rw [← hv]; exact List.take_succ_eq_append_getElem hlt)
            clear hv hvm
            go_wp2_with (first
              | (go_at_call 217; refine (next_any lo B b k nb _ HO.out (by omega)).mono ?_; rintro e wn ⟨rfl, hO1, hM1⟩; rw [hdk]; rw [if_pos hlt] at hO1; have HO1 := Aside0.mk hO1; have HD9 := Aside0.mk (HD8.out.mid hM1 HLO.out.1 HLO.out.2 HST.out); have HS9 := Aside0.mk hM1.size; clear hO1 hM1)
              | (go_at_call 218; refine (nodeI_q lo B b k nb _ HO1.out hlt (by omega)).mono ?_; rintro e wq ⟨rfl, nq, hwq⟩; rw [HV.out]; have HO2 := Aside0.mk (show OIt lo B wq b nb (k + 1) by subst hwq; exact HO1.out.far (fun _ _ _ => rfl)); have HS10 := Aside0.mk (show wn.heap.size ≤ wq.heap.size by subst hwq; exact Nat.le_refl _); have HD10 := Aside0.mk (HD9.out.below (show Below wn.heap.size wn wq by subst hwq; exact pw_below_drewN (Below.refl _ _) nq)); clear hwq)
              | (go_at_call 202; refine (nodeID_any v _).mono ?_; rintro e wi ⟨rfl, rfl⟩))
            obtain ⟨q0, q1, q3⟩ := HD10.out.cells
            go_quiet (fail)
            have HBQ := Aside0.mk (show Below wq.heap.size wq (wq.drewN nq) from pw_below_drewN (Below.refl _ _) nq)
            have HD11 := Aside0.mk (HD10.out.below HBQ.out)
            have HO3 := Aside0.mk (HO2.out.far (fun x hq1 hq2 => HBQ.out.block x (by have := HB.out; have := HS9.out; have := HS10.out; omega)))
            have HS11 := Aside0.mk (show B ≤ (wq.drewN nq).heap.size from Nat.le_trans HB.out (Nat.le_trans HS9.out (Nat.le_trans HS10.out HBQ.out.size)))
            have HSN := Aside0.mk (show newQ seen (nb.take (k + 1)) q = (if v ∈ seen ++ R then R else R ++ [v]) by
              rw [HTK.out, newQ_snoc, HRR.out])
            by_cases hm : v ∈ seen ++ R
            · have hdm : decide (v ∈ seen ++ R) = true := decide_eq_true hm
              have HM := Aside0.mk hm
              clear hm
              go_wp2_with (go_at_call 95; refine (has_any w0.heap.size (seen ++ R) v _ HD11.out.set HVW.out).mono ?_; rintro e w10 ⟨rfl, hbh⟩; rw [hdm]; have HDh := Aside0.mk (HD11.out.below hbh); have HO3h := Aside0.mk (HO3.out.far (fun x hq1 hq2 => hbh.block x (by have := HS11.out; omega))); have HS11h := Aside0.mk (Nat.le_trans HS11.out hbh.size); clear hbh)
              go_roundw
              case rel =>
                have hSN := HSN.out
                rw [if_pos HM.out] at hSN
                exact ⟨cK, k + 1, rfl, ⟨st4, jk4, by omega, HO3h.out, by rw [hSN]; exact HCK.out, by rw [hSN]; exact HDh.out, HST.out, HS11h.out, by rw [hSN]; have := HJQ.out; omega⟩⟩
              case measure => rw [HO3h.out.pos, HPOS.out]; omega
            · have hdm : decide (v ∈ seen ++ R) = false := decide_eq_false hm
              have HM := Aside0.mk hm
              clear hm
              have hR2 : (seen ++ R).length ≤ 10000000 := by rw [List.length_append]; have := HRL.out; omega
              have hR3 : jk4.length + R.length ≤ 9999999 := by have := HRL.out; omega
              go_wp2_with (first
                | (go_at_call 95; refine (has_any w0.heap.size (seen ++ R) v _ HD11.out.set HVW.out).mono ?_; rintro e w10 ⟨rfl, hbh⟩; rw [hdm]; have HDh := Aside0.mk (HD11.out.below hbh); have HO3h := Aside0.mk (HO3.out.far (fun x hq1 hq2 => hbh.block x (by have := HS11.out; omega))); have HS11h := Aside0.mk (Nat.le_trans HS11.out hbh.size); obtain ⟨z0, z1, z3⟩ := HDh.out.cells; clear hbh)
                | (go_at_call 99; refine (add_any w0.heap.size (seen ++ R) v _ HDh.out.set HVW.out hR2).mono ?_; rintro e w13 ⟨rfl, hs6, hg6⟩; have HD13 := Aside0.mk (HDh.out.setS hs6 hg6); have HG6 := Aside0.mk hg6; clear hs6 hg6)
                | (go_at_call 101; refine (enq_any w0.heap.size gd .nilFunc .nilFunc (.map (some w0.heap.size)) st4 jk4 R v _ HD13.out.que hR3 HD13.out.L).mono ?_; rintro e w14 ⟨rfl, st5, jk5, hq7, hj7, hk7, hat7⟩; have HD14 := Aside0.mk (HD13.out.queS hq7 hk7); have HG7 := Aside0.mk (And.intro hj7 (And.intro hk7 hat7)); clear hq7 hj7 hk7 hat7))
              have hOn : Aside0 (OIt lo B w14 b nb (k + 1) ∧ B ≤ w14.heap.size ∧ w10.heap.size ≤ w13.heap.size) := by
                have s6 := HG6.out.size
                have s7 := HG7.out.2.1.size
                have hB9 := HS11h.out
                have hlo := HLO.out
                have hgd := HD14.out.gd0
                refine ⟨HO3h.out.far (fun x hx1 hx2 => ?_), by omega, by omega⟩
                have e6 : w13.heap[x]? = w10.heap[x]? := HG6.out.block x (by omega) (fun e => by have := Option.some.inj e; omega)
                have e7 : w14.heap[x]? = w13.heap[x]? := HG7.out.2.1.block x (by omega) (fun e => by
                  rcases e with e | e
                  · omega
                  · have := HST.out x e; omega)
                rw [e7, e6]
              go_roundw
              case rel =>
                have hSN := HSN.out
                rw [if_neg HM.out] at hSN
                refine ⟨cK + 1, k + 1, by go_num, ⟨st5, jk5, by omega, hOn.out.1, ?_, ?_, fun x hx => ?_, hOn.out.2.1, ?_⟩⟩
                · rw [hSN, HCK.out, List.length_append, List.length_singleton]; omega
                · rw [hSN, ← List.append_assoc]
                  exact HD14.out
                · rcases HG7.out.2.2 with h1 | ⟨y, h1, h2⟩
                  · rw [h1] at hx; exact HST.out x hx
                  · rw [h1] at hx
                    have := Option.some.inj hx
                    have := HS11h.out
                    have := hOn.out
                    omega
                · rw [hSN, List.length_append, List.length_singleton]
                  have := HJQ.out
                  have := HG7.out.1
                  omega
              case measure => rw [hOn.out.1.pos, HPOS.out]; omega
          · have hke : k = nb.length := by
              have := HPOS.out
              omega
            have hdk : decide (k < nb.length) = false := decide_eq_false hlt
            have HFIN := Aside0.mk (show newQ seen nb q = R by rw [← HRR.out, hke, List.take_length])
            have HMEM := Aside0.mk (show ∀ x ∈ R, x ∈ zs from fun x hx => by
              rw [← HFIN.out] at hx
              rcases (newQ_mem seen nb q x).1 hx with h1 | ⟨h1, _⟩
              · exact HZ.out x h1
              · rw [← HNB.out] at h1; exact (outN_mem h1).1)
            by_cases hn0 : n' - 1 = 0
            · have hnb : (n' - 1 == 0) = true := by simpa using hn0
              have HN0 := Aside0.mk hn0
              clear hn0
              go_wp2_with (go_at_call 217; refine (next_any lo B b k nb _ HO.out (by omega)).mono ?_; rintro e wn ⟨rfl, hO1, hM1⟩; rw [hdk]; have HD9 := Aside0.mk (HD8.out.mid hM1 HLO.out.1 HLO.out.2 HST.out); clear hO1 hM1)
              go_roundg k1
              case measure => omega
              case rel =>
                have hr := HR.out
                rw [HFIN.out] at hr
                have hd := HD9.out
                rw [← HSEEN.out] at hd
                refine ⟨d' + 1, 0, cK, by go_num, rfl, rfl, ⟨st4, jk4, R, pt ++ [u], hd, (by rw [HSEEN.out]; exact hr), ?_, ?_, ?_, ?_, ?_, ?_, ?_, ?_, ?_, HMEM.out⟩⟩
                all_goals (have hl := HL.out; have hbn := HBN.out; have hjq := HJQ.out; have hrl := HRL.out; have hck := HCK.out; (try rw [List.length_append, List.length_singleton]); omega)
            · have hnb : (n' - 1 == 0) = false := by simpa using hn0
              have HN0 := Aside0.mk hn0
              clear hn0
              go_wp2_with (go_at_call 217; refine (next_any lo B b k nb _ HO.out (by omega)).mono ?_; rintro e wn ⟨rfl, hO1, hM1⟩; rw [hdk]; have HD9 := Aside0.mk (HD8.out.mid hM1 HLO.out.1 HLO.out.2 HST.out); clear hO1 hM1)
              go_roundg k1
              case measure => omega
              case rel =>
                have hr := HR.out
                rw [HFIN.out] at hr
                have hd := HD9.out
                rw [← HSEEN.out] at hd
                refine ⟨d', cK, n' - 1, rfl, rfl, by go_num, ⟨st4, jk4, R, pt ++ [u], hd, (by rw [HSEEN.out]; exact hr), ?_, ?_, ?_, ?_, ?_, ?_, ?_, ?_, ?_, HMEM.out⟩⟩
                all_goals (have hl := HL.out; have hbn := HBN.out; have hjq := HJQ.out; have hrl := HRL.out; have hck := HCK.out; (try rw [List.length_append, List.length_singleton]); omega)
end Go.Proofs.YtolbfjjgdheikaaGreat.R

/- oneWay: a directed graph is opened. -/
namespace Go.Proofs.YtolbfjjgdheikaaGreat.R
open Go.RowKit Go.Lab Go.Maps Go.Proofs.YtolbfjjgdheikaaGreatW.PrintWords Go.Proofs.YtolbfjjgdheikaaGreatW.PrintLast Go.Proofs.YtolbfjjgdheikaaGreatW.PrintMore PL

set_option maxHeartbeats 2000000 in
theorem oneWay_any (d : Bool) (A1 A2 : Option Addr) (c1 c2 : Nat) (zs : List Int) (es : List S34) (w : World)
    (hN : Kd.C (Kd.int .i64) w A1 zs.length zs) (hE : Kd.C k34 w A2 es.length es) (hn : zs.length ≤ 1000) (he : es.length ≤ 1000000) :
    Calls Tryz.prog 35 #[.agg #[.bool d, .slice A1 zs.length c1, .slice A2 es.length c2]] w fun e w' => ∃ base bp, e = .returned (.tuple #[.agg #[.pointer (some ⟨bp, 0, none⟩)], .bool (readOk zs es && d)]) ∧ Below w.heap.size w w' ∧ (readOk zs es = true → PlOk w' base bp (plOf d zs es)) := by
  have hb1 : Below w.heap.size w ((w.alloc (.cells #[.bool d, .slice A1 zs.length c1, .slice A2 es.length c2] 25)).alloc (.cells #[.pointer none] 64)) := ((Below.refl _ _).alloc (Nat.le_refl _) _).alloc (by simp) _
  have HN := Aside0.mk (Kd.C_below hN hb1)
  have HE := Aside0.mk (Kd.C_below hE hb1)
  have HB := Aside0.mk hb1
  clear hN hE hb1
  obtain ⟨rb, hrb⟩ : ∃ rb, readOk zs es = rb := ⟨_, rfl⟩
  rw [hrb]
  have HRB := Aside0.mk hrb
  clear hrb
  go_enter Tryz.func35, Tryz.ntmps35
  go_wp2_with (go_at_call 52; refine (read_any2 d A1 A2 c1 c2 zs es _ HN.out HE.out hn he).mono ?_; rintro e w1 ⟨rfl, hbel, _, hpl⟩; rw [HRB.out] at hpl ⊢; have HR := Aside0.mk (And.intro hbel hpl); have HRO := Aside0.mk hpl; clear hpl)
  have hz : ((w.alloc (.cells #[.bool d, .slice A1 zs.length c1, .slice A2 es.length c2] 25)).alloc (.cells #[.pointer none] 64)).heap.size = w.heap.size + 2 := by simp
  have hk0 : ((w.alloc (.cells #[.bool d, .slice A1 zs.length c1, .slice A2 es.length c2] 25)).alloc (.cells #[.pointer none] 64)).heap[w.heap.size]? = some (.cells #[.bool d, .slice A1 zs.length c1, .slice A2 es.length c2] 25 (0, 0)) :=
    (((Below.refl _ (w.alloc (.cells #[.bool d, .slice A1 zs.length c1, .slice A2 es.length c2] 25))).alloc (Nat.le_refl _) _).block _ (by simp)).trans (heap_alloc_new _ _)
  have hk1 : ((w.alloc (.cells #[.bool d, .slice A1 zs.length c1, .slice A2 es.length c2] 25)).alloc (.cells #[.pointer none] 64)).heap[w.heap.size + 1]? = some (.cells #[.pointer none] 64 (0, 0)) := by
    have := heap_alloc_new (w.alloc (.cells #[.bool d, .slice A1 zs.length c1, .slice A2 es.length c2] 25)) (.cells #[.pointer none] 64)
    simpa using this
  replace hk0 := (hbel.block w.heap.size (by simp; omega)).trans hk0
  replace hk1 := (hbel.block (w.heap.size + 1) (by simp)).trans hk1
  have hc0 : w1.cell? ⟨w.heap.size, 0, none⟩ = some (.bool d) := (blk_cell hk0 0).trans rfl
  have hc1 : w1.cell? ⟨w.heap.size + 1, 0, none⟩ = some (.pointer none) := (blk_cell hk1 0).trans rfl
  have hf1 : w1.frozen? ⟨w.heap.size + 1, 0, none⟩ = false := blk_frozen hk1 0
  have hlt := hbel.size
  rw [hz] at hlt HRO
  have hBB : Below w.heap.size w w1 := HB.out.trans (hbel.mono (by rw [hz]; omega))
  have HX := Aside0.mk (And.intro hBB (And.intro hk1 HRO.out))
  clear hbel hk0 hk1 hz HR HRO hBB
  have hfin : ∀ W : World, W.heap = (w1.setCell ⟨w.heap.size + 1, 0, none⟩ (.pointer (some ⟨w.heap.size + 1 + 1 + 1, 0, none⟩))).heap → W.os = w1.os → W.tape = w1.tape → W.output = w1.output → Below w.heap.size w W ∧ (rb = true → PlOk W (w.heap.size + 2) (w.heap.size + 3) (plOf d zs es)) ∧ W.cell? ⟨w.heap.size + 1, 0, none⟩ = some (.pointer (some ⟨w.heap.size + 1 + 1 + 1, 0, none⟩)) := by
    intro W h1 h2 h3 h4
    have hb2 : Below (w.heap.size + 1) w1 W := ⟨h2, h3, h4, by rw [h1]; simp [World.setCell], fun k hk => by rw [h1]; exact Below.heap_setCell _ _ _ _ (by simp; omega)⟩
    refine ⟨HX.out.1.trans (hb2.mono (by omega)), fun hr => ?_, ?_⟩
    · obtain ⟨ro, ri, vi, vo, vn, hp⟩ := HX.out.2.2 hr
      have hkk : ∀ k, w.heap.size + 2 ≤ k → W.heap[k]? = w1.heap[k]? := fun k hk => by rw [h1]; exact Below.heap_setCell _ _ _ _ (by simp; omega)
      have hoo : ∀ {e : TypeId} {size n : Nat} {v : Value} {xs : List Value}, w1.ownsRow (w.heap.size + 2) e size v n xs → W.ownsRow (w.heap.size + 2) e size v n xs := fun h => own_move h fun k hk => hkk k (own_base h k hk)
      exact ⟨ro, ri, vi, vo, vn, ⟨(hkk _ hp.hb).trans hp.blk, hp.hb, hoo hp.ids, ⟨hoo hp.rows.a, hoo hp.rows.b, hp.rows.la, hp.rows.lb, fun i hi => hoo (hp.rows.rowA i hi), fun i hi => hoo (hp.rows.rowB i hi), hp.rows.sepT, hp.rows.sepA, hp.rows.sepB, hp.rows.sepAB⟩, hp.po, hp.pi⟩⟩
    · have := blk_set HX.out.2.1 0 (.pointer (some ⟨w.heap.size + 1 + 1 + 1, 0, none⟩))
      rw [World.cell?_of_block (w := w1.setCell ⟨w.heap.size + 1, 0, none⟩ (.pointer (some ⟨w.heap.size + 1 + 1 + 1, 0, none⟩))) (by rw [h1]), blk_cell this]
      rfl
  have HFIN := Aside0.mk hfin
  clear hfin
  cases rb <;> cases d
  all_goals
    go_region
  all_goals
    go_wp2
    obtain ⟨hf1, hf2, hf3⟩ := HFIN.out (World.drew (w1.setCell ⟨w.heap.size + 1, 0, none⟩ (.pointer (some ⟨w.heap.size + 1 + 1 + 1, 0, none⟩)))) rfl rfl rfl rfl
    refine bodyPost_ret (v := .tuple #[.agg #[.pointer (some ⟨w.heap.size + 1 + 1 + 1, 0, none⟩)], .bool _]) (by simp [results, Tryz.results35, go_sem, *]) rfl ⟨w.heap.size + 2, w.heap.size + 3, rfl, hf1, by first | exact hf2 | exact hf2 trivial | exact hf2 rfl | trivial | simp⟩
end Go.Proofs.YtolbfjjgdheikaaGreat.R

/- impl.open, impl.from, topo.PathExistsIn, impl.PathExistsIn, impl.IsPathIn at no path, of good directed graphs. -/
namespace Go.Proofs.YtolbfjjgdheikaaGreat.R
open Go.RowKit Go.Lab Go.Maps Go.Proofs.YtolbfjjgdheikaaGreatW.PrintWords Go.Proofs.YtolbfjjgdheikaaGreatW.PrintLast Go.Proofs.YtolbfjjgdheikaaGreatW.PrintMore PL

def p_len (p : Pl) : Nat := p.ids.length
set_option maxHeartbeats 4000000 in
set_option maxRecDepth 100000 in
theorem open_good (A1 A2 : Option Addr) (c1 c2 : Nat) (zs : List Int) (es : List S34) (w : World) (hN : Kd.C (Kd.int .i64) w A1 zs.length zs) (hE : Kd.C k34 w A2 es.length es) (hn : zs.length ≤ 1000) (he : es.length ≤ 1000000) (hro : readOk zs es = true) :
    Calls Tryz.prog 48 #[.agg #[.bool true, .slice A1 zs.length c1, .slice A2 es.length c2]] w fun e w' => ∃ base bp, e = .returned (.tuple #[.iface 64 (.agg #[.pointer (some ⟨bp, 0, none⟩)]), .pointer (some ⟨bp, 0, none⟩), .bool true]) ∧ Below w.heap.size w w' ∧ GrOk w' base bp zs es (plOf true zs es) := by
  have hb1 : Below w.heap.size w (w.alloc (.cells #[.bool true, .slice A1 zs.length c1, .slice A2 es.length c2] 25)) := (Below.refl _ _).alloc (Nat.le_refl _) _
  have HN := Aside0.mk (Kd.C_below hN hb1)
  have HE := Aside0.mk (Kd.C_below hE hb1)
  have HB := Aside0.mk hb1
  have HRO := Aside0.mk hro
  have hk0 : (w.alloc (.cells #[.bool true, .slice A1 zs.length c1, .slice A2 es.length c2] 25)).heap[w.heap.size]? = some (.cells #[.bool true, .slice A1 zs.length c1, .slice A2 es.length c2] 25 (0, 0)) := heap_alloc_new _ _
  have HK := Aside0.mk hk0
  clear hN hE hb1 hro hk0
  go_enter Tryz.func48, Tryz.ntmps48
  go_wp2_with (go_at_call 52; refine (read_any2 true A1 A2 c1 c2 zs es _ HN.out HE.out hn he).mono ?_; rintro e w1 ⟨rfl, hbel, _, hpl⟩; rw [HRO.out]; have hc0 : w1.cell? ⟨w.heap.size, 0, none⟩ = some (.bool true) := (blk_cell ((hbel.block w.heap.size (by simp)).trans HK.out) 0).trans rfl; have H1 := Aside0.mk (And.intro hbel (show GrOk w1 _ _ zs es (plOf true zs es) from GrOk.mk' (w := w) (d := true) hn HRO.out (hpl HRO.out))); clear hbel hpl)
  exact bodyPost_ret (v := .tuple #[.iface 64 (.agg #[.pointer (some ⟨w.heap.size + 1 + 1, 0, none⟩)]), .pointer (some ⟨w.heap.size + 1 + 1, 0, none⟩), .bool true]) (by simp [results, Tryz.results48, go_sem]) rfl (by
    have h2 := H1.out.2
    have h1 := HB.out.trans (H1.out.1.mono (by simp))
    simp only [World.size_alloc] at h2
    first
      | exact ⟨_, _, rfl, h1, h2⟩
      | exact ⟨w.heap.size + 1, w.heap.size + 1 + 1, rfl, h1, by simpa using h2⟩)

set_option maxHeartbeats 4000000 in
set_option maxRecDepth 100000 in
theorem from_good (A1 A2 : Option Addr) (c1 c2 : Nat) (zs : List Int) (es : List S34) (ga : Nat) (u : Int) (w : World) (hN : Kd.C (Kd.int .i64) w A1 zs.length zs) (hE : Kd.C k34 w A2 es.length es) (hn : zs.length ≤ 1000) (he : es.length ≤ 1000000) (hro : readOk zs es = true)
    (hu : u ∈ zs) (hc : w.cell? ⟨ga, 0, none⟩ = some (.int .i64 u)) :
    Calls Tryz.prog 46 #[.agg #[.bool true, .slice A1 zs.length c1, .slice A2 es.length c2], .slice (some ⟨ga, 0, none⟩) 1 1] w fun e w' => ∃ base bp, e = .returned (.tuple #[.iface 64 (.agg #[.pointer (some ⟨bp, 0, none⟩)]), .pointer (some ⟨bp, 0, none⟩), .bool true]) ∧ Below w.heap.size w w' ∧ GrOk w' base bp zs es (plOf true zs es) := by
  have hb1 : Below w.heap.size w (w.alloc (.cells #[.bool true, .slice A1 zs.length c1, .slice A2 es.length c2] 25)) := (Below.refl _ _).alloc (Nat.le_refl _) _
  have HN := Aside0.mk (Kd.C_below hN hb1)
  have HE := Aside0.mk (Kd.C_below hE hb1)
  have HB := Aside0.mk hb1
  have HRO := Aside0.mk hro
  have HC := Aside0.mk hc
  have hga := World.block_lt_of_cell? w _ hc
  dsimp only at hga
  clear hN hE hb1 hro hc
  go_enter Tryz.func46, Tryz.ntmps46
  go_wp2_with (go_at_call 48; refine (open_good A1 A2 c1 c2 zs es _ HN.out HE.out hn he HRO.out).mono ?_; rintro e w1 ⟨base, bp, rfl, hbel, hgr⟩; have H1 := Aside0.mk (And.intro hbel hgr); clear hbel hgr)
  have hc1 : w1.cell? ⟨ga, 0, none⟩ = some (.int .i64 u) := by
    have h2 := HB.out.trans (H1.out.1.mono (by simp))
    rw [World.cell?_of_block (h2.block ga hga)]; exact HC.out
  go_loopw [9, 22] (fun v9 v22 wr => v9 = .bool true ∧ ∃ i : Nat, v22 = .int .i64 i ∧ i ≤ 1 ∧ Aside0 (Below w1.heap.size w1 wr)) (fun _ v22 _ => 2 - (intOf v22).toNat)
  case atStart => exact ⟨rfl, 0, rfl, by omega, ⟨Below.refl _ _⟩⟩
  case round =>
    obtain ⟨rfl, i, rfl, hi, hrel⟩ := hrel
    by_cases h0 : i = 0
    · subst h0
      have hcr : wr.cell? ⟨ga, 0, none⟩ = some (.int .i64 u) := by rw [World.cell?_of_block (hrel.out.block ga (World.block_lt_of_cell? w1 _ hc1))]; exact hc1
      have hp := H1.out.2.below hrel.out
      have HP := Aside0.mk (And.intro hp.ok (And.intro hp.sorted (show p_len (plOf true zs es) ≤ 1000 from by unfold p_len; rw [hp.adj.ids, srt_length]; exact hn)))
      have hd : decide (u ∈ (plOf true zs es).ids) = true := decide_eq_true (by rw [hp.adj.ids]; exact (mem_srt _ _).2 hu)
      clear hp hc1
      go_wp2_with (go_at_call 70; refine (pl_index base bp (plOf true zs es) u _ HP.out.1 HP.out.2.1 HP.out.2.2).mono ?_; rintro e w2 ⟨rfl, rfl⟩; rw [hd])
      exact ⟨⟨rfl, 1, by simp, by omega, hrel⟩, by simp [intOf]⟩
    · have h1 : i = 1 := by omega
      subst h1
      have HW := Aside0.mk hrel.out
      clear hrel hc1
      go_wp2
      exact bodyPost_ret (v := .tuple #[.iface 64 (.agg #[.pointer (some ⟨bp, 0, none⟩)]), .pointer (some ⟨bp, 0, none⟩), .bool true]) (by simp [results, Tryz.results46, go_sem]) rfl (by
        have k1 := HB.out.trans (H1.out.1.mono (by simp))
        exact ⟨base, bp, rfl, k1.trans (HW.out.mono (by have := H1.out.1.size; simp at this; omega)), H1.out.2.below HW.out⟩)

theorem nn_some (x : Int) (w : World) : (binOp .neq 72 (.iface 97 (.int .i64 x)) .nilIface).run Tryz.prog w = .ok (.bool true) w := by kernel_rfl
theorem nn_nil (w : World) : (binOp .neq 72 .nilIface .nilIface).run Tryz.prog w = .ok (.bool false) w := by kernel_rfl
set_option maxHeartbeats 4000000 in
set_option maxRecDepth 100000 in
theorem path47_any (base bp : Nat) (zs : List Int) (es : List S34) (p : Pl) (s0 t : Int) (w : World) (h : GrOk w base bp zs es p) (wf : ∀ x ∈ zs, (Lit.int .i64 x).wf = true) (hs0 : s0 ∈ zs) (N : Nat) (hN : N ≤ 9000) (r : Bool) (hr : bfsT (outN zs es) t N [s0] [] = some r) :
    Calls Tryz.prog 47 #[.iface 64 (.agg #[.pointer (some ⟨bp, 0, none⟩)]), .iface 97 (.int .i64 s0), .iface 97 (.int .i64 t)] w fun e w' => e = .returned (.bool r) ∧ Below w.heap.size w w' := by
  obtain ⟨W, hW⟩ : ∃ W, (w.alloc (.cells #[.iface 97 (.int .i64 t)] 72)).alloc (.cells #[.nilFunc, .nilFunc, .int .i64 0, .slice none 0 0, .map none] 85) = W := ⟨_, rfl⟩
  have hb : Below w.heap.size w W := by rw [← hW]; exact ((Below.refl _ _).alloc (Nat.le_refl _) _).alloc (by simp) _
  have h0 : W.heap[w.heap.size]? = some (.cells #[.iface 97 (.int .i64 t)] 72 (0, 0)) := by rw [← hW]; exact (Below.heap_alloc _ _ _ (by simp)).trans (heap_alloc_new _ _)
  have h1 : W.heap[w.heap.size + 1]? = some (.cells #[.nilFunc, .nilFunc, .int .i64 0, .slice none 0 0, .map none] 85 (0, 0)) := by
    rw [← hW]
    have := heap_alloc_new (w.alloc (.cells #[.iface 97 (.int .i64 t)] 72)) (.cells #[.nilFunc, .nilFunc, .int .i64 0, .slice none 0 0, .map none] 85)
    simpa using this
  have HB := Aside0.mk hb
  have HX := Aside0.mk (And.intro h (And.intro wf (And.intro hs0 hr)))
  have HQ := Aside0.mk (And.intro h0 h1)
  clear h wf hs0 hr h0 h1 hb
  have n1 := nn_some t
  have n0 := nn_nil
  cases r with
  | true =>
    go_enter Tryz.func47, Tryz.ntmps47
    go_wp2_with (go_at_call 66; refine (bfsP_any W (w.heap.size + 1) w.heap.size base bp t zs es p s0 N hN true (HX.out.1.below HB.out) HX.out.2.1 ⟨HQ.out.2, World.ownsRow_nil _ _ _ _, fun _ => rfl⟩ ((blk_cell HQ.out.1 0).trans rfl) (by omega) HX.out.2.2.1 HX.out.2.2.2).mono ?_; rintro e w1 ⟨rfl, hk⟩; rw [show foundT true t = .iface 97 (.int .i64 t) from rfl]; have HK := Aside0.mk hk; clear hk)
    go_ret
    exact ⟨rfl, HB.out.trans (HK.out.below HB.out.size (fun k hk => by rcases hk with e | e; omega; exact Nat.le_trans HB.out.size e))⟩
  | false =>
    go_enter Tryz.func47, Tryz.ntmps47
    go_wp2_with (go_at_call 66; refine (bfsP_any W (w.heap.size + 1) w.heap.size base bp t zs es p s0 N hN false (HX.out.1.below HB.out) HX.out.2.1 ⟨HQ.out.2, World.ownsRow_nil _ _ _ _, fun _ => rfl⟩ ((blk_cell HQ.out.1 0).trans rfl) (by omega) HX.out.2.2.1 HX.out.2.2.2).mono ?_; rintro e w1 ⟨rfl, hk⟩; rw [show foundT false t = .nilIface from rfl]; have HK := Aside0.mk hk; clear hk)
    go_ret
    exact ⟨rfl, HB.out.trans (HK.out.below HB.out.size (fun k hk => by rcases hk with e | e; omega; exact Nat.le_trans HB.out.size e))⟩

set_option maxHeartbeats 4000000 in
set_option maxRecDepth 100000 in
theorem path23_any (A1 A2 : Option Addr) (c1 c2 : Nat) (zs : List Int) (es : List S34) (u t : Int) (w : World) (hN : Kd.C (Kd.int .i64) w A1 zs.length zs) (hE : Kd.C k34 w A2 es.length es) (hn : zs.length ≤ 1000) (he : es.length ≤ 1000000) (wf : ∀ x ∈ zs, (Lit.int .i64 x).wf = true) (hro : readOk zs es = true) (hu : u ∈ zs)
    (N : Nat) (hNN : N ≤ 9000) (r : Bool) (hr : bfsT (outN zs es) t N [u] [] = some r) :
    Calls Tryz.prog 23 #[.agg #[.bool true, .slice A1 zs.length c1, .slice A2 es.length c2], .int .i64 u, .int .i64 t] w fun e w' => e = .returned (.tuple #[.bool r, .bool false]) ∧ Below w.heap.size w w' := by
  obtain ⟨W, hW⟩ : ∃ W, (w.alloc (.cells #[.bool true, .slice A1 zs.length c1, .slice A2 es.length c2] 25)).alloc (.cells #[.int .i64 u] 3) = W := ⟨_, rfl⟩
  have hb : Below w.heap.size w W := by rw [← hW]; exact ((Below.refl _ _).alloc (Nat.le_refl _) _).alloc (by simp) _
  have hz : W.heap.size = w.heap.size + 2 := by rw [← hW]; simp
  have h1 : W.heap[w.heap.size + 1]? = some (.cells #[.int .i64 u] 3 (0, 0)) := by
    rw [← hW]
    have := heap_alloc_new (w.alloc (.cells #[.bool true, .slice A1 zs.length c1, .slice A2 es.length c2] 25)) (.cells #[.int .i64 u] 3)
    simpa using this
  have HN := Aside0.mk (Kd.C_below hN hb)
  have HE := Aside0.mk (Kd.C_below hE hb)
  have HB := Aside0.mk hb
  have HX := Aside0.mk (And.intro hro (And.intro h1 (And.intro wf hr)))
  clear hN hE hb hro h1 wf hr
  go_enter Tryz.func23, Tryz.ntmps23
  go_wp2_with (first
    | (go_at_call 46; refine (from_good A1 A2 c1 c2 zs es (w.heap.size + 1) u W HN.out HE.out hn he HX.out.1 hu ((blk_cell HX.out.2.1 0).trans rfl)).mono ?_; rintro e w1 ⟨base, bp, rfl, hbel, hgr⟩; have H1 := Aside0.mk (And.intro hbel hgr); clear hbel hgr)
    | (go_at_call 47; refine (path47_any base bp zs es _ u t _ H1.out.2 HX.out.2.2.1 hu N hNN r HX.out.2.2.2).mono ?_; rintro e w2 ⟨rfl, hbel⟩; have H2 := Aside0.mk hbel; clear hbel))
  go_ret2
  have k1 := HB.out.trans (H1.out.1.mono (by omega))
  exact ⟨rfl, k1.trans (H2.out.mono (by have := H1.out.1.size; omega))⟩

set_option maxHeartbeats 4000000 in
set_option maxRecDepth 100000 in
theorem nodesOf_nil (A : Option Addr) (c : Nat) (w : World) : Calls Tryz.prog 50 #[.slice A 0 c] w fun e w' => e = .returned (.slice none 0 0) ∧ Below w.heap.size w w' := by
  go_enter Tryz.func50, Tryz.ntmps50
  go_wp2_with fail
  go_loopw [3, 8] (fun v3 v8 wr => v3 = .slice none 0 0 ∧ v8 = .int .i64 0 ∧ Below w.heap.size w wr) (fun _ _ _ => 0)
  case atStart => exact ⟨rfl, rfl, Below.refl _ _⟩
  case round =>
    obtain ⟨rfl, rfl, hb⟩ := hrel
    have HB := Aside0.mk hb
    clear hb
    go_wp2
    go_ret
    exact ⟨rfl, HB.out⟩
set_option maxHeartbeats 4000000 in
set_option maxRecDepth 100000 in
theorem isPath_nil (A1 A2 A3 : Option Addr) (c1 c2 c3 : Nat) (zs : List Int) (es : List S34) (w : World) (hN : Kd.C (Kd.int .i64) w A1 zs.length zs) (hE : Kd.C k34 w A2 es.length es) (hn : zs.length ≤ 1000) (he : es.length ≤ 1000000) (hro : readOk zs es = true) :
    Calls Tryz.prog 24 #[.agg #[.bool true, .slice A1 zs.length c1, .slice A2 es.length c2], .slice A3 0 c3] w fun e w' => e = .returned (.tuple #[.bool true, .bool false]) ∧ Below w.heap.size w w' := by
  have hb1 : Below w.heap.size w (w.alloc (.cells #[.bool true, .slice A1 zs.length c1, .slice A2 es.length c2] 25)) := (Below.refl _ _).alloc (Nat.le_refl _) _
  have HN := Aside0.mk (Kd.C_below hN hb1)
  have HE := Aside0.mk (Kd.C_below hE hb1)
  have HB := Aside0.mk hb1
  have HRO := Aside0.mk hro
  clear hN hE hb1 hro
  have h49 : ∀ (bp : Nat) (w : World), Calls Tryz.prog 49 #[.iface 64 (.agg #[.pointer (some ⟨bp, 0, none⟩)]), .slice none 0 0] w fun e w' => e = .returned (.bool true) ∧ Below w.heap.size w w' := fun bp w => by
    have HB := Aside0.mk (Below.refl w.heap.size w)
    go_enter Tryz.func49, Tryz.ntmps49
    go_wp2
    go_ret
    exact ⟨rfl, HB.out⟩
  go_enter Tryz.func24, Tryz.ntmps24
  go_wp2_with (first
    | (go_at_call 48; refine (open_good A1 A2 c1 c2 zs es _ HN.out HE.out hn he HRO.out).mono ?_; rintro e w1 ⟨base, bp, rfl, hbel, hgr⟩; have H1 := Aside0.mk hbel; clear hbel hgr)
    | (go_at_call 50; refine (nodesOf_nil A3 c3 _).mono ?_; rintro e w2 ⟨rfl, hbel⟩; have H2 := Aside0.mk hbel; clear hbel)
    | (go_at_call 49; refine (h49 bp _).mono ?_; rintro e w3 ⟨rfl, hbel⟩; have H3 := Aside0.mk hbel; clear hbel))
  go_ret2
  have k1 := HB.out.trans (H1.out.mono (by simp))
  have z1 := H1.out.size
  simp at z1
  have z2 := H2.out.size
  exact ⟨rfl, (k1.trans (H2.out.mono (by omega))).trans (H3.out.mono (by omega))⟩
end Go.Proofs.YtolbfjjgdheikaaGreat.R
