import Derived.Test.YtfkmpnpliadohaaGreatFB8
import Derived.Test.YtfkmpnpliadohaaGreatFB9
set_option linter.unusedVariables false
set_option linter.unusedSimpArgs false
/- The walk breadth first. -/
namespace Go.Proofs.YtfkmpnpliadohaaGreat.R
open Go.RowKit Go.Lab Go.Maps Go.Proofs.YtfkmpnpliadohaaGreatW.PrintWords Go.Proofs.YtfkmpnpliadohaaGreatW.PrintLast Go.Proofs.YtfkmpnpliadohaaGreatW.PrintMore PL

def bfV (gv : Nat) : Value := .func (.func 65) #[] #[.pointer (some ⟨gv, 0, none⟩)]
theorem fnB (gv : Nat) (w : World) : (binOp .neq 107 (.func (.func 65) #[] #[.pointer (some ⟨gv, 0, none⟩)]) .nilFunc).run Tryz.prog w = .ok (.bool true) w := by kernel_rfl
theorem fnBU (gv gu : Nat) (w : World) : (binOp .neq 119 (.func (.func 69) #[] #[.pointer (some ⟨gv, 0, none⟩), .pointer (some ⟨gu, 0, none⟩)]) .nilFunc).run Tryz.prog w = .ok (.bool true) w := by kernel_rfl

/-- what a walk breadth first finds at its beginning -/
structure BEnv (w0 : World) (d : Bool) (gd gv gu g1 g2 base bp : Nat) (zs : List Int) (es : List S38) (p : Pl) (A : Option Addr) (c : Nat) (bs : List S38) (t : Int) : Prop where
  at0 : WAt w0 d gu g1 g2 base bp zs es p A c bs t
  hd : w0.heap[gd]? = some (.cells #[bfV gv, tfV g1 g2, .int .i64 0, .slice none 0 0, .map none] 116 (0, 0))
  hv : w0.heap[gv]? = some (.cells #[.slice none 0 0] 44 (0, 0))
  n1 : g1 ≠ gd ∧ g1 ≠ gv
  n2 : g2 ≠ gd ∧ g2 ≠ gv
  nu : gu ≠ gd ∧ gu ≠ gv
  wf : ∀ x ∈ zs, (Lit.int .i64 x).wf = true
  bB : ∃ wB, Kd.C k38 wB A bs.length bs ∧ Below wB.heap.size wB w0 ∧ wB.heap.size ≤ gd ∧ wB.heap.size ≤ gv
  bn : bs.length ≤ 100000
section
variable {w0 w w1 : World} {d : Bool} {gd gv gu g1 g2 base bp : Nat} {zs : List Int} {es : List S38} {p : Pl} {A : Option Addr} {c : Nat} {bs : List S38} {t : Int}
theorem BEnv.to (h : BEnv w0 d gd gv gu g1 g2 base bp zs es p A c bs t) (hk : KeepF (WM gd gv w0.heap.size) w0 w) : WAt w d gu g1 g2 base bp zs es p A c bs t := by
  have hlt : ∀ {a : Addr} {v : Value}, w0.cell? a = some v → a.block ≠ gd → a.block ≠ gv → w.cell? a = some v := fun {a v} hc h1 h2 => hk.cell hc (fun hm => by
    have := World.block_lt_of_cell? w0 a hc
    unfold WM at hm
    omega)
  refine ⟨⟨h.at0.gr.ok.kinds fun k cc tt hkk ht => hk.block k (blk_lt hkk) (fun hm => ?_), h.at0.gr.good, h.at0.gr.adj, h.at0.gr.hs, h.at0.gr.hn⟩, hlt h.at0.c1 h.n1.1 h.n1.2, hlt h.at0.c2 h.n2.1 h.n2.2, hlt h.at0.cu h.nu.1 h.nu.2, ?_⟩
  · rcases hm with e | e | e
    · subst e
      have := blk_type hkk h.hd
      exact absurd this (by rcases ht with rfl | rfl | rfl | rfl <;> decide)
    · subst e
      have := blk_type hkk h.hv
      exact absurd this (by rcases ht with rfl | rfl | rfl | rfl <;> decide)
    · have := blk_lt hkk
      omega
  · obtain ⟨wB, h1, h2, h3, h4⟩ := h.bB
    have h5 := h2.size
    exact Kd.C_below h1 (h2.trans (hk.below h5 (fun k hm => by unfold WM at hm; omega)))
/-- a walk's object with its new map -/
theorem BW.start (h : BEnv w0 d gd gv gu g1 g2 base bp zs es p A c bs t) :
    BW w0 ((w0.setCell ⟨gd, 4, none⟩ (.map (some w0.heap.size))).alloc (.map #[] 0)) gd gv w0.heap.size (bfV gv) (tfV g1 g2) (.slice none 0 0) (.slice none 0 0) [] [] [] [] := by
  have hdl := blk_lt h.hd
  have hvl := blk_lt h.hv
  have hne : gv ≠ gd := fun e => by subst e; exact absurd (blk_type h.hd h.hv) (by decide)
  have hsz : (w0.setCell ⟨gd, 4, none⟩ (.map (some w0.heap.size))).heap.size = w0.heap.size := by simp
  have hm := SetOk.made (w0.setCell ⟨gd, 4, none⟩ (.map (some w0.heap.size)))
  rw [hsz] at hm
  refine ⟨⟨blk_alloc (blk_put (cs := #[bfV gv, tfV g1 g2, .int .i64 0, .slice none 0 0, .map none]) h.hd 4 _ rfl) _, World.ownsRow_nil _ _ _ _, fun _ => rfl⟩, hm, Nat.le_refl _, ⟨blk_alloc ((Below.heap_setCell _ _ _ _ hne).trans h.hv) _, World.ownsRow_nil _ _ _ _⟩, hvl, hdl, ?_⟩
  exact (KeepF.of_grown (grown_set w0 gd 4 _) (fun k hk => .inl (Option.some.inj hk).symm)).trans (KeepF.of_grown (World.grownBy_alloc _ _ none) (fun k hk => by cases hk))
end
/-- what a walk leaves -/
def BfsEnd (w0 w' : World) (gd gv : Nat) (vs : List (Int × Int)) : Prop := ∃ vv, VisB w0.heap.size w' gv vv vs ∧ KeepF (WM gd gv w0.heap.size) w0 w'
/-- the walk's state ahead of a round, with the rounds that are left -/
def BwI (w0 w : World) (gd gv : Nat) (vf tf : Value) (adj : Int → List Int) (t : Int) (zs : List Int) (K : Nat) (r : List (Int × Int) × Option Int) (kq : Nat) (d c n : Int) : Prop :=
  ∃ st vv jk q vs, BW w0 w gd gv w0.heap.size vf tf st vv jk q (vs.map Prod.fst) vs ∧ bfsF adj t kq q vs d c n = some r ∧ jk.length + q.length ≤ 1 + 1000 * (K - kq) ∧ vs.length ≤ 1 + 1000 * (K - kq) ∧
    0 ≤ d ∧ d ≤ ((K - kq : Nat) : Int) ∧ 0 ≤ c ∧ c ≤ 1000 * ((K - kq : Nat) : Int) ∧ -((K - kq : Nat) : Int) ≤ n ∧ n ≤ 1 + 1000 * ((K - kq : Nat) : Int) ∧ kq ≤ K ∧ ∀ x ∈ q, x ∈ zs
/-- inside a round: the neighbours are gone through -/
def InB (w0 wr : World) (gd gv : Nat) (vf tf : Value) (lo B b : Nat) (nb : List Int) (ok : Int → Bool) (q : List Int) (vs : List (Int × Int)) (c0 c : Int) (N : Nat) (k : Nat) : Prop :=
  ∃ (st vv : Value) (jk : List Value), k ≤ nb.length ∧ OIt lo B wr b nb k ∧ c = (bfsIn ((nb.take k).filter ok) vs q c0).2.2 ∧
    BW w0 wr gd gv w0.heap.size vf tf st vv jk (bfsIn ((nb.take k).filter ok) vs q c0).2.1 ((bfsIn ((nb.take k).filter ok) vs q c0).1.map Prod.fst) (bfsIn ((nb.take k).filter ok) vs q c0).1 ∧
    (∀ x, st.ownBlock = some x → x < lo ∨ B ≤ x) ∧ (∀ x, vv.ownBlock = some x → x < lo ∨ B ≤ x) ∧ B ≤ wr.heap.size ∧ jk.length + (bfsIn ((nb.take k).filter ok) vs q c0).2.1.length ≤ N + k

set_option maxHeartbeats 16000000 in
set_option maxRecDepth 100000 in
theorem bfsD_any (w0 : World) (d : Bool) (gd gv gu g1 g2 base bp : Nat) (zs : List Int) (es : List S38) (p : Pl) (A : Option Addr) (c : Nat) (bs : List S38) (t s0 : Int) (K : Nat) (hK : K ≤ 9000) (r : List (Int × Int) × Option Int)
    (h : BEnv w0 d gd gv gu g1 g2 base bp zs es p A c bs t) (hs0 : s0 ∈ zs) (hr : bfsF (adjF d zs es bs) t K [s0] [(s0, -1)] 0 0 1 = some r) :
    Calls Tryz.prog 68 #[.pointer (some ⟨gd, 0, none⟩), .iface 75 (.agg #[.pointer (some ⟨bp, 0, none⟩)]), .iface 118 (.int .i64 s0), .func (.func 69) #[] #[.pointer (some ⟨gv, 0, none⟩), .pointer (some ⟨gu, 0, none⟩)]] w0 fun e w' =>
      e = .returned (foundV r.2) ∧ BfsEnd w0 w' gd gv r.1 := by
  have HE := Aside0.mk h
  have HS := Aside0.mk (BW.start h)
  have hnn := h.at0.gr.hn
  have e3 : w0.cell? ⟨gd, 4, none⟩ = some (.map none) := (blk_cell h.hd 4).trans rfl
  have f3 := blk_frozen h.hd 4
  have hgl := blk_lt h.hd
  have hne : gd ≠ w0.heap.size := by omega
  have mF := meth_DFrom' ⟨bp, 0, none⟩
  have mE := meth_DEdge' ⟨bp, 0, none⟩
  have kV := fnB gv
  have kT := fnT g1 g2
  have kU := fnBU gv gu
  have kM := mapNil
  have kN := run_map114
  have HR := Aside0.mk hr
  have HS0 := Aside0.mk hs0
  have HW0 := Aside0.mk (h.wf s0 hs0)
  have m0 := meth_ID s0
  have hd0 : decide (s0 ∈ ([] : List Int)) = false := rfl
  clear h hr hs0
  go_enter Tryz.func68, Tryz.ntmps68
  go_wp2_with (go_at_call 112; refine (enq_any w0.heap.size gd (bfV gv) (tfV g1 g2) (.map (some w0.heap.size)) (.slice none 0 0) [] [] s0 _ HS.out.que (by simp) HS.out.L).mono ?_; rintro e w1 ⟨rfl, st1, jk1, hq1, hj1, hk1, hat⟩; have HD := Aside0.mk (HS.out.queS hq1 hk1); have HJ := Aside0.mk hj1; clear hq1 hk1 hat hj1)
  obtain ⟨q0, q1, q3⟩ := HD.out.cells
  unfold bfV at q0
  go_wp2_with fail
  go_region_held3 (fun w' => w'.cell? ⟨gd, 0, none⟩ = some (.func (.func 65) #[] #[.pointer (some ⟨gv, 0, none⟩)]) ∧ w'.cell? ⟨gd, 4, none⟩ = some (.map (some w0.heap.size)))
    (first | exact ⟨below_cellOf hbel (by assumption), below_cellOf hbel (by assumption)⟩ | go_keep)
    (first
      | (go_at_call 290; refine (nodeID_any s0 _).mono ?_; rintro e w3 ⟨rfl, rfl⟩)
      | (go_at_call 113; refine (has_any w0.heap.size [] s0 _ (HD.out.below (by repeat (first | exact Below.refl _ _ | apply below_drew1))).set HW0.out).mono ?_; rintro e w3 ⟨rfl, hbel⟩; rw [hd0]; have HBh := Aside0.mk hbel))
  have HDh := Aside0.mk (HD.out.below (show Below w1.heap.size w1 w3 from (Below.refl w1.heap.size w1).drew.trans (HBh.out.mono (Nat.le_refl _))))
  clear q0 q1 q3 hbel HBh
  obtain ⟨q0, q1, q3⟩ := HDh.out.cells
  unfold bfV at q0
  go_wp2_with (go_at_call 65; refine (bvisit_any w0.heap.size gv (.slice none 0 0) [] s0 _ HDh.out.vis (by simp) HDh.out.L).mono ?_; rintro e w4 ⟨rfl, vv4, wb, hv4, hg4, hg4', hat4⟩; have HD4 := Aside0.mk (HDh.out.visS hv4 hg4 hg4'); obtain ⟨p0, p1, p3⟩ := HD4.out.cells; clear hv4 hg4 hg4' hat4)
  go_wp2_with fail
  go_region_held3 (fun w' => w'.cell? ⟨gd, 4, none⟩ = some (.map (some w0.heap.size)))
    (first | exact hkeep | go_keep)
    (first
      | (go_at_call 290; refine (nodeID_any s0 _).mono ?_; rintro e w3 ⟨rfl, rfl⟩)
      | (go_at_call 114; refine (add_any w0.heap.size [] s0 _ (HD4.out.below (by repeat (first | exact Below.refl _ _ | apply below_drew1))).set HW0.out (by simp)).mono ?_; rintro e w5 ⟨rfl, hs5, hg5⟩; have HD5 := Aside0.mk ((HD4.out.below (by repeat (first | exact Below.refl _ _ | apply below_drew1))).setS hs5 hg5); have hkeep := HD5.out.cells.2.2; clear hs5 hg5))
  have HI := Aside0.mk (show BwI w0 w5 gd gv (bfV gv) (tfV g1 g2) (adjF d zs es bs) t zs K r K 0 0 1 from ⟨_, _, jk1, _, [(s0, -1)], HD5.out, HR.out, by have := HJ.out; simp at this ⊢; omega, by simp, by omega, by omega, by omega, by omega, by omega, by omega, Nat.le_refl _, fun x hx => by simp at hx; subst hx; exact HS0.out⟩)
  clear HD HDh HD4 HD5 e3 f3 q0 q1 q3 p0 p1 p3 hkeep
  go_wp2
  go_loopg [9, 10, 11] K (fun kq v9 v10 v11 w' => ∃ d' c' n' : Int, v9 = .int .i64 d' ∧ v10 = .int .i64 c' ∧ v11 = .int .i64 n' ∧ Aside0 (BwI w0 w' gd gv (bfV gv) (tfV g1 g2) (adjF d zs es bs) t zs K r kq d' c' n'))
  case atStart => exact ⟨0, 0, 1, rfl, rfl, rfl, HI⟩
  case round =>
    clear HI HS HR HS0
    obtain ⟨d', c', n', rfl, rfl, rfl, hrel⟩ := hrel
    obtain ⟨st, vv, jk, q, vs, hD, hr, hl1, hl2, hd1, hd2, hc1, hc2, hn1, hn2, hkq, hz⟩ := hrel.out
    cases gk with
    | zero => exact absurd hr (by simp [bfsF])
    | succ k1 =>
      have HD := Aside0.mk hD
      have hql : jk.length + q.length ≤ 10000000 := by omega
      have hvl : vs.length ≤ 10000000 := by omega
      cases q with
      | nil =>
        have hr' : some (vs, (none : Option Int)) = some r := hr
        obtain rfl := Option.some.inj hr'
        clear hrel hr hr' hl1 hl2 hz hD
        go_wp2_with (go_at_call 115; refine (qlen_any _ gd _ _ _ _ jk [] _ HD.out.que hql).mono ?_; rintro e w2 ⟨rfl, hb2⟩; rw [show (([] : List Int).length : Int) = 0 from rfl]; have HD2 := Aside0.mk (HD.out.below hb2); clear hb2)
        go_ret
        exact ⟨rfl, _, HD2.out.vis, HD2.out.kp⟩
      | cons u q =>
        have hr' : (if u = t then some (putD u d' vs, some u) else if n' - 1 = 0 then bfsF (adjF d zs es bs) t k1 (bfsIn (adjF d zs es bs u) (putD u d' vs) q c').2.1 (bfsIn (adjF d zs es bs u) (putD u d' vs) q c').1 (d' + 1) 0 (bfsIn (adjF d zs es bs u) (putD u d' vs) q c').2.2 else bfsF (adjF d zs es bs) t k1 (bfsIn (adjF d zs es bs u) (putD u d' vs) q c').2.1 (bfsIn (adjF d zs es bs u) (putD u d' vs) q c').1 d' (bfsIn (adjF d zs es bs u) (putD u d' vs) q c').2.2 (n' - 1)) = some r := hr
        have hlen : ((u :: q).length : Int) = (q.length : Int) + 1 := by simp
        have hlen' : (u :: q).length = q.length + 1 := by simp
        rw [hlen'] at hl1
        have HN := Aside0.mk hlen
        have HW := Aside0.mk (HE.out.wf u (hz u (by simp)))
        have HUZ := Aside0.mk (hz u (by simp))
        have HZ := Aside0.mk (show ∀ x ∈ q, x ∈ zs from fun x hx => hz x (by simp [hx]))
        have m1 := meth_ID u
        have hk1 : K - k1 = K - (k1 + 1) + 1 := by omega
        have HL := Aside0.mk (And.intro hl1 (And.intro hl2 (And.intro hkq hk1)))
        have HGU := Aside0.mk (show vv.ownBlock ≠ some gu from fun e => by have h1 := hD.vvBase e; have h2 := World.block_lt_of_cell? w0 _ HE.out.at0.cu; simp at h2; omega)
        have bn1 : -10000000 ≤ n' := by omega
        have bn2 : n' ≤ 10000000 := by omega
        have bd2 : d' ≤ 10000000 := by omega
        have bc2 : c' ≤ 10000000 := by omega
        have HBN := Aside0.mk (And.intro hd2 (And.intro hc2 (And.intro hn1 hn2)))
        clear hlen hlen' hz hl1 hl2 hkq hrel hD hr hd2 hc2 hn1 hn2 hk1
        by_cases hut : u = t
        · rw [if_pos hut] at hr'
          have ht : decide (u = t) = true := decide_eq_true hut
          obtain rfl := Option.some.inj hr'
          clear hr' hut
          go_wp2_with (first
            | (go_at_call 115; refine (qlen_any _ gd _ _ _ _ jk (u :: q) _ HD.out.que hql).mono ?_; rintro e w2 ⟨rfl, hb2⟩; rw [HN.out]; have HD2 := Aside0.mk (HD.out.below hb2); clear hb2)
            | (go_at_call 116; refine (deq_any _ gd _ _ _ _ jk q u _ HD2.out.que hql).mono ?_; rintro e w3 ⟨rfl, st3, jk3, hq3, hj3, hs3, hk3⟩; have HD3 := Aside0.mk (HD2.out.queS hq3 hk3); clear hq3 hj3 hs3 hk3)
            | (go_at_call 69; refine (buntil_any w0.heap.size gv gu vv vs t u d' _ HD3.out.vis hvl (HE.out.to HD3.out.kp).cu HGU.out).mono ?_; rintro e w4 ⟨rfl, hv4, hg4⟩; have HD4 := Aside0.mk (HD3.out.depS hv4 hg4); clear hv4 hg4; rw [ht]))
          go_ret
          exact ⟨rfl, _, HD4.out.vis, HD4.out.kp⟩
        · rw [if_neg hut] at hr'
          have ht : decide (u = t) = false := decide_eq_false hut
          have HR := Aside0.mk hr'
          clear hr' hut
          go_wp2_with (first
            | (go_at_call 115; refine (qlen_any _ gd _ _ _ _ jk (u :: q) _ HD.out.que hql).mono ?_; rintro e w2 ⟨rfl, hb2⟩; rw [HN.out]; have HD2 := Aside0.mk (HD.out.below hb2); clear hb2)
            | (go_at_call 116; refine (deq_any _ gd _ _ _ _ jk q u _ HD2.out.que hql).mono ?_; rintro e w3 ⟨rfl, st3, jk3, hq3, hj3, hs3, hk3⟩; have HD3 := Aside0.mk (HD2.out.queS hq3 hk3); have HJ3 := Aside0.mk hj3; clear hq3 hj3 hs3 hk3)
            | (go_at_call 69; refine (buntil_any w0.heap.size gv gu vv vs t u d' _ HD3.out.vis hvl (HE.out.to HD3.out.kp).cu HGU.out).mono ?_; rintro e w4 ⟨rfl, hv4, hg4⟩; have HD6 := Aside0.mk (HD3.out.depS hv4 hg4); clear hv4 hg4; rw [ht])
            | (go_at_call 290; refine (nodeID_any u _).mono ?_; rintro e w3 ⟨rfl, rfl⟩)
            | (go_at_call 267; refine (gFromD base bp zs es p u _ (HE.out.to HD6.out.kp).gr HUZ.out).mono ?_; rintro e w7 ⟨b, rfl, hit, hb7⟩; have HD7 := Aside0.mk (HD6.out.below hb7); have HIT := Aside0.mk hit; have HB7 := Aside0.mk hb7; clear hit hb7))
          obtain ⟨nb, hnb⟩ : ∃ nb, outN zs es u = nb := ⟨_, rfl⟩
          rw [hnb] at HIT
          have HNB := Aside0.mk hnb
          have hnl : nb.length ≤ 1000 := by rw [← hnb]; exact Nat.le_trans (outN_len zs es u) hnn
          clear hnb
          obtain ⟨vs1, hvs1⟩ : ∃ vs1, putD u d' vs = vs1 := ⟨_, rfl⟩
          rw [hvs1] at HD6 HD7 HR
          have HV1 := Aside0.mk (show vs1.length = vs.length ∧ vs1.map Prod.fst = vs.map Prod.fst by rw [← hvs1]; exact ⟨putD_len _ _ _, putD_fst _ _ _⟩)
          rw [← HV1.out.2] at HD6 HD7
          clear hvs1
          have HLO := Aside0.mk (show w0.heap.size ≤ w4.heap.size ∧ w0.heap.size < w4.heap.size ∧ gd < w0.heap.size ∧ gv < w0.heap.size from ⟨HD6.out.L, HD6.out.set.lt, HD6.out.gd0, HD6.out.gv0⟩)
          have HI2 := Aside0.mk (show InB w0 w7 gd gv (bfV gv) (tfV g1 g2) w4.heap.size w7.heap.size b nb (freeB d bs u) q vs1 c' c' (jk.length + q.length + 1) 0 from ⟨st3, vv, jk3, Nat.zero_le _, HIT.out, rfl, HD7.out, fun x hx => .inl (HD6.out.stLt hx), fun x hx => .inl (HD6.out.vvLt hx), Nat.le_refl _, by have := HJ3.out; simp [bfsIn]; omega⟩)
          have n1 := meth_ONext ⟨b, 0, none⟩
          have n2 := meth_ONode ⟨b, 0, none⟩
          clear HD HD2 HD3 HD6 HD7 HIT HB7 HJ3
          generalize w4.heap.size = lo at HI2 HLO
          generalize w7.heap.size = B at HI2
          go_loopw [10] (fun v10 wr => ∃ (cK : Int) (k : Nat), v10 = .int .i64 cK ∧ Aside0 (InB w0 wr gd gv (bfV gv) (tfV g1 g2) lo B b nb (freeB d bs u) q vs1 c' cK (jk.length + q.length + 1) k)) (fun _ wr => nb.length + 2 - posI wr b)
          case atStart => exact ⟨c', 0, rfl, HI2⟩
          case round =>
            clear HI2
            obtain ⟨cK, k, rfl, hrel⟩ := hrel
            obtain ⟨st4, vv4, jk4, hk, hO, hcK, hD, hst, hvv, hB, hjq⟩ := hrel.out
            obtain ⟨R, hR⟩ : ∃ R, bfsIn ((nb.take k).filter (freeB d bs u)) vs1 q c' = R := ⟨_, rfl⟩
            have hRS := bfsIn_size ((nb.take k).filter (freeB d bs u)) vs1 q c'
            rw [hR] at hcK hD hjq hRS
            obtain ⟨kk, hkk1, hkk2, hkk3, hkk4⟩ := hRS
            have hfl : ((nb.take k).filter (freeB d bs u)).length ≤ k := Nat.le_trans (List.length_filter_le _ _) (by rw [List.length_take]; omega)
            have bcK : 0 ≤ cK ∧ cK ≤ 20000000 := by rw [hcK, hkk4]; omega
            obtain ⟨bcK1, bcK2⟩ := bcK
            have HRR := Aside0.mk hR
            have HCK := Aside0.mk hcK
            have HO := Aside0.mk hO
            have HD8 := Aside0.mk hD
            have HST := Aside0.mk hst
            have HVV := Aside0.mk hvv
            have HB := Aside0.mk hB
            have HJQ := Aside0.mk hjq
            have HRL := Aside0.mk (show R.1.length ≤ 9900000 ∧ R.2.1.length + jk4.length ≤ 9900000 from by have := HL.out; have := HV1.out.1; omega)
            have hpos := hO.pos
            have HPOS := Aside0.mk hpos
            clear hrel hO hD hst hvv hB hjq hpos hR hcK hkk1 hkk2 hkk3 hkk4 hfl
            by_cases hlt : k < nb.length
            · have hdk : decide (k < nb.length) = true := decide_eq_true hlt
              obtain ⟨v, hv⟩ : ∃ v, nb[k] = v := ⟨_, rfl⟩
              have HV := Aside0.mk hv
              have hvm : v ∈ outN zs es u := by rw [HNB.out, ← hv]; exact List.getElem_mem _
              have HVM := Aside0.mk (outN_mem hvm)
              have HVW := Aside0.mk (HE.out.wf v (outN_mem hvm).1)
              have m2 := meth_ID v
              have HTK := Aside0.mk (show nb.take (k + 1) = nb.take k ++ [v] by rw [← hv]; exact List.take_succ_eq_append_getElem hlt)
              clear hv hvm
              go_wp2_with (first
                | (go_at_call 357; refine (next_any lo B b k nb _ HO.out (by omega)).mono ?_; rintro e wn ⟨rfl, hO1, hM1⟩; rw [hdk]; rw [if_pos hlt] at hO1; have HO1 := Aside0.mk hO1; have HD9 := Aside0.mk (HD8.out.mid hM1 HLO.out.1 HLO.out.2.1 HST.out HVV.out); have HS9 := Aside0.mk hM1.size; clear hO1 hM1)
                | (go_at_call 358; refine (nodeI_q lo B b k nb _ HO1.out hlt (by omega)).mono ?_; rintro e wq ⟨rfl, nq, hwq⟩; rw [HV.out]; have HO2 := Aside0.mk (show OIt lo B wq b nb (k + 1) by subst hwq; exact HO1.out.far (fun _ _ _ => rfl)); have HS10 := Aside0.mk (show wn.heap.size ≤ wq.heap.size by subst hwq; exact Nat.le_refl _); have HD10 := Aside0.mk (HD9.out.below (show Below wn.heap.size wn wq by subst hwq; exact pw_below_drewN (Below.refl _ _) nq)); clear hwq)
                | (go_at_call 290; refine (nodeID_any v _).mono ?_; rintro e wi ⟨rfl, rfl⟩))
              obtain ⟨q0, q1, q3⟩ := HD10.out.cells
              unfold tfV at q1
              have HWA := Aside0.mk ((HE.out.to HD10.out.kp).below (Below.refl _ _).drew)
              by_cases hob : freeB d bs u v = true
              · have HOB := Aside0.mk hob
                clear hob
                go_wp2_with fail
                go_region_held3 (fun w' => w'.cell? ⟨gd, 1, none⟩ = some (.func (.func 110) #[] #[.pointer (some ⟨g1, 0, none⟩), .pointer (some ⟨g2, 0, none⟩)]))
                  (first | exact below_cellOf hbel (by assumption) | go_keep)
                  (first
                    | (go_at_call 266; refine (gEdgeD base bp zs es p u v _ HWA.out.gr HUZ.out HVM.out.1 HVM.out.2).mono ?_; rintro e w8 ⟨x, rfl, hbel⟩; have HB8 := Aside0.mk hbel; have HWA8 := Aside0.mk (HWA.out.below hbel))
                    | (go_at_call 110; refine (free1_any d g1 g2 A c bs u v x _ HWA8.out.c1 HWA8.out.c2 HWA8.out.bC HE.out.bn).mono ?_; rintro e w9 ⟨rfl, hbel⟩; rw [HOB.out]; have HB9 := Aside0.mk hbel))
                have HBB := Aside0.mk (show Below wq.heap.size wq w9 from ((Below.refl wq.heap.size wq).drew.trans (HB8.out.mono (Nat.le_refl _))).trans (HB9.out.mono HB8.out.size))
                have HD11 := Aside0.mk (HD10.out.below HBB.out)
                have HO3 := Aside0.mk (HO2.out.far (fun q hq1 hq2 => HBB.out.block q (by have := HB.out; have := HS9.out; have := HS10.out; omega)))
                have HS11 := Aside0.mk (Nat.le_trans HB.out (Nat.le_trans HS9.out (Nat.le_trans HS10.out HBB.out.size)))
                clear hbel q0 q1 q3 HB8 HB9 HWA HWA8 HBB
                obtain ⟨q0, q1, q3⟩ := HD11.out.cells
                unfold bfV at q0
                have HSN := Aside0.mk (show bfsIn ((nb.take (k + 1)).filter (freeB d bs u)) vs1 q c' = (if v ∈ R.1.map Prod.fst then R else (R.1 ++ [(v, -1)], R.2.1 ++ [v], R.2.2 + 1)) by
                  rw [HTK.out, List.filter_append, List.filter_cons, if_pos HOB.out, List.filter_nil, bfsIn_snoc, HRR.out])
                by_cases hm : v ∈ R.1.map Prod.fst
                · have hdm : decide (v ∈ R.1.map Prod.fst) = true := decide_eq_true hm
                  have HM := Aside0.mk hm
                  clear hm
                  go_wp2_with (go_at_call 113; refine (has_any w0.heap.size (R.1.map Prod.fst) v _ HD11.out.set HVW.out).mono ?_; rintro e w10 ⟨rfl, hbh⟩; rw [hdm]; have HDh := Aside0.mk (HD11.out.below hbh); have HO3h := Aside0.mk (HO3.out.far (fun q hq1 hq2 => hbh.block q (by have := HS11.out; omega))); have HS11h := Aside0.mk (Nat.le_trans HS11.out hbh.size); obtain ⟨z0, z1, z3⟩ := HDh.out.cells; unfold bfV at z0; clear hbh)
                  go_roundw
                  case rel =>
                    have hSN := HSN.out
                    rw [if_pos HM.out] at hSN
                    exact ⟨cK, k + 1, rfl, ⟨st4, vv4, jk4, by omega, HO3h.out, by rw [hSN]; exact HCK.out, by rw [hSN]; exact HDh.out, HST.out, HVV.out, HS11h.out, by rw [hSN]; have := HJQ.out; omega⟩⟩
                  case measure => rw [HO3h.out.pos, HPOS.out]; omega
                · have hdm : decide (v ∈ R.1.map Prod.fst) = false := decide_eq_false hm
                  have HM := Aside0.mk hm
                  clear hm
                  have hR1 : R.1.length ≤ 10000000 := by have := HRL.out; omega
                  have hR2 : (R.1.map Prod.fst).length ≤ 10000000 := by rw [List.length_map]; exact hR1
                  have hR3 : jk4.length + R.2.1.length ≤ 9999999 := by have := HRL.out; omega
                  go_wp2_with (first
                    | (go_at_call 113; refine (has_any w0.heap.size (R.1.map Prod.fst) v _ HD11.out.set HVW.out).mono ?_; rintro e w10 ⟨rfl, hbh⟩; rw [hdm]; have HDh := Aside0.mk (HD11.out.below hbh); have HO3h := Aside0.mk (HO3.out.far (fun q hq1 hq2 => hbh.block q (by have := HS11.out; omega))); have HS11h := Aside0.mk (Nat.le_trans HS11.out hbh.size); obtain ⟨z0, z1, z3⟩ := HDh.out.cells; unfold bfV at z0; clear hbh)
                    | (go_at_call 65; refine (bvisit_any w0.heap.size gv vv4 R.1 v _ HDh.out.vis hR1 HDh.out.L).mono ?_; rintro e w12 ⟨rfl, vv5, wb, hv5, hg5, hg5', hat5⟩; have HD12 := Aside0.mk (HDh.out.visS hv5 hg5 hg5'); have HG5 := Aside0.mk (And.intro hg5 (And.intro hg5' hat5)); obtain ⟨y0, y1, y3⟩ := HD12.out.cells; clear hv5 hg5 hg5' hat5)
                    | (go_at_call 114; refine (add_any w0.heap.size (R.1.map Prod.fst) v _ HD12.out.set HVW.out hR2).mono ?_; rintro e w13 ⟨rfl, hs6, hg6⟩; have HD13 := Aside0.mk (HD12.out.setS hs6 hg6); have HG6 := Aside0.mk hg6; clear hs6 hg6)
                    | (go_at_call 112; refine (enq_any w0.heap.size gd (bfV gv) (tfV g1 g2) (.map (some w0.heap.size)) st4 jk4 R.2.1 v _ HD13.out.que hR3 HD13.out.L).mono ?_; rintro e w14 ⟨rfl, st5, jk5, hq7, hj7, hk7, hat7⟩; have HD14 := Aside0.mk (HD13.out.queS hq7 hk7); have HG7 := Aside0.mk (And.intro hj7 (And.intro hk7 hat7)); clear hq7 hj7 hk7 hat7))
                  have hOn : Aside0 (OIt lo B w14 b nb (k + 1) ∧ B ≤ w14.heap.size ∧ w10.heap.size ≤ w12.heap.size ∧ w10.heap.size ≤ w13.heap.size) := by
                    have s5 := Nat.le_trans HG5.out.1.size HG5.out.2.1.size
                    have s6 := HG6.out.size
                    have s7 := HG7.out.2.1.size
                    have hB9 := HS11h.out
                    have hlo := HLO.out
                    refine ⟨HO3h.out.far (fun x hx1 hx2 => ?_), by omega, by omega, by omega⟩
                    have e5 : w12.heap[x]? = w10.heap[x]? := two_turns HG5.out.1 HG5.out.2.1 (by omega) (fun e => by have := HVV.out x e; omega) (by omega)
                    have e6 : w13.heap[x]? = w12.heap[x]? := HG6.out.block x (by omega) (fun e => by have := Option.some.inj e; omega)
                    have e7 : w14.heap[x]? = w13.heap[x]? := HG7.out.2.1.block x (by omega) (fun e => by
                      rcases e with e | e
                      · omega
                      · have := HST.out x e; omega)
                    rw [e7, e6, e5]
                  go_roundw
                  case rel =>
                    have hSN := HSN.out
                    rw [if_neg HM.out] at hSN
                    refine ⟨cK + 1, k + 1, by go_num, ⟨st5, vv5, jk5, by omega, hOn.out.1, by rw [hSN, HCK.out], ?_, fun x hx => ?_, fun x hx => ?_, hOn.out.2.1, ?_⟩⟩
                    · rw [hSN]
                      have := HD14.out
                      rw [show (R.1 ++ [(v, (-1 : Int))]).map Prod.fst = R.1.map Prod.fst ++ [v] by simp]
                      exact this
                    · rcases HG7.out.2.2 with h1 | ⟨y, h1, h2⟩
                      · rw [h1] at hx; exact HST.out x hx
                      · rw [h1] at hx
                        have := Option.some.inj hx
                        have := HS11h.out
                        have := hOn.out
                        omega
                    · rcases HG5.out.2.2 with h1 | ⟨y, h1, h2⟩
                      · rw [h1] at hx; exact HVV.out x hx
                      · rw [h1] at hx
                        have := Option.some.inj hx
                        have := HS11h.out
                        omega
                    · rw [hSN, List.length_append, List.length_singleton]
                      have := HJQ.out
                      have := HG7.out.1
                      omega
                  case measure => rw [hOn.out.1.pos, HPOS.out]; omega
              · have hob' : freeB d bs u v = false := by simpa using hob
                have HOB := Aside0.mk hob'
                clear hob hob'
                go_wp2_with fail
                go_region_held3 (fun w' => w'.cell? ⟨gd, 1, none⟩ = some (.func (.func 110) #[] #[.pointer (some ⟨g1, 0, none⟩), .pointer (some ⟨g2, 0, none⟩)]))
                  (first | exact below_cellOf hbel (by assumption) | go_keep)
                  (first
                    | (go_at_call 266; refine (gEdgeD base bp zs es p u v _ HWA.out.gr HUZ.out HVM.out.1 HVM.out.2).mono ?_; rintro e w8 ⟨x, rfl, hbel⟩; have HB8 := Aside0.mk hbel; have HWA8 := Aside0.mk (HWA.out.below hbel))
                    | (go_at_call 110; refine (free1_any d g1 g2 A c bs u v x _ HWA8.out.c1 HWA8.out.c2 HWA8.out.bC HE.out.bn).mono ?_; rintro e w9 ⟨rfl, hbel⟩; rw [HOB.out]; have HB9 := Aside0.mk hbel))
                have HBB := Aside0.mk (show Below wq.heap.size wq w9 from ((Below.refl wq.heap.size wq).drew.trans (HB8.out.mono (Nat.le_refl _))).trans (HB9.out.mono HB8.out.size))
                have HD11 := Aside0.mk (HD10.out.below HBB.out)
                have HO3 := Aside0.mk (HO2.out.far (fun q hq1 hq2 => HBB.out.block q (by have := HB.out; have := HS9.out; have := HS10.out; omega)))
                have HS11 := Aside0.mk (Nat.le_trans HB.out (Nat.le_trans HS9.out (Nat.le_trans HS10.out HBB.out.size)))
                clear hbel q0 q1 q3 HB8 HB9 HWA HWA8 HBB
                go_wp2
                go_roundw
                case rel =>
                  have hSN : bfsIn ((nb.take (k + 1)).filter (freeB d bs u)) vs1 q c' = R := by
                    rw [HTK.out, List.filter_append, List.filter_cons, if_neg (by rw [HOB.out]; simp), List.filter_nil, List.append_nil, HRR.out]
                  exact ⟨cK, k + 1, rfl, ⟨st4, vv4, jk4, by omega, HO3.out, by rw [hSN]; exact HCK.out, by rw [hSN]; exact HD11.out, HST.out, HVV.out, HS11.out, by rw [hSN]; have := HJQ.out; omega⟩⟩
                case measure => rw [HO3.out.pos, HPOS.out]; omega
            · have hke : k = nb.length := by
                have := HPOS.out
                omega
              have hdk : decide (k < nb.length) = false := decide_eq_false hlt
              have HFIN := Aside0.mk (show bfsIn (adjF d zs es bs u) vs1 q c' = R by
                rw [← HRR.out, hke, List.take_length, ← HNB.out]; rfl)
              have HMEM := Aside0.mk (bfsIn_memq (adjF d zs es bs u) vs1 q c' (fun x => x ∈ zs) (fun x hx => (outN_mem (List.mem_filter.1 hx).1).1) HZ.out)
              have HSZ := Aside0.mk (show ∃ kk : Nat, kk ≤ 1000 ∧ R.1.length = vs1.length + kk ∧ R.2.1.length = q.length + kk ∧ cK = c' + kk by
                obtain ⟨kk, h1, h2, h3, h4⟩ := bfsIn_size (adjF d zs es bs u) vs1 q c'
                rw [HFIN.out] at h2 h3 h4
                have hal : (adjF d zs es bs u).length ≤ 1000 := by unfold adjF; exact Nat.le_trans (List.length_filter_le _ _) (by rw [HNB.out]; exact hnl)
                exact ⟨kk, by omega, h2, h3, by rw [HCK.out]; exact h4⟩)
              by_cases hn0 : n' - 1 = 0
              · have hnb : (n' - 1 == 0) = true := by simpa using hn0
                have HN0 := Aside0.mk hn0
                clear hn0
                go_wp2_with (go_at_call 357; refine (next_any lo B b k nb _ HO.out (by omega)).mono ?_; rintro e wn ⟨rfl, hO1, hM1⟩; rw [hdk]; have HD9 := Aside0.mk (HD8.out.mid hM1 HLO.out.1 HLO.out.2.1 HST.out HVV.out); clear hO1 hM1)
                go_roundg k1
                case measure => omega
                case rel =>
                  have hr := HR.out
                  rw [if_pos HN0.out, HFIN.out, ← HCK.out] at hr
                  obtain ⟨kk, z1, z2, z3, z4⟩ := HSZ.out
                  have hm := HMEM.out
                  rw [HFIN.out] at hm
                  refine ⟨d' + 1, 0, cK, by go_num, rfl, rfl, ⟨st4, vv4, jk4, R.2.1, R.1, HD9.out, hr, ?_, ?_, ?_, ?_, ?_, ?_, ?_, ?_, ?_, hm⟩⟩
                  all_goals (have hl := HL.out; have hbn := HBN.out; have hv1 := HV1.out.1; have hjq := HJQ.out; omega)
              · have hnb : (n' - 1 == 0) = false := by simpa using hn0
                have HN0 := Aside0.mk hn0
                clear hn0
                go_wp2_with (go_at_call 357; refine (next_any lo B b k nb _ HO.out (by omega)).mono ?_; rintro e wn ⟨rfl, hO1, hM1⟩; rw [hdk]; have HD9 := Aside0.mk (HD8.out.mid hM1 HLO.out.1 HLO.out.2.1 HST.out HVV.out); clear hO1 hM1)
                go_roundg k1
                case measure => omega
                case rel =>
                  have hr := HR.out
                  rw [if_neg HN0.out, HFIN.out, ← HCK.out] at hr
                  obtain ⟨kk, z1, z2, z3, z4⟩ := HSZ.out
                  have hm := HMEM.out
                  rw [HFIN.out] at hm
                  refine ⟨d', cK, n' - 1, rfl, rfl, by go_num, ⟨st4, vv4, jk4, R.2.1, R.1, HD9.out, hr, ?_, ?_, ?_, ?_, ?_, ?_, ?_, ?_, ?_, hm⟩⟩
                  all_goals (have hl := HL.out; have hbn := HBN.out; have hv1 := HV1.out.1; have hjq := HJQ.out; omega)
end Go.Proofs.YtfkmpnpliadohaaGreat.R

set_option linter.unusedVariables false
set_option linter.unusedSimpArgs false
/- The walk breadth first, of a graph without directions. -/
namespace Go.Proofs.YtfkmpnpliadohaaGreat.R
open Go.RowKit Go.Lab Go.Maps Go.Proofs.YtfkmpnpliadohaaGreatW.PrintWords Go.Proofs.YtfkmpnpliadohaaGreatW.PrintLast Go.Proofs.YtfkmpnpliadohaaGreatW.PrintMore PL


set_option maxHeartbeats 16000000 in
set_option maxRecDepth 100000 in
theorem bfsU_any (w0 : World) (d : Bool) (gd gv gu g1 g2 base bp : Nat) (zs : List Int) (es : List S38) (p : Pl) (A : Option Addr) (c : Nat) (bs : List S38) (t s0 : Int) (K : Nat) (hK : K ≤ 9000) (r : List (Int × Int) × Option Int)
    (h : BEnv w0 d gd gv gu g1 g2 base bp zs es p A c bs t) (hs0 : s0 ∈ zs) (hr : bfsF (adjF d zs es bs) t K [s0] [(s0, -1)] 0 0 1 = some r) :
    Calls Tryz.prog 68 #[.pointer (some ⟨gd, 0, none⟩), .iface 177 (.agg #[.pointer (some ⟨bp, 0, none⟩)]), .iface 118 (.int .i64 s0), .func (.func 69) #[] #[.pointer (some ⟨gv, 0, none⟩), .pointer (some ⟨gu, 0, none⟩)]] w0 fun e w' =>
      e = .returned (foundV r.2) ∧ BfsEnd w0 w' gd gv r.1 := by
  have HE := Aside0.mk h
  have HS := Aside0.mk (BW.start h)
  have hnn := h.at0.gr.hn
  have e3 : w0.cell? ⟨gd, 4, none⟩ = some (.map none) := (blk_cell h.hd 4).trans rfl
  have f3 := blk_frozen h.hd 4
  have hgl := blk_lt h.hd
  have hne : gd ≠ w0.heap.size := by omega
  have mF := meth_UFrom' ⟨bp, 0, none⟩
  have mE := meth_UEdge' ⟨bp, 0, none⟩
  have kV := fnB gv
  have kT := fnT g1 g2
  have kU := fnBU gv gu
  have kM := mapNil
  have kN := run_map114
  have HR := Aside0.mk hr
  have HS0 := Aside0.mk hs0
  have HW0 := Aside0.mk (h.wf s0 hs0)
  have m0 := meth_ID s0
  have hd0 : decide (s0 ∈ ([] : List Int)) = false := rfl
  clear h hr hs0
  go_enter Tryz.func68, Tryz.ntmps68
  go_wp2_with (go_at_call 112; refine (enq_any w0.heap.size gd (bfV gv) (tfV g1 g2) (.map (some w0.heap.size)) (.slice none 0 0) [] [] s0 _ HS.out.que (by simp) HS.out.L).mono ?_; rintro e w1 ⟨rfl, st1, jk1, hq1, hj1, hk1, hat⟩; have HD := Aside0.mk (HS.out.queS hq1 hk1); have HJ := Aside0.mk hj1; clear hq1 hk1 hat hj1)
  obtain ⟨q0, q1, q3⟩ := HD.out.cells
  unfold bfV at q0
  go_wp2_with fail
  go_region_held3 (fun w' => w'.cell? ⟨gd, 0, none⟩ = some (.func (.func 65) #[] #[.pointer (some ⟨gv, 0, none⟩)]) ∧ w'.cell? ⟨gd, 4, none⟩ = some (.map (some w0.heap.size)))
    (first | exact ⟨below_cellOf hbel (by assumption), below_cellOf hbel (by assumption)⟩ | go_keep)
    (first
      | (go_at_call 290; refine (nodeID_any s0 _).mono ?_; rintro e w3 ⟨rfl, rfl⟩)
      | (go_at_call 113; refine (has_any w0.heap.size [] s0 _ (HD.out.below (by repeat (first | exact Below.refl _ _ | apply below_drew1))).set HW0.out).mono ?_; rintro e w3 ⟨rfl, hbel⟩; rw [hd0]; have HBh := Aside0.mk hbel))
  have HDh := Aside0.mk (HD.out.below (show Below w1.heap.size w1 w3 from (Below.refl w1.heap.size w1).drew.trans (HBh.out.mono (Nat.le_refl _))))
  clear q0 q1 q3 hbel HBh
  obtain ⟨q0, q1, q3⟩ := HDh.out.cells
  unfold bfV at q0
  go_wp2_with (go_at_call 65; refine (bvisit_any w0.heap.size gv (.slice none 0 0) [] s0 _ HDh.out.vis (by simp) HDh.out.L).mono ?_; rintro e w4 ⟨rfl, vv4, wb, hv4, hg4, hg4', hat4⟩; have HD4 := Aside0.mk (HDh.out.visS hv4 hg4 hg4'); obtain ⟨p0, p1, p3⟩ := HD4.out.cells; clear hv4 hg4 hg4' hat4)
  go_wp2_with fail
  go_region_held3 (fun w' => w'.cell? ⟨gd, 4, none⟩ = some (.map (some w0.heap.size)))
    (first | exact hkeep | go_keep)
    (first
      | (go_at_call 290; refine (nodeID_any s0 _).mono ?_; rintro e w3 ⟨rfl, rfl⟩)
      | (go_at_call 114; refine (add_any w0.heap.size [] s0 _ (HD4.out.below (by repeat (first | exact Below.refl _ _ | apply below_drew1))).set HW0.out (by simp)).mono ?_; rintro e w5 ⟨rfl, hs5, hg5⟩; have HD5 := Aside0.mk ((HD4.out.below (by repeat (first | exact Below.refl _ _ | apply below_drew1))).setS hs5 hg5); have hkeep := HD5.out.cells.2.2; clear hs5 hg5))
  have HI := Aside0.mk (show BwI w0 w5 gd gv (bfV gv) (tfV g1 g2) (adjF d zs es bs) t zs K r K 0 0 1 from ⟨_, _, jk1, _, [(s0, -1)], HD5.out, HR.out, by have := HJ.out; simp at this ⊢; omega, by simp, by omega, by omega, by omega, by omega, by omega, by omega, Nat.le_refl _, fun x hx => by simp at hx; subst hx; exact HS0.out⟩)
  clear HD HDh HD4 HD5 e3 f3 q0 q1 q3 p0 p1 p3 hkeep
  go_wp2
  go_loopg [9, 10, 11] K (fun kq v9 v10 v11 w' => ∃ d' c' n' : Int, v9 = .int .i64 d' ∧ v10 = .int .i64 c' ∧ v11 = .int .i64 n' ∧ Aside0 (BwI w0 w' gd gv (bfV gv) (tfV g1 g2) (adjF d zs es bs) t zs K r kq d' c' n'))
  case atStart => exact ⟨0, 0, 1, rfl, rfl, rfl, HI⟩
  case round =>
    clear HI HS HR HS0
    obtain ⟨d', c', n', rfl, rfl, rfl, hrel⟩ := hrel
    obtain ⟨st, vv, jk, q, vs, hD, hr, hl1, hl2, hd1, hd2, hc1, hc2, hn1, hn2, hkq, hz⟩ := hrel.out
    cases gk with
    | zero => exact absurd hr (by simp [bfsF])
    | succ k1 =>
      have HD := Aside0.mk hD
      have hql : jk.length + q.length ≤ 10000000 := by omega
      have hvl : vs.length ≤ 10000000 := by omega
      cases q with
      | nil =>
        have hr' : some (vs, (none : Option Int)) = some r := hr
        obtain rfl := Option.some.inj hr'
        clear hrel hr hr' hl1 hl2 hz hD
        go_wp2_with (go_at_call 115; refine (qlen_any _ gd _ _ _ _ jk [] _ HD.out.que hql).mono ?_; rintro e w2 ⟨rfl, hb2⟩; rw [show (([] : List Int).length : Int) = 0 from rfl]; have HD2 := Aside0.mk (HD.out.below hb2); clear hb2)
        go_ret
        exact ⟨rfl, _, HD2.out.vis, HD2.out.kp⟩
      | cons u q =>
        have hr' : (if u = t then some (putD u d' vs, some u) else if n' - 1 = 0 then bfsF (adjF d zs es bs) t k1 (bfsIn (adjF d zs es bs u) (putD u d' vs) q c').2.1 (bfsIn (adjF d zs es bs u) (putD u d' vs) q c').1 (d' + 1) 0 (bfsIn (adjF d zs es bs u) (putD u d' vs) q c').2.2 else bfsF (adjF d zs es bs) t k1 (bfsIn (adjF d zs es bs u) (putD u d' vs) q c').2.1 (bfsIn (adjF d zs es bs u) (putD u d' vs) q c').1 d' (bfsIn (adjF d zs es bs u) (putD u d' vs) q c').2.2 (n' - 1)) = some r := hr
        have hlen : ((u :: q).length : Int) = (q.length : Int) + 1 := by simp
        have hlen' : (u :: q).length = q.length + 1 := by simp
        rw [hlen'] at hl1
        have HN := Aside0.mk hlen
        have HW := Aside0.mk (HE.out.wf u (hz u (by simp)))
        have HUZ := Aside0.mk (hz u (by simp))
        have HZ := Aside0.mk (show ∀ x ∈ q, x ∈ zs from fun x hx => hz x (by simp [hx]))
        have m1 := meth_ID u
        have hk1 : K - k1 = K - (k1 + 1) + 1 := by omega
        have HL := Aside0.mk (And.intro hl1 (And.intro hl2 (And.intro hkq hk1)))
        have HGU := Aside0.mk (show vv.ownBlock ≠ some gu from fun e => by have h1 := hD.vvBase e; have h2 := World.block_lt_of_cell? w0 _ HE.out.at0.cu; simp at h2; omega)
        have bn1 : -10000000 ≤ n' := by omega
        have bn2 : n' ≤ 10000000 := by omega
        have bd2 : d' ≤ 10000000 := by omega
        have bc2 : c' ≤ 10000000 := by omega
        have HBN := Aside0.mk (And.intro hd2 (And.intro hc2 (And.intro hn1 hn2)))
        clear hlen hlen' hz hl1 hl2 hkq hrel hD hr hd2 hc2 hn1 hn2 hk1
        by_cases hut : u = t
        · rw [if_pos hut] at hr'
          have ht : decide (u = t) = true := decide_eq_true hut
          obtain rfl := Option.some.inj hr'
          clear hr' hut
          go_wp2_with (first
            | (go_at_call 115; refine (qlen_any _ gd _ _ _ _ jk (u :: q) _ HD.out.que hql).mono ?_; rintro e w2 ⟨rfl, hb2⟩; rw [HN.out]; have HD2 := Aside0.mk (HD.out.below hb2); clear hb2)
            | (go_at_call 116; refine (deq_any _ gd _ _ _ _ jk q u _ HD2.out.que hql).mono ?_; rintro e w3 ⟨rfl, st3, jk3, hq3, hj3, hs3, hk3⟩; have HD3 := Aside0.mk (HD2.out.queS hq3 hk3); clear hq3 hj3 hs3 hk3)
            | (go_at_call 69; refine (buntil_any w0.heap.size gv gu vv vs t u d' _ HD3.out.vis hvl (HE.out.to HD3.out.kp).cu HGU.out).mono ?_; rintro e w4 ⟨rfl, hv4, hg4⟩; have HD4 := Aside0.mk (HD3.out.depS hv4 hg4); clear hv4 hg4; rw [ht]))
          go_ret
          exact ⟨rfl, _, HD4.out.vis, HD4.out.kp⟩
        · rw [if_neg hut] at hr'
          have ht : decide (u = t) = false := decide_eq_false hut
          have HR := Aside0.mk hr'
          clear hr' hut
          go_wp2_with (first
            | (go_at_call 115; refine (qlen_any _ gd _ _ _ _ jk (u :: q) _ HD.out.que hql).mono ?_; rintro e w2 ⟨rfl, hb2⟩; rw [HN.out]; have HD2 := Aside0.mk (HD.out.below hb2); clear hb2)
            | (go_at_call 116; refine (deq_any _ gd _ _ _ _ jk q u _ HD2.out.que hql).mono ?_; rintro e w3 ⟨rfl, st3, jk3, hq3, hj3, hs3, hk3⟩; have HD3 := Aside0.mk (HD2.out.queS hq3 hk3); have HJ3 := Aside0.mk hj3; clear hq3 hj3 hs3 hk3)
            | (go_at_call 69; refine (buntil_any w0.heap.size gv gu vv vs t u d' _ HD3.out.vis hvl (HE.out.to HD3.out.kp).cu HGU.out).mono ?_; rintro e w4 ⟨rfl, hv4, hg4⟩; have HD6 := Aside0.mk (HD3.out.depS hv4 hg4); clear hv4 hg4; rw [ht])
            | (go_at_call 290; refine (nodeID_any u _).mono ?_; rintro e w3 ⟨rfl, rfl⟩)
            | (go_at_call 330; refine (gFromU base bp zs es p u _ (HE.out.to HD6.out.kp).gr HUZ.out).mono ?_; rintro e w7 ⟨b, rfl, hit, hb7⟩; have HD7 := Aside0.mk (HD6.out.below hb7); have HIT := Aside0.mk hit; have HB7 := Aside0.mk hb7; clear hit hb7))
          obtain ⟨nb, hnb⟩ : ∃ nb, outN zs es u = nb := ⟨_, rfl⟩
          rw [hnb] at HIT
          have HNB := Aside0.mk hnb
          have hnl : nb.length ≤ 1000 := by rw [← hnb]; exact Nat.le_trans (outN_len zs es u) hnn
          clear hnb
          obtain ⟨vs1, hvs1⟩ : ∃ vs1, putD u d' vs = vs1 := ⟨_, rfl⟩
          rw [hvs1] at HD6 HD7 HR
          have HV1 := Aside0.mk (show vs1.length = vs.length ∧ vs1.map Prod.fst = vs.map Prod.fst by rw [← hvs1]; exact ⟨putD_len _ _ _, putD_fst _ _ _⟩)
          rw [← HV1.out.2] at HD6 HD7
          clear hvs1
          have HLO := Aside0.mk (show w0.heap.size ≤ w4.heap.size ∧ w0.heap.size < w4.heap.size ∧ gd < w0.heap.size ∧ gv < w0.heap.size from ⟨HD6.out.L, HD6.out.set.lt, HD6.out.gd0, HD6.out.gv0⟩)
          have HI2 := Aside0.mk (show InB w0 w7 gd gv (bfV gv) (tfV g1 g2) w4.heap.size w7.heap.size b nb (freeB d bs u) q vs1 c' c' (jk.length + q.length + 1) 0 from ⟨st3, vv, jk3, Nat.zero_le _, HIT.out, rfl, HD7.out, fun x hx => .inl (HD6.out.stLt hx), fun x hx => .inl (HD6.out.vvLt hx), Nat.le_refl _, by have := HJ3.out; simp [bfsIn]; omega⟩)
          have n1 := meth_ONext ⟨b, 0, none⟩
          have n2 := meth_ONode ⟨b, 0, none⟩
          clear HD HD2 HD3 HD6 HD7 HIT HB7 HJ3
          generalize w4.heap.size = lo at HI2 HLO
          generalize w7.heap.size = B at HI2
          go_loopw [10] (fun v10 wr => ∃ (cK : Int) (k : Nat), v10 = .int .i64 cK ∧ Aside0 (InB w0 wr gd gv (bfV gv) (tfV g1 g2) lo B b nb (freeB d bs u) q vs1 c' cK (jk.length + q.length + 1) k)) (fun _ wr => nb.length + 2 - posI wr b)
          case atStart => exact ⟨c', 0, rfl, HI2⟩
          case round =>
            clear HI2
            obtain ⟨cK, k, rfl, hrel⟩ := hrel
            obtain ⟨st4, vv4, jk4, hk, hO, hcK, hD, hst, hvv, hB, hjq⟩ := hrel.out
            obtain ⟨R, hR⟩ : ∃ R, bfsIn ((nb.take k).filter (freeB d bs u)) vs1 q c' = R := ⟨_, rfl⟩
            have hRS := bfsIn_size ((nb.take k).filter (freeB d bs u)) vs1 q c'
            rw [hR] at hcK hD hjq hRS
            obtain ⟨kk, hkk1, hkk2, hkk3, hkk4⟩ := hRS
            have hfl : ((nb.take k).filter (freeB d bs u)).length ≤ k := Nat.le_trans (List.length_filter_le _ _) (by rw [List.length_take]; omega)
            have bcK : 0 ≤ cK ∧ cK ≤ 20000000 := by rw [hcK, hkk4]; omega
            obtain ⟨bcK1, bcK2⟩ := bcK
            have HRR := Aside0.mk hR
            have HCK := Aside0.mk hcK
            have HO := Aside0.mk hO
            have HD8 := Aside0.mk hD
            have HST := Aside0.mk hst
            have HVV := Aside0.mk hvv
            have HB := Aside0.mk hB
            have HJQ := Aside0.mk hjq
            have HRL := Aside0.mk (show R.1.length ≤ 9900000 ∧ R.2.1.length + jk4.length ≤ 9900000 from by have := HL.out; have := HV1.out.1; omega)
            have hpos := hO.pos
            have HPOS := Aside0.mk hpos
            clear hrel hO hD hst hvv hB hjq hpos hR hcK hkk1 hkk2 hkk3 hkk4 hfl
            by_cases hlt : k < nb.length
            · have hdk : decide (k < nb.length) = true := decide_eq_true hlt
              obtain ⟨v, hv⟩ : ∃ v, nb[k] = v := ⟨_, rfl⟩
              have HV := Aside0.mk hv
              have hvm : v ∈ outN zs es u := by rw [HNB.out, ← hv]; exact List.getElem_mem _
              have HVM := Aside0.mk (outN_mem hvm)
              have HVW := Aside0.mk (HE.out.wf v (outN_mem hvm).1)
              have m2 := meth_ID v
              have HTK := Aside0.mk (show nb.take (k + 1) = nb.take k ++ [v] by rw [← hv]; exact List.take_succ_eq_append_getElem hlt)
              clear hv hvm
              go_wp2_with (first
                | (go_at_call 357; refine (next_any lo B b k nb _ HO.out (by omega)).mono ?_; rintro e wn ⟨rfl, hO1, hM1⟩; rw [hdk]; rw [if_pos hlt] at hO1; have HO1 := Aside0.mk hO1; have HD9 := Aside0.mk (HD8.out.mid hM1 HLO.out.1 HLO.out.2.1 HST.out HVV.out); have HS9 := Aside0.mk hM1.size; clear hO1 hM1)
                | (go_at_call 358; refine (nodeI_q lo B b k nb _ HO1.out hlt (by omega)).mono ?_; rintro e wq ⟨rfl, nq, hwq⟩; rw [HV.out]; have HO2 := Aside0.mk (show OIt lo B wq b nb (k + 1) by subst hwq; exact HO1.out.far (fun _ _ _ => rfl)); have HS10 := Aside0.mk (show wn.heap.size ≤ wq.heap.size by subst hwq; exact Nat.le_refl _); have HD10 := Aside0.mk (HD9.out.below (show Below wn.heap.size wn wq by subst hwq; exact pw_below_drewN (Below.refl _ _) nq)); clear hwq)
                | (go_at_call 290; refine (nodeID_any v _).mono ?_; rintro e wi ⟨rfl, rfl⟩))
              obtain ⟨q0, q1, q3⟩ := HD10.out.cells
              unfold tfV at q1
              have HWA := Aside0.mk ((HE.out.to HD10.out.kp).below (Below.refl _ _).drew)
              by_cases hob : freeB d bs u v = true
              · have HOB := Aside0.mk hob
                clear hob
                go_wp2_with fail
                go_region_held3 (fun w' => w'.cell? ⟨gd, 1, none⟩ = some (.func (.func 110) #[] #[.pointer (some ⟨g1, 0, none⟩), .pointer (some ⟨g2, 0, none⟩)]))
                  (first | exact below_cellOf hbel (by assumption) | go_keep)
                  (first
                    | (go_at_call 329; refine (gEdgeU base bp zs es p u v _ HWA.out.gr HUZ.out HVM.out.1 HVM.out.2).mono ?_; rintro e w8 ⟨x, rfl, hbel⟩; have HB8 := Aside0.mk hbel; have HWA8 := Aside0.mk (HWA.out.below hbel))
                    | (go_at_call 110; refine (free1_any d g1 g2 A c bs u v x _ HWA8.out.c1 HWA8.out.c2 HWA8.out.bC HE.out.bn).mono ?_; rintro e w9 ⟨rfl, hbel⟩; rw [HOB.out]; have HB9 := Aside0.mk hbel))
                have HBB := Aside0.mk (show Below wq.heap.size wq w9 from ((Below.refl wq.heap.size wq).drew.trans (HB8.out.mono (Nat.le_refl _))).trans (HB9.out.mono HB8.out.size))
                have HD11 := Aside0.mk (HD10.out.below HBB.out)
                have HO3 := Aside0.mk (HO2.out.far (fun q hq1 hq2 => HBB.out.block q (by have := HB.out; have := HS9.out; have := HS10.out; omega)))
                have HS11 := Aside0.mk (Nat.le_trans HB.out (Nat.le_trans HS9.out (Nat.le_trans HS10.out HBB.out.size)))
                clear hbel q0 q1 q3 HB8 HB9 HWA HWA8 HBB
                obtain ⟨q0, q1, q3⟩ := HD11.out.cells
                unfold bfV at q0
                have HSN := Aside0.mk (show bfsIn ((nb.take (k + 1)).filter (freeB d bs u)) vs1 q c' = (if v ∈ R.1.map Prod.fst then R else (R.1 ++ [(v, -1)], R.2.1 ++ [v], R.2.2 + 1)) by
                  rw [HTK.out, List.filter_append, List.filter_cons, if_pos HOB.out, List.filter_nil, bfsIn_snoc, HRR.out])
                by_cases hm : v ∈ R.1.map Prod.fst
                · have hdm : decide (v ∈ R.1.map Prod.fst) = true := decide_eq_true hm
                  have HM := Aside0.mk hm
                  clear hm
                  go_wp2_with (go_at_call 113; refine (has_any w0.heap.size (R.1.map Prod.fst) v _ HD11.out.set HVW.out).mono ?_; rintro e w10 ⟨rfl, hbh⟩; rw [hdm]; have HDh := Aside0.mk (HD11.out.below hbh); have HO3h := Aside0.mk (HO3.out.far (fun q hq1 hq2 => hbh.block q (by have := HS11.out; omega))); have HS11h := Aside0.mk (Nat.le_trans HS11.out hbh.size); obtain ⟨z0, z1, z3⟩ := HDh.out.cells; unfold bfV at z0; clear hbh)
                  go_roundw
                  case rel =>
                    have hSN := HSN.out
                    rw [if_pos HM.out] at hSN
                    exact ⟨cK, k + 1, rfl, ⟨st4, vv4, jk4, by omega, HO3h.out, by rw [hSN]; exact HCK.out, by rw [hSN]; exact HDh.out, HST.out, HVV.out, HS11h.out, by rw [hSN]; have := HJQ.out; omega⟩⟩
                  case measure => rw [HO3h.out.pos, HPOS.out]; omega
                · have hdm : decide (v ∈ R.1.map Prod.fst) = false := decide_eq_false hm
                  have HM := Aside0.mk hm
                  clear hm
                  have hR1 : R.1.length ≤ 10000000 := by have := HRL.out; omega
                  have hR2 : (R.1.map Prod.fst).length ≤ 10000000 := by rw [List.length_map]; exact hR1
                  have hR3 : jk4.length + R.2.1.length ≤ 9999999 := by have := HRL.out; omega
                  go_wp2_with (first
                    | (go_at_call 113; refine (has_any w0.heap.size (R.1.map Prod.fst) v _ HD11.out.set HVW.out).mono ?_; rintro e w10 ⟨rfl, hbh⟩; rw [hdm]; have HDh := Aside0.mk (HD11.out.below hbh); have HO3h := Aside0.mk (HO3.out.far (fun q hq1 hq2 => hbh.block q (by have := HS11.out; omega))); have HS11h := Aside0.mk (Nat.le_trans HS11.out hbh.size); obtain ⟨z0, z1, z3⟩ := HDh.out.cells; unfold bfV at z0; clear hbh)
                    | (go_at_call 65; refine (bvisit_any w0.heap.size gv vv4 R.1 v _ HDh.out.vis hR1 HDh.out.L).mono ?_; rintro e w12 ⟨rfl, vv5, wb, hv5, hg5, hg5', hat5⟩; have HD12 := Aside0.mk (HDh.out.visS hv5 hg5 hg5'); have HG5 := Aside0.mk (And.intro hg5 (And.intro hg5' hat5)); obtain ⟨y0, y1, y3⟩ := HD12.out.cells; clear hv5 hg5 hg5' hat5)
                    | (go_at_call 114; refine (add_any w0.heap.size (R.1.map Prod.fst) v _ HD12.out.set HVW.out hR2).mono ?_; rintro e w13 ⟨rfl, hs6, hg6⟩; have HD13 := Aside0.mk (HD12.out.setS hs6 hg6); have HG6 := Aside0.mk hg6; clear hs6 hg6)
                    | (go_at_call 112; refine (enq_any w0.heap.size gd (bfV gv) (tfV g1 g2) (.map (some w0.heap.size)) st4 jk4 R.2.1 v _ HD13.out.que hR3 HD13.out.L).mono ?_; rintro e w14 ⟨rfl, st5, jk5, hq7, hj7, hk7, hat7⟩; have HD14 := Aside0.mk (HD13.out.queS hq7 hk7); have HG7 := Aside0.mk (And.intro hj7 (And.intro hk7 hat7)); clear hq7 hj7 hk7 hat7))
                  have hOn : Aside0 (OIt lo B w14 b nb (k + 1) ∧ B ≤ w14.heap.size ∧ w10.heap.size ≤ w12.heap.size ∧ w10.heap.size ≤ w13.heap.size) := by
                    have s5 := Nat.le_trans HG5.out.1.size HG5.out.2.1.size
                    have s6 := HG6.out.size
                    have s7 := HG7.out.2.1.size
                    have hB9 := HS11h.out
                    have hlo := HLO.out
                    refine ⟨HO3h.out.far (fun x hx1 hx2 => ?_), by omega, by omega, by omega⟩
                    have e5 : w12.heap[x]? = w10.heap[x]? := two_turns HG5.out.1 HG5.out.2.1 (by omega) (fun e => by have := HVV.out x e; omega) (by omega)
                    have e6 : w13.heap[x]? = w12.heap[x]? := HG6.out.block x (by omega) (fun e => by have := Option.some.inj e; omega)
                    have e7 : w14.heap[x]? = w13.heap[x]? := HG7.out.2.1.block x (by omega) (fun e => by
                      rcases e with e | e
                      · omega
                      · have := HST.out x e; omega)
                    rw [e7, e6, e5]
                  go_roundw
                  case rel =>
                    have hSN := HSN.out
                    rw [if_neg HM.out] at hSN
                    refine ⟨cK + 1, k + 1, by go_num, ⟨st5, vv5, jk5, by omega, hOn.out.1, by rw [hSN, HCK.out], ?_, fun x hx => ?_, fun x hx => ?_, hOn.out.2.1, ?_⟩⟩
                    · rw [hSN]
                      have := HD14.out
                      rw [show (R.1 ++ [(v, (-1 : Int))]).map Prod.fst = R.1.map Prod.fst ++ [v] by simp]
                      exact this
                    · rcases HG7.out.2.2 with h1 | ⟨y, h1, h2⟩
                      · rw [h1] at hx; exact HST.out x hx
                      · rw [h1] at hx
                        have := Option.some.inj hx
                        have := HS11h.out
                        have := hOn.out
                        omega
                    · rcases HG5.out.2.2 with h1 | ⟨y, h1, h2⟩
                      · rw [h1] at hx; exact HVV.out x hx
                      · rw [h1] at hx
                        have := Option.some.inj hx
                        have := HS11h.out
                        omega
                    · rw [hSN, List.length_append, List.length_singleton]
                      have := HJQ.out
                      have := HG7.out.1
                      omega
                  case measure => rw [hOn.out.1.pos, HPOS.out]; omega
              · have hob' : freeB d bs u v = false := by simpa using hob
                have HOB := Aside0.mk hob'
                clear hob hob'
                go_wp2_with fail
                go_region_held3 (fun w' => w'.cell? ⟨gd, 1, none⟩ = some (.func (.func 110) #[] #[.pointer (some ⟨g1, 0, none⟩), .pointer (some ⟨g2, 0, none⟩)]))
                  (first | exact below_cellOf hbel (by assumption) | go_keep)
                  (first
                    | (go_at_call 329; refine (gEdgeU base bp zs es p u v _ HWA.out.gr HUZ.out HVM.out.1 HVM.out.2).mono ?_; rintro e w8 ⟨x, rfl, hbel⟩; have HB8 := Aside0.mk hbel; have HWA8 := Aside0.mk (HWA.out.below hbel))
                    | (go_at_call 110; refine (free1_any d g1 g2 A c bs u v x _ HWA8.out.c1 HWA8.out.c2 HWA8.out.bC HE.out.bn).mono ?_; rintro e w9 ⟨rfl, hbel⟩; rw [HOB.out]; have HB9 := Aside0.mk hbel))
                have HBB := Aside0.mk (show Below wq.heap.size wq w9 from ((Below.refl wq.heap.size wq).drew.trans (HB8.out.mono (Nat.le_refl _))).trans (HB9.out.mono HB8.out.size))
                have HD11 := Aside0.mk (HD10.out.below HBB.out)
                have HO3 := Aside0.mk (HO2.out.far (fun q hq1 hq2 => HBB.out.block q (by have := HB.out; have := HS9.out; have := HS10.out; omega)))
                have HS11 := Aside0.mk (Nat.le_trans HB.out (Nat.le_trans HS9.out (Nat.le_trans HS10.out HBB.out.size)))
                clear hbel q0 q1 q3 HB8 HB9 HWA HWA8 HBB
                go_wp2
                go_roundw
                case rel =>
                  have hSN : bfsIn ((nb.take (k + 1)).filter (freeB d bs u)) vs1 q c' = R := by
                    rw [HTK.out, List.filter_append, List.filter_cons, if_neg (by rw [HOB.out]; simp), List.filter_nil, List.append_nil, HRR.out]
                  exact ⟨cK, k + 1, rfl, ⟨st4, vv4, jk4, by omega, HO3.out, by rw [hSN]; exact HCK.out, by rw [hSN]; exact HD11.out, HST.out, HVV.out, HS11.out, by rw [hSN]; have := HJQ.out; omega⟩⟩
                case measure => rw [HO3.out.pos, HPOS.out]; omega
            · have hke : k = nb.length := by
                have := HPOS.out
                omega
              have hdk : decide (k < nb.length) = false := decide_eq_false hlt
              have HFIN := Aside0.mk (show bfsIn (adjF d zs es bs u) vs1 q c' = R by
                rw [← HRR.out, hke, List.take_length, ← HNB.out]; rfl)
              have HMEM := Aside0.mk (bfsIn_memq (adjF d zs es bs u) vs1 q c' (fun x => x ∈ zs) (fun x hx => (outN_mem (List.mem_filter.1 hx).1).1) HZ.out)
              have HSZ := Aside0.mk (show ∃ kk : Nat, kk ≤ 1000 ∧ R.1.length = vs1.length + kk ∧ R.2.1.length = q.length + kk ∧ cK = c' + kk by
                obtain ⟨kk, h1, h2, h3, h4⟩ := bfsIn_size (adjF d zs es bs u) vs1 q c'
                rw [HFIN.out] at h2 h3 h4
                have hal : (adjF d zs es bs u).length ≤ 1000 := by unfold adjF; exact Nat.le_trans (List.length_filter_le _ _) (by rw [HNB.out]; exact hnl)
                exact ⟨kk, by omega, h2, h3, by rw [HCK.out]; exact h4⟩)
              by_cases hn0 : n' - 1 = 0
              · have hnb : (n' - 1 == 0) = true := by simpa using hn0
                have HN0 := Aside0.mk hn0
                clear hn0
                go_wp2_with (go_at_call 357; refine (next_any lo B b k nb _ HO.out (by omega)).mono ?_; rintro e wn ⟨rfl, hO1, hM1⟩; rw [hdk]; have HD9 := Aside0.mk (HD8.out.mid hM1 HLO.out.1 HLO.out.2.1 HST.out HVV.out); clear hO1 hM1)
                go_roundg k1
                case measure => omega
                case rel =>
                  have hr := HR.out
                  rw [if_pos HN0.out, HFIN.out, ← HCK.out] at hr
                  obtain ⟨kk, z1, z2, z3, z4⟩ := HSZ.out
                  have hm := HMEM.out
                  rw [HFIN.out] at hm
                  refine ⟨d' + 1, 0, cK, by go_num, rfl, rfl, ⟨st4, vv4, jk4, R.2.1, R.1, HD9.out, hr, ?_, ?_, ?_, ?_, ?_, ?_, ?_, ?_, ?_, hm⟩⟩
                  all_goals (have hl := HL.out; have hbn := HBN.out; have hv1 := HV1.out.1; have hjq := HJQ.out; omega)
              · have hnb : (n' - 1 == 0) = false := by simpa using hn0
                have HN0 := Aside0.mk hn0
                clear hn0
                go_wp2_with (go_at_call 357; refine (next_any lo B b k nb _ HO.out (by omega)).mono ?_; rintro e wn ⟨rfl, hO1, hM1⟩; rw [hdk]; have HD9 := Aside0.mk (HD8.out.mid hM1 HLO.out.1 HLO.out.2.1 HST.out HVV.out); clear hO1 hM1)
                go_roundg k1
                case measure => omega
                case rel =>
                  have hr := HR.out
                  rw [if_neg HN0.out, HFIN.out, ← HCK.out] at hr
                  obtain ⟨kk, z1, z2, z3, z4⟩ := HSZ.out
                  have hm := HMEM.out
                  rw [HFIN.out] at hm
                  refine ⟨d', cK, n' - 1, rfl, rfl, by go_num, ⟨st4, vv4, jk4, R.2.1, R.1, HD9.out, hr, ?_, ?_, ?_, ?_, ?_, ?_, ?_, ?_, ?_, hm⟩⟩
                  all_goals (have hl := HL.out; have hbn := HBN.out; have hv1 := HV1.out.1; have hjq := HJQ.out; omega)
end Go.Proofs.YtfkmpnpliadohaaGreat.R
