import Derived.Test.YtfkmpnpliadohaaGreatFB7
import Derived.Test.YtfkmpnpliadohaaGreatFB4
import Derived.Test.YtfkmpnpliadohaaGreatFB8
set_option linter.unusedVariables false
set_option linter.unusedSimpArgs false
/- The walk depth first. -/
namespace Go.Proofs.YtfkmpnpliadohaaGreat.R
open Go.RowKit Go.Lab Go.Maps Go.Proofs.YtfkmpnpliadohaaGreatW.PrintWords Go.Proofs.YtfkmpnpliadohaaGreatW.PrintLast Go.Proofs.YtfkmpnpliadohaaGreatW.PrintMore PL

def foundV : Option Int → Value
  | none => .nilIface
  | some u => .iface 118 (.int .i64 u)

def vfV (gv : Nat) : Value := .func (.func 70) #[] #[.pointer (some ⟨gv, 0, none⟩)]
def tfV (g1 g2 : Nat) : Value := .func (.func 110) #[] #[.pointer (some ⟨g1, 0, none⟩), .pointer (some ⟨g2, 0, none⟩)]
theorem fnV (gv : Nat) (w : World) : (binOp .neq 107 (.func (.func 70) #[] #[.pointer (some ⟨gv, 0, none⟩)]) .nilFunc).run Tryz.prog w = .ok (.bool true) w := by kernel_rfl
theorem fnT (g1 g2 : Nat) (w : World) : (binOp .neq 108 (.func (.func 110) #[] #[.pointer (some ⟨g1, 0, none⟩), .pointer (some ⟨g2, 0, none⟩)]) .nilFunc).run Tryz.prog w = .ok (.bool true) w := by kernel_rfl
theorem fnU (gu : Nat) (w : World) : (binOp .neq 124 (.func (.func 72) #[] #[.pointer (some ⟨gu, 0, none⟩)]) .nilFunc).run Tryz.prog w = .ok (.bool true) w := by kernel_rfl
theorem mapNil (w : World) : (binOp .eql 114 (.map none) (.map none)).run Tryz.prog w = .ok (.bool true) w := by kernel_rfl
theorem run_map114 (w : World) : (Instr.makeMap 114 none).run Tryz.prog w = .ok (.map (some w.heap.size)) (w.alloc (.map #[] 0)) := by
  simp [Instr.makeMap, run_underlying Tryz.underlying114]
theorem meth_DFrom' (a : Addr) (w : World) : (method 487 75 (.agg #[.pointer (some a)]) "From").run Tryz.prog w = .ok (267, .agg #[.pointer (some a)]) w := by kernel_rfl
theorem meth_DEdge' (a : Addr) (w : World) : (method 487 75 (.agg #[.pointer (some a)]) "Edge").run Tryz.prog w = .ok (266, .agg #[.pointer (some a)]) w := by kernel_rfl
theorem meth_UFrom' (a : Addr) (w : World) : (method 487 177 (.agg #[.pointer (some a)]) "From").run Tryz.prog w = .ok (330, .agg #[.pointer (some a)]) w := by kernel_rfl
theorem meth_UEdge' (a : Addr) (w : World) : (method 487 177 (.agg #[.pointer (some a)]) "Edge").run Tryz.prog w = .ok (329, .agg #[.pointer (some a)]) w := by kernel_rfl

/-- what a walk reads, in one world -/
structure WAt (w : World) (d : Bool) (gu g1 g2 base bp : Nat) (zs : List Int) (es : List S38) (p : Pl) (A : Option Addr) (c : Nat) (bs : List S38) (t : Int) : Prop where
  gr : GrOk w base bp zs es p
  c1 : w.cell? ⟨g1, 0, none⟩ = some (.bool d)
  c2 : w.cell? ⟨g2, 0, none⟩ = some (.slice A bs.length c)
  cu : w.cell? ⟨gu, 0, none⟩ = some (.int .i64 t)
  bC : Kd.C k38 w A bs.length bs
/-- what a walk finds at its beginning -/
structure WEnv (w0 : World) (d : Bool) (gd gv gu g1 g2 base bp : Nat) (zs : List Int) (es : List S38) (p : Pl) (A : Option Addr) (c : Nat) (bs : List S38) (t : Int) : Prop where
  at0 : WAt w0 d gu g1 g2 base bp zs es p A c bs t
  hd : w0.heap[gd]? = some (.cells #[vfV gv, tfV g1 g2, .slice none 0 0, .map none] 122 (0, 0))
  hv : w0.heap[gv]? = some (.cells #[.slice none 0 0] 22 (0, 0))
  n1 : g1 ≠ gd ∧ g1 ≠ gv
  n2 : g2 ≠ gd ∧ g2 ≠ gv
  nu : gu ≠ gd ∧ gu ≠ gv
  wf : ∀ x ∈ zs, (Lit.int .i64 x).wf = true
  bB : ∃ wB, Kd.C k38 wB A bs.length bs ∧ Below wB.heap.size wB w0 ∧ wB.heap.size ≤ gd ∧ wB.heap.size ≤ gv
  bn : bs.length ≤ 100000

section
variable {w0 w w1 : World} {d : Bool} {gd gv gu g1 g2 base bp : Nat} {zs : List Int} {es : List S38} {p : Pl} {A : Option Addr} {c : Nat} {bs : List S38} {t : Int}
theorem WAt.below (h : WAt w d gu g1 g2 base bp zs es p A c bs t) (hb : Below w.heap.size w w1) : WAt w1 d gu g1 g2 base bp zs es p A c bs t :=
  ⟨h.gr.below hb, below_cellOf hb h.c1, below_cellOf hb h.c2, below_cellOf hb h.cu, Kd.C_below h.bC hb⟩
theorem WEnv.to (h : WEnv w0 d gd gv gu g1 g2 base bp zs es p A c bs t) (hk : KeepF (WM gd gv w0.heap.size) w0 w) : WAt w d gu g1 g2 base bp zs es p A c bs t := by
  have hlt : ∀ {a : Addr} {v : Value}, w0.cell? a = some v → a.block ≠ gd → a.block ≠ gv → w.cell? a = some v := fun {a v} hc h1 h2 => hk.cell hc (fun hm => by
    have := World.block_lt_of_cell? w0 a hc
    unfold WM at hm
    omega)
  refine ⟨⟨h.at0.gr.ok.kinds fun k cc tt hkk ht => hk.block k (blk_lt hkk) (fun hm => ?_), h.at0.gr.good, h.at0.gr.adj, h.at0.gr.hs, h.at0.gr.hn⟩, hlt h.at0.c1 h.n1.1 h.n1.2, hlt h.at0.c2 h.n2.1 h.n2.2, hlt h.at0.cu h.nu.1 h.nu.2, ?_⟩
  · rcases hm with e | e | e
    · subst e
      have := blk_type hkk h.hd
      exact absurd this (by rcases ht with rfl | rfl | rfl | rfl <;> decide)
    · subst e
      have := blk_type hkk h.hv
      exact absurd this (by rcases ht with rfl | rfl | rfl | rfl <;> decide)
    · have := blk_lt hkk
      omega
  · obtain ⟨wB, h1, h2, h3, h4⟩ := h.bB
    have h5 := h2.size
    exact Kd.C_below h1 (h2.trans (hk.below h5 (fun k hm => by unfold WM at hm; omega)))
end

/-- the nodes to which a walk goes on -/
def adjF (d : Bool) (zs : List Int) (es bs : List S38) (u : Int) : List Int := (outN zs es u).filter fun v => freeB d bs u v
theorem outN_len (zs : List Int) (es : List S38) (u : Int) : (outN zs es u).length ≤ zs.length := by
  unfold outN
  exact Nat.le_trans (List.length_filter_le _ _) (by rw [srt_length]; exact Nat.le_refl _)
theorem outN_mem {zs : List Int} {es : List S38} {u v : Int} (h : v ∈ outN zs es u) : v ∈ zs ∧ (arcW es u v).isSome = true := by
  unfold outN at h
  obtain ⟨h1, h2⟩ := List.mem_filter.1 h
  exact ⟨(mem_srt _ _).1 h1, h2⟩
theorem DW.cells {w0 w : World} {gd gv gm : Nat} {vf tf st vv : Value} {stk vis : List Int} (h : DW w0 w gd gv gm vf tf st vv stk vis) : w.cell? ⟨gd, 0, none⟩ = some vf ∧ w.cell? ⟨gd, 1, none⟩ = some tf ∧ w.cell? ⟨gd, 3, none⟩ = some (.map (some gm)) :=
  ⟨(blk_cell h.stk.blk 0).trans rfl, (blk_cell h.stk.blk 1).trans rfl, (blk_cell h.stk.blk 3).trans rfl⟩
/-- a walk's object with its new map -/
theorem DW.start {w0 : World} {d : Bool} {gd gv gu g1 g2 base bp : Nat} {zs : List Int} {es : List S38} {p : Pl} {A : Option Addr} {c : Nat} {bs : List S38} {t : Int} (h : WEnv w0 d gd gv gu g1 g2 base bp zs es p A c bs t) :
    DW w0 ((w0.setCell ⟨gd, 3, none⟩ (.map (some w0.heap.size))).alloc (.map #[] 0)) gd gv w0.heap.size (vfV gv) (tfV g1 g2) (.slice none 0 0) (.slice none 0 0) [] [] := by
  have hdl := blk_lt h.hd
  have hvl := blk_lt h.hv
  have hne : gv ≠ gd := fun e => by subst e; exact absurd (blk_type h.hd h.hv) (by decide)
  have hsz : (w0.setCell ⟨gd, 3, none⟩ (.map (some w0.heap.size))).heap.size = w0.heap.size := by simp
  have hm := SetOk.made (w0.setCell ⟨gd, 3, none⟩ (.map (some w0.heap.size)))
  rw [hsz] at hm
  refine ⟨⟨blk_alloc (blk_put (cs := #[vfV gv, tfV g1 g2, .slice none 0 0, .map none]) h.hd 3 _ rfl) _, World.ownsRow_nil _ _ _ _⟩, hm, Nat.le_refl _, ⟨blk_alloc ((Below.heap_setCell _ _ _ _ hne).trans h.hv) _, World.ownsRow_nil _ _ _ _⟩, hvl, hdl, ?_⟩
  exact (KeepF.of_grown (grown_set w0 gd 3 _) (fun k hk => .inl (Option.some.inj hk).symm)).trans (KeepF.of_grown (World.grownBy_alloc _ _ none) (fun k hk => by cases hk))
/-- what a walk leaves -/
def WalkEnd (w0 w' : World) (gd gv : Nat) (vis : List Int) : Prop := ∃ vv, VisOk w0.heap.size w' gv vv vis ∧ KeepF (WM gd gv w0.heap.size) w0 w'
/-- the walk's state ahead of a round, with the rounds that are left -/
def DwI (w0 w : World) (gd gv : Nat) (vf tf : Value) (adj : Int → List Int) (t : Int) (zs : List Int) (K : Nat) (r : List Int × Option Int) (kq : Nat) : Prop :=
  ∃ st vv stk vis, DW w0 w gd gv w0.heap.size vf tf st vv stk vis ∧ dfsF adj t kq stk vis = some r ∧ stk.length ≤ 1 + 1000 * (K - kq) ∧ vis.length ≤ K - kq ∧ kq ≤ K ∧ ∀ x ∈ stk, x ∈ zs
/-- inside a round: the neighbours are gone through -/
def InI (w0 wr : World) (gd gv : Nat) (vf tf vv : Value) (lo B b : Nat) (nb : List Int) (ok : Int → Bool) (s vis : List Int) : Prop :=
  ∃ (k : Nat) (st' : Value), k ≤ nb.length ∧ OIt lo B wr b nb k ∧ DW w0 wr gd gv w0.heap.size vf tf st' vv (s ++ (nb.take k).filter ok) vis ∧ (∀ q, st'.ownBlock = some q → q < lo ∨ B ≤ q) ∧ B ≤ wr.heap.size

set_option maxHeartbeats 16000000 in
set_option maxRecDepth 100000 in
theorem dfsD_any (w0 : World) (d : Bool) (gd gv gu g1 g2 base bp : Nat) (zs : List Int) (es : List S38) (p : Pl) (A : Option Addr) (c : Nat) (bs : List S38) (t s0 : Int) (K : Nat) (hK : K ≤ 9000) (r : List Int × Option Int)
    (h : WEnv w0 d gd gv gu g1 g2 base bp zs es p A c bs t) (hs0 : s0 ∈ zs) (hr : dfsF (adjF d zs es bs) t K [s0] [] = some r) :
    Calls Tryz.prog 71 #[.pointer (some ⟨gd, 0, none⟩), .iface 75 (.agg #[.pointer (some ⟨bp, 0, none⟩)]), .iface 118 (.int .i64 s0), .func (.func 72) #[] #[.pointer (some ⟨gu, 0, none⟩)]] w0 fun e w' =>
      e = .returned (foundV r.2) ∧ WalkEnd w0 w' gd gv r.1 := by
  have HE := Aside0.mk h
  have HS := Aside0.mk (DW.start h)
  have hnn := h.at0.gr.hn
  have e3 : w0.cell? ⟨gd, 3, none⟩ = some (.map none) := (blk_cell h.hd 3).trans rfl
  have f3 := blk_frozen h.hd 3
  have hgl := blk_lt h.hd
  have hne : gd ≠ w0.heap.size := by omega
  have mF := meth_DFrom' ⟨bp, 0, none⟩
  have mE := meth_DEdge' ⟨bp, 0, none⟩
  have kV := fnV gv
  have kT := fnT g1 g2
  have kU := fnU gu
  have kM := mapNil
  have kN := run_map114
  have HR := Aside0.mk hr
  have HS0 := Aside0.mk hs0
  clear h hr hs0
  go_enter Tryz.func71, Tryz.ntmps71
  go_wp2_with (go_at_call 117; refine (spush_any w0.heap.size gd (vfV gv) (tfV g1 g2) (.map (some w0.heap.size)) (.slice none 0 0) [] s0 _ HS.out.stk (by simp) HS.out.L).mono ?_; rintro e w1 ⟨rfl, st1, wa, hs1, hg1, hg2, hat⟩; have HD := Aside0.mk (HS.out.push hs1 hg1 hg2); clear hs1 hg1 hg2 hat)
  have HI := Aside0.mk (show DwI w0 w1 gd gv (vfV gv) (tfV g1 g2) (adjF d zs es bs) t zs K r K from ⟨st1, _, [s0], [], HD.out, HR.out, by simp, by simp, Nat.le_refl _, fun x hx => by simp at hx; subst hx; exact HS0.out⟩)
  clear HD e3 f3
  go_loopg [9] K (fun kq v9 w' => Aside0 (DwI w0 w' gd gv (vfV gv) (tfV g1 g2) (adjF d zs es bs) t zs K r kq))
  case atStart => exact HI
  case round =>
    clear HI HS HR HS0
    obtain ⟨st, vv, stk, vis, hD, hr, hl1, hl2, hkq, hz⟩ := hrel.out
    cases gk with
    | zero => exact absurd hr (by simp [dfsF])
    | succ k1 =>
      have HD := Aside0.mk hD
      rcases nil_or_snoc stk with rfl | ⟨s, u, rfl⟩
      · rw [dfsF_nil] at hr
        obtain rfl := Option.some.inj hr
        clear hrel hr hl1 hl2 hkq hz hD
        go_wp2_with (go_at_call 118; refine (slen_any _ gd _ _ _ _ [] _ HD.out.stk).mono ?_; rintro e w2 ⟨rfl, rfl⟩)
        go_ret
        exact ⟨rfl, _, HD.out.vis, HD.out.kp⟩
      · rw [dfsF_snoc] at hr
        have hlen : (s ++ [u]).length = s.length + 1 := by simp
        rw [hlen] at hl1
        have HN := Aside0.mk hlen
        have HW := Aside0.mk (HE.out.wf u (hz u (by simp)))
        have HUZ := Aside0.mk (hz u (by simp))
        have HZ := Aside0.mk (show ∀ x ∈ s, x ∈ zs from fun x hx => hz x (by simp [hx]))
        have m1 := meth_ID u
        have HL := Aside0.mk (And.intro hl1 (And.intro hl2 hkq))
        have hsb : s.length ≤ 10000000 := by omega
        have hvb : vis.length ≤ 10000000 := by omega
        have hq2 := (blk_cell hD.stk.blk 2).trans (rfl : _ = some st)
        clear hlen hz hl1 hl2 hkq hrel hD
        by_cases hm : u ∈ vis
        · rw [if_pos hm] at hr
          have HR := Aside0.mk hr
          have hd : decide (u ∈ vis) = true := decide_eq_true hm
          clear hr hm
          go_wp2_with (first
            | (go_at_call 118; refine (slen_any _ gd _ _ _ _ (s ++ [u]) _ HD.out.stk).mono ?_; rintro e w2 ⟨rfl, rfl⟩; rw [HN.out])
            | (go_at_call 119; refine (spop_any _ gd _ _ _ _ s u _ HD.out.stk hsb).mono ?_; rintro e w2 ⟨rfl, st2, hs2, hb2, hg2⟩; have HD2 := Aside0.mk (HD.out.pop hs2 hg2); obtain ⟨q0, q1, q3⟩ := HD2.out.cells; clear hs2 hb2 hg2)
            | (go_at_call 290; refine (nodeID_any u _).mono ?_; rintro e w3 ⟨rfl, rfl⟩)
            | (go_at_call 113; refine (has_any w0.heap.size vis u _ HD2.out.set HW.out).mono ?_; rintro e w3 ⟨rfl, hb3⟩; have HD3 := Aside0.mk (HD2.out.below hb3); clear hb3; rw [hd]))
          go_roundg k1
          case measure => omega
          case rel => exact ⟨st2, vv, s, vis, HD3.out, HR.out, by have := HL.out; omega, by have := HL.out; omega, by have := HL.out; omega, HZ.out⟩
        · rw [if_neg hm] at hr
          have hd : decide (u ∈ vis) = false := decide_eq_false hm
          clear hm
          by_cases hut : u = t
          · rw [if_pos hut] at hr
            have ht : decide (u = t) = true := decide_eq_true hut
            obtain rfl := Option.some.inj hr
            clear hr hut
            go_wp2_with (first
            | (go_at_call 118; refine (slen_any _ gd _ _ _ _ (s ++ [u]) _ HD.out.stk).mono ?_; rintro e w2 ⟨rfl, rfl⟩; rw [HN.out])
            | (go_at_call 119; refine (spop_any _ gd _ _ _ _ s u _ HD.out.stk hsb).mono ?_; rintro e w2 ⟨rfl, st2, hs2, hb2, hg2⟩; have HD2 := Aside0.mk (HD.out.pop hs2 hg2); obtain ⟨q0, q1, q3⟩ := HD2.out.cells; clear hs2 hb2 hg2)
            | (go_at_call 290; refine (nodeID_any u _).mono ?_; rintro e w3 ⟨rfl, rfl⟩)
            | (go_at_call 113; refine (has_any w0.heap.size vis u _ HD2.out.set HW.out).mono ?_; rintro e w3 ⟨rfl, hb3⟩; have HD3 := Aside0.mk (HD2.out.below hb3); obtain ⟨q0, q1, q3⟩ := HD3.out.cells; clear hb3; rw [hd])
            | (go_at_call 114; refine (add_any w0.heap.size vis u _ HD3.out.set HW.out hvb).mono ?_; rintro e w4 ⟨rfl, hs4, hg4⟩; have HA := Aside0.mk (HD3.out.add hs4 hg4); have q0 := (blk_cell HA.out.1.blk 0).trans (rfl : _ = some (vfV gv)); unfold vfV at q0; clear hs4 hg4)
            | (go_at_call 70; refine (visit_any w0.heap.size gv vv vis u _ HA.out.2.2.1 (by omega) HA.out.2.2.2.size).mono ?_; rintro e w5 ⟨rfl, vv5, wb, hv5, hg5, hg5'⟩; have HD5 := Aside0.mk (DW.visit HA.out.1 HA.out.2.1 HA.out.2.2.1 HA.out.2.2.2 HD.out.gmL HD.out.gv0 HD.out.gd0 hv5 hg5 hg5'); clear hv5 hg5 hg5')
            | (go_at_call 72; refine (until_any gu t u _ (HE.out.to HD5.out.kp).cu).mono ?_; rintro e w6 ⟨rfl, hb6⟩; have HD6 := Aside0.mk (HD5.out.below hb6); clear hb6; rw [ht]))
            go_ret
            exact ⟨rfl, _, HD6.out.vis, HD6.out.kp⟩
          · rw [if_neg hut] at hr
            have ht : decide (u = t) = false := decide_eq_false hut
            have HR := Aside0.mk hr
            clear hr hut
            go_wp2_with (first
            | (go_at_call 118; refine (slen_any _ gd _ _ _ _ (s ++ [u]) _ HD.out.stk).mono ?_; rintro e w2 ⟨rfl, rfl⟩; rw [HN.out])
            | (go_at_call 119; refine (spop_any _ gd _ _ _ _ s u _ HD.out.stk hsb).mono ?_; rintro e w2 ⟨rfl, st2, hs2, hb2, hg2⟩; have HD2 := Aside0.mk (HD.out.pop hs2 hg2); obtain ⟨q0, q1, q3⟩ := HD2.out.cells; clear hs2 hb2 hg2)
            | (go_at_call 290; refine (nodeID_any u _).mono ?_; rintro e w3 ⟨rfl, rfl⟩)
            | (go_at_call 113; refine (has_any w0.heap.size vis u _ HD2.out.set HW.out).mono ?_; rintro e w3 ⟨rfl, hb3⟩; have HD3 := Aside0.mk (HD2.out.below hb3); obtain ⟨q0, q1, q3⟩ := HD3.out.cells; clear hb3; rw [hd])
            | (go_at_call 114; refine (add_any w0.heap.size vis u _ HD3.out.set HW.out hvb).mono ?_; rintro e w4 ⟨rfl, hs4, hg4⟩; have HA := Aside0.mk (HD3.out.add hs4 hg4); have q0 := (blk_cell HA.out.1.blk 0).trans (rfl : _ = some (vfV gv)); unfold vfV at q0; clear hs4 hg4)
            | (go_at_call 70; refine (visit_any w0.heap.size gv vv vis u _ HA.out.2.2.1 (by omega) HA.out.2.2.2.size).mono ?_; rintro e w5 ⟨rfl, vv5, wb, hv5, hg5, hg5'⟩; have HD5 := Aside0.mk (DW.visit HA.out.1 HA.out.2.1 HA.out.2.2.1 HA.out.2.2.2 HD.out.gmL HD.out.gv0 HD.out.gd0 hv5 hg5 hg5'); clear hv5 hg5 hg5')
            | (go_at_call 72; refine (until_any gu t u _ (HE.out.to HD5.out.kp).cu).mono ?_; rintro e w6 ⟨rfl, hb6⟩; have HD6 := Aside0.mk (HD5.out.below hb6); clear hb6; rw [ht])
            | (go_at_call 267; refine (gFromD base bp zs es p u _ (HE.out.to HD6.out.kp).gr HUZ.out).mono ?_; rintro e w7 ⟨b, rfl, hit, hb7⟩; have HD7 := Aside0.mk (HD6.out.below hb7); have HIT := Aside0.mk hit; have HB7 := Aside0.mk hb7; clear hit hb7))
            obtain ⟨nb, hnb⟩ : ∃ nb, outN zs es u = nb := ⟨_, rfl⟩
            rw [hnb] at HIT
            have HNB := Aside0.mk hnb
            have hnl : nb.length ≤ 1000 := by rw [← hnb]; exact Nat.le_trans (outN_len zs es u) hnn
            clear hnb
            have HLO := Aside0.mk (show w0.heap.size ≤ w6.heap.size ∧ w0.heap.size < w6.heap.size ∧ (∀ k, vv5.ownBlock = some k → k < w6.heap.size) from ⟨HD6.out.L, HD6.out.set.lt, fun k hk => HD6.out.vvLt hk⟩)
            have HI2 := Aside0.mk (show InI w0 w7 gd gv (vfV gv) (tfV g1 g2) vv5 w6.heap.size w7.heap.size b nb (freeB d bs u) s (vis ++ [u]) from ⟨0, st2, Nat.zero_le _, HIT.out, by simpa using HD7.out, fun q hq => .inl (HD6.out.stLt hq), Nat.le_refl _⟩)
            have n1 := meth_ONext ⟨b, 0, none⟩
            have n2 := meth_ONode ⟨b, 0, none⟩
            clear HD HD2 HD3 HA HD5 HD7 HIT HB7
            generalize w6.heap.size = lo at HI2 HLO
            generalize w7.heap.size = B at HI2
            go_loopw [12] (fun _ wr => Aside0 (InI w0 wr gd gv (vfV gv) (tfV g1 g2) vv5 lo B b nb (freeB d bs u) s (vis ++ [u]))) (fun _ wr => nb.length + 2 - posI wr b)
            case atStart => exact HI2
            case round =>
              clear HI2
              obtain ⟨k, st3, hk, hO, hD, hst, hB⟩ := hrel.out
              have HO := Aside0.mk hO
              have HD8 := Aside0.mk hD
              have HST := Aside0.mk hst
              have HB := Aside0.mk hB
              have hpos := hO.pos
              have HPOS := Aside0.mk hpos
              have hkk := hk
              clear hrel hO hD hst hB hk hpos
              by_cases hlt : k < nb.length
              · have hdk : decide (k < nb.length) = true := decide_eq_true hlt
                obtain ⟨v, hv⟩ : ∃ v, nb[k] = v := ⟨_, rfl⟩
                have HV := Aside0.mk hv
                have hvm : v ∈ outN zs es u := by rw [HNB.out, ← hv]; exact List.getElem_mem _
                have HVM := Aside0.mk (outN_mem hvm)
                have m2 := meth_ID v
                have htk : nb.take (k + 1) = nb.take k ++ [v] := by rw [← hv]; exact List.take_succ_eq_append_getElem hlt
                have HTK := Aside0.mk htk
                have hfl : ((nb.take k).filter (freeB d bs u)).length ≤ 1000 := Nat.le_trans (List.length_filter_le _ _) (by rw [List.length_take]; omega)
                have HFL := Aside0.mk hfl
                clear hv hvm htk hfl
                go_wp2_with (first
                  | (go_at_call 357; refine (next_any lo B b k nb _ HO.out (by omega)).mono ?_; rintro e wn ⟨rfl, hO1, hM1⟩; rw [hdk]; rw [if_pos hlt] at hO1; have HO1 := Aside0.mk hO1; have HD9 := Aside0.mk (HD8.out.mid hM1 HLO.out.1 HLO.out.2.1 HST.out HLO.out.2.2); have HS9 := Aside0.mk hM1.size; clear hO1 hM1)
                  | (go_at_call 358; refine (nodeI_q lo B b k nb _ HO1.out hlt (by omega)).mono ?_; rintro e wq ⟨rfl, nq, hwq⟩; rw [HV.out]; have HO2 := Aside0.mk (show OIt lo B wq b nb (k + 1) by subst hwq; exact HO1.out.far (fun _ _ _ => rfl)); have HS10 := Aside0.mk (show wn.heap.size ≤ wq.heap.size by subst hwq; exact Nat.le_refl _); have HD10 := Aside0.mk (HD9.out.below (show Below wn.heap.size wn wq by subst hwq; exact pw_below_drewN (Below.refl _ _) nq)); clear hwq)
                  | (go_at_call 290; refine (nodeID_any v _).mono ?_; rintro e wi ⟨rfl, rfl⟩))
                obtain ⟨q0, q1, q3⟩ := HD10.out.cells
                unfold tfV at q1
                have HWA := Aside0.mk ((HE.out.to HD10.out.kp).below (Below.refl _ _).drew)
                by_cases hob : freeB d bs u v = true
                · have HOB := Aside0.mk hob
                  clear hob
                  go_region_held3 (fun w' => w'.cell? ⟨gd, 1, none⟩ = some (.func (.func 110) #[] #[.pointer (some ⟨g1, 0, none⟩), .pointer (some ⟨g2, 0, none⟩)]))
                    (first | exact below_cellOf hbel (by assumption) | go_keep)
                    (first
                      | (go_at_call 266; refine (gEdgeD base bp zs es p u v _ HWA.out.gr HUZ.out HVM.out.1 HVM.out.2).mono ?_; rintro e w8 ⟨x, rfl, hbel⟩; have HB8 := Aside0.mk hbel; have HWA8 := Aside0.mk (HWA.out.below hbel))
                      | (go_at_call 110; refine (free1_any d g1 g2 A c bs u v x _ HWA8.out.c1 HWA8.out.c2 HWA8.out.bC HE.out.bn).mono ?_; rintro e w9 ⟨rfl, hbel⟩; rw [HOB.out]; have HB9 := Aside0.mk hbel))
                  have HBB := Aside0.mk (show Below wq.heap.size wq w9 from ((Below.refl wq.heap.size wq).drew.trans (HB8.out.mono (Nat.le_refl _))).trans (HB9.out.mono HB8.out.size))
                  have HD11 := Aside0.mk (HD10.out.below HBB.out)
                  have HO3 := Aside0.mk (HO2.out.far (fun q hq1 hq2 => HBB.out.block q (by have := HB.out; have := HS9.out; have := HS10.out; omega)))
                  have HS11 := Aside0.mk (Nat.le_trans HB.out (Nat.le_trans HS9.out (Nat.le_trans HS10.out HBB.out.size)))
                  clear hbel q0 q1 q3 HB8 HB9 HWA HWA8 HBB
                  go_wp2_with (go_at_call 117; refine (spush_any w0.heap.size gd (vfV gv) (tfV g1 g2) (.map (some w0.heap.size)) st3 _ v _ HD11.out.stk (by have := HFL.out; have := HL.out; rw [List.length_append]; omega) HD11.out.L).mono ?_; rintro e w10 ⟨rfl, st4, wc, hs4, hg4, hg5, hat⟩; have HD12 := Aside0.mk (HD11.out.push hs4 hg4 hg5); have HG := Aside0.mk (And.intro hg4 (And.intro hg5 hat)); clear hs4 hg4 hg5 hat)
                  go_roundw
                  case rel =>
                    have hOn : OIt lo B w10 b nb (k + 1) := HO3.out.far (fun q hq1 hq2 => two_turns HG.out.1 HG.out.2.1 (by have := HS11.out; omega) (fun e => by have := HST.out q e; omega) (by have := HD11.out.gd0; have := HLO.out.1; omega))
                    have hsz : w9.heap.size ≤ w10.heap.size := Nat.le_trans HG.out.1.size HG.out.2.1.size
                    refine ⟨⟨k + 1, st4, by omega, hOn, ?_, fun q hq => ?_, Nat.le_trans HS11.out hsz⟩⟩
                    · have := HD12.out
                      rw [List.append_assoc] at this
                      rw [HTK.out, List.filter_append, List.filter_cons, if_pos HOB.out]
                      exact this
                    · rcases HG.out.2.2 with h1 | ⟨q', h1, h2⟩
                      · rw [h1] at hq; exact HST.out q hq
                      · rw [h1] at hq
                        have := Option.some.inj hq
                        have := HS11.out
                        omega
                  case measure =>
                    have hOn : OIt lo B w10 b nb (k + 1) := HO3.out.far (fun q hq1 hq2 => two_turns HG.out.1 HG.out.2.1 (by have := HS11.out; omega) (fun e => by have := HST.out q e; omega) (by have := HD11.out.gd0; have := HLO.out.1; omega))
                    rw [hOn.pos, HPOS.out]; omega
                · have hob' : freeB d bs u v = false := by simpa using hob
                  have HOB := Aside0.mk hob'
                  clear hob hob'
                  go_region_held3 (fun w' => w'.cell? ⟨gd, 1, none⟩ = some (.func (.func 110) #[] #[.pointer (some ⟨g1, 0, none⟩), .pointer (some ⟨g2, 0, none⟩)]))
                    (first | exact below_cellOf hbel (by assumption) | go_keep)
                    (first
                      | (go_at_call 266; refine (gEdgeD base bp zs es p u v _ HWA.out.gr HUZ.out HVM.out.1 HVM.out.2).mono ?_; rintro e w8 ⟨x, rfl, hbel⟩; have HB8 := Aside0.mk hbel; have HWA8 := Aside0.mk (HWA.out.below hbel))
                      | (go_at_call 110; refine (free1_any d g1 g2 A c bs u v x _ HWA8.out.c1 HWA8.out.c2 HWA8.out.bC HE.out.bn).mono ?_; rintro e w9 ⟨rfl, hbel⟩; rw [HOB.out]; have HB9 := Aside0.mk hbel))
                  have HBB := Aside0.mk (show Below wq.heap.size wq w9 from ((Below.refl wq.heap.size wq).drew.trans (HB8.out.mono (Nat.le_refl _))).trans (HB9.out.mono HB8.out.size))
                  have HD11 := Aside0.mk (HD10.out.below HBB.out)
                  have HO3 := Aside0.mk (HO2.out.far (fun q hq1 hq2 => HBB.out.block q (by have := HB.out; have := HS9.out; have := HS10.out; omega)))
                  have HS11 := Aside0.mk (Nat.le_trans HB.out (Nat.le_trans HS9.out (Nat.le_trans HS10.out HBB.out.size)))
                  clear hbel q0 q1 q3 HB8 HB9 HWA HWA8 HBB
                  go_wp2
                  go_roundw
                  case rel =>
                    refine ⟨⟨k + 1, st3, by omega, HO3.out, ?_, HST.out, HS11.out⟩⟩
                    have := HD11.out
                    rw [HTK.out, List.filter_append, List.filter_cons, if_neg (by rw [HOB.out]; simp), List.filter_nil, List.append_nil]
                    exact this
                  case measure => rw [HO3.out.pos, HPOS.out]; omega
              · have hke : k = nb.length := by omega
                have hdk : decide (k < nb.length) = false := decide_eq_false hlt
                go_wp2_with (go_at_call 357; refine (next_any lo B b k nb _ HO.out (by omega)).mono ?_; rintro e wn ⟨rfl, hO1, hM1⟩; rw [hdk]; have HD9 := Aside0.mk (HD8.out.mid hM1 HLO.out.1 HLO.out.2.1 HST.out HLO.out.2.2); clear hO1 hM1)
                go_roundg k1
                case measure => omega
                case rel =>
                  have hD9 := HD9.out
                  have hadj : (nb.take k).filter (freeB d bs u) = adjF d zs es bs u := by rw [hke, List.take_length, ← HNB.out]; rfl
                  rw [hadj] at hD9
                  have hal : (adjF d zs es bs u).length ≤ 1000 := by unfold adjF; exact Nat.le_trans (List.length_filter_le _ _) (by rw [HNB.out]; exact hnl)
                  refine ⟨⟨st3, vv5, _, _, hD9, HR.out, ?_, ?_, ?_, fun x hx => ?_⟩⟩
                  · rw [List.length_append]; have := HL.out; omega
                  · rw [List.length_append, List.length_singleton]; have := HL.out; omega
                  · have := HL.out; omega
                  · rcases List.mem_append.1 hx with hx | hx
                    · exact HZ.out x hx
                    · exact (outN_mem (List.mem_filter.1 hx).1).1
end Go.Proofs.YtfkmpnpliadohaaGreat.R

set_option linter.unusedVariables false
set_option linter.unusedSimpArgs false
/- The walk depth first, of a graph without directions. -/
namespace Go.Proofs.YtfkmpnpliadohaaGreat.R
open Go.RowKit Go.Lab Go.Maps Go.Proofs.YtfkmpnpliadohaaGreatW.PrintWords Go.Proofs.YtfkmpnpliadohaaGreatW.PrintLast Go.Proofs.YtfkmpnpliadohaaGreatW.PrintMore PL


set_option maxHeartbeats 16000000 in
set_option maxRecDepth 100000 in
theorem dfsU_any (w0 : World) (d : Bool) (gd gv gu g1 g2 base bp : Nat) (zs : List Int) (es : List S38) (p : Pl) (A : Option Addr) (c : Nat) (bs : List S38) (t s0 : Int) (K : Nat) (hK : K ≤ 9000) (r : List Int × Option Int)
    (h : WEnv w0 d gd gv gu g1 g2 base bp zs es p A c bs t) (hs0 : s0 ∈ zs) (hr : dfsF (adjF d zs es bs) t K [s0] [] = some r) :
    Calls Tryz.prog 71 #[.pointer (some ⟨gd, 0, none⟩), .iface 177 (.agg #[.pointer (some ⟨bp, 0, none⟩)]), .iface 118 (.int .i64 s0), .func (.func 72) #[] #[.pointer (some ⟨gu, 0, none⟩)]] w0 fun e w' =>
      e = .returned (foundV r.2) ∧ WalkEnd w0 w' gd gv r.1 := by
  have HE := Aside0.mk h
  have HS := Aside0.mk (DW.start h)
  have hnn := h.at0.gr.hn
  have e3 : w0.cell? ⟨gd, 3, none⟩ = some (.map none) := (blk_cell h.hd 3).trans rfl
  have f3 := blk_frozen h.hd 3
  have hgl := blk_lt h.hd
  have hne : gd ≠ w0.heap.size := by omega
  have mF := meth_UFrom' ⟨bp, 0, none⟩
  have mE := meth_UEdge' ⟨bp, 0, none⟩
  have kV := fnV gv
  have kT := fnT g1 g2
  have kU := fnU gu
  have kM := mapNil
  have kN := run_map114
  have HR := Aside0.mk hr
  have HS0 := Aside0.mk hs0
  clear h hr hs0
  go_enter Tryz.func71, Tryz.ntmps71
  go_wp2_with (go_at_call 117; refine (spush_any w0.heap.size gd (vfV gv) (tfV g1 g2) (.map (some w0.heap.size)) (.slice none 0 0) [] s0 _ HS.out.stk (by simp) HS.out.L).mono ?_; rintro e w1 ⟨rfl, st1, wa, hs1, hg1, hg2, hat⟩; have HD := Aside0.mk (HS.out.push hs1 hg1 hg2); clear hs1 hg1 hg2 hat)
  have HI := Aside0.mk (show DwI w0 w1 gd gv (vfV gv) (tfV g1 g2) (adjF d zs es bs) t zs K r K from ⟨st1, _, [s0], [], HD.out, HR.out, by simp, by simp, Nat.le_refl _, fun x hx => by simp at hx; subst hx; exact HS0.out⟩)
  clear HD e3 f3
  go_loopg [9] K (fun kq v9 w' => Aside0 (DwI w0 w' gd gv (vfV gv) (tfV g1 g2) (adjF d zs es bs) t zs K r kq))
  case atStart => exact HI
  case round =>
    clear HI HS HR HS0
    obtain ⟨st, vv, stk, vis, hD, hr, hl1, hl2, hkq, hz⟩ := hrel.out
    cases gk with
    | zero => exact absurd hr (by simp [dfsF])
    | succ k1 =>
      have HD := Aside0.mk hD
      rcases nil_or_snoc stk with rfl | ⟨s, u, rfl⟩
      · rw [dfsF_nil] at hr
        obtain rfl := Option.some.inj hr
        clear hrel hr hl1 hl2 hkq hz hD
        go_wp2_with (go_at_call 118; refine (slen_any _ gd _ _ _ _ [] _ HD.out.stk).mono ?_; rintro e w2 ⟨rfl, rfl⟩)
        go_ret
        exact ⟨rfl, _, HD.out.vis, HD.out.kp⟩
      · rw [dfsF_snoc] at hr
        have hlen : (s ++ [u]).length = s.length + 1 := by simp
        rw [hlen] at hl1
        have HN := Aside0.mk hlen
        have HW := Aside0.mk (HE.out.wf u (hz u (by simp)))
        have HUZ := Aside0.mk (hz u (by simp))
        have HZ := Aside0.mk (show ∀ x ∈ s, x ∈ zs from fun x hx => hz x (by simp [hx]))
        have m1 := meth_ID u
        have HL := Aside0.mk (And.intro hl1 (And.intro hl2 hkq))
        have hsb : s.length ≤ 10000000 := by omega
        have hvb : vis.length ≤ 10000000 := by omega
        have hq2 := (blk_cell hD.stk.blk 2).trans (rfl : _ = some st)
        clear hlen hz hl1 hl2 hkq hrel hD
        by_cases hm : u ∈ vis
        · rw [if_pos hm] at hr
          have HR := Aside0.mk hr
          have hd : decide (u ∈ vis) = true := decide_eq_true hm
          clear hr hm
          go_wp2_with (first
            | (go_at_call 118; refine (slen_any _ gd _ _ _ _ (s ++ [u]) _ HD.out.stk).mono ?_; rintro e w2 ⟨rfl, rfl⟩; rw [HN.out])
            | (go_at_call 119; refine (spop_any _ gd _ _ _ _ s u _ HD.out.stk hsb).mono ?_; rintro e w2 ⟨rfl, st2, hs2, hb2, hg2⟩; have HD2 := Aside0.mk (HD.out.pop hs2 hg2); obtain ⟨q0, q1, q3⟩ := HD2.out.cells; clear hs2 hb2 hg2)
            | (go_at_call 290; refine (nodeID_any u _).mono ?_; rintro e w3 ⟨rfl, rfl⟩)
            | (go_at_call 113; refine (has_any w0.heap.size vis u _ HD2.out.set HW.out).mono ?_; rintro e w3 ⟨rfl, hb3⟩; have HD3 := Aside0.mk (HD2.out.below hb3); clear hb3; rw [hd]))
          go_roundg k1
          case measure => omega
          case rel => exact ⟨st2, vv, s, vis, HD3.out, HR.out, by have := HL.out; omega, by have := HL.out; omega, by have := HL.out; omega, HZ.out⟩
        · rw [if_neg hm] at hr
          have hd : decide (u ∈ vis) = false := decide_eq_false hm
          clear hm
          by_cases hut : u = t
          · rw [if_pos hut] at hr
            have ht : decide (u = t) = true := decide_eq_true hut
            obtain rfl := Option.some.inj hr
            clear hr hut
            go_wp2_with (first
            | (go_at_call 118; refine (slen_any _ gd _ _ _ _ (s ++ [u]) _ HD.out.stk).mono ?_; rintro e w2 ⟨rfl, rfl⟩; rw [HN.out])
            | (go_at_call 119; refine (spop_any _ gd _ _ _ _ s u _ HD.out.stk hsb).mono ?_; rintro e w2 ⟨rfl, st2, hs2, hb2, hg2⟩; have HD2 := Aside0.mk (HD.out.pop hs2 hg2); obtain ⟨q0, q1, q3⟩ := HD2.out.cells; clear hs2 hb2 hg2)
            | (go_at_call 290; refine (nodeID_any u _).mono ?_; rintro e w3 ⟨rfl, rfl⟩)
            | (go_at_call 113; refine (has_any w0.heap.size vis u _ HD2.out.set HW.out).mono ?_; rintro e w3 ⟨rfl, hb3⟩; have HD3 := Aside0.mk (HD2.out.below hb3); obtain ⟨q0, q1, q3⟩ := HD3.out.cells; clear hb3; rw [hd])
            | (go_at_call 114; refine (add_any w0.heap.size vis u _ HD3.out.set HW.out hvb).mono ?_; rintro e w4 ⟨rfl, hs4, hg4⟩; have HA := Aside0.mk (HD3.out.add hs4 hg4); have q0 := (blk_cell HA.out.1.blk 0).trans (rfl : _ = some (vfV gv)); unfold vfV at q0; clear hs4 hg4)
            | (go_at_call 70; refine (visit_any w0.heap.size gv vv vis u _ HA.out.2.2.1 (by omega) HA.out.2.2.2.size).mono ?_; rintro e w5 ⟨rfl, vv5, wb, hv5, hg5, hg5'⟩; have HD5 := Aside0.mk (DW.visit HA.out.1 HA.out.2.1 HA.out.2.2.1 HA.out.2.2.2 HD.out.gmL HD.out.gv0 HD.out.gd0 hv5 hg5 hg5'); clear hv5 hg5 hg5')
            | (go_at_call 72; refine (until_any gu t u _ (HE.out.to HD5.out.kp).cu).mono ?_; rintro e w6 ⟨rfl, hb6⟩; have HD6 := Aside0.mk (HD5.out.below hb6); clear hb6; rw [ht]))
            go_ret
            exact ⟨rfl, _, HD6.out.vis, HD6.out.kp⟩
          · rw [if_neg hut] at hr
            have ht : decide (u = t) = false := decide_eq_false hut
            have HR := Aside0.mk hr
            clear hr hut
            go_wp2_with (first
            | (go_at_call 118; refine (slen_any _ gd _ _ _ _ (s ++ [u]) _ HD.out.stk).mono ?_; rintro e w2 ⟨rfl, rfl⟩; rw [HN.out])
            | (go_at_call 119; refine (spop_any _ gd _ _ _ _ s u _ HD.out.stk hsb).mono ?_; rintro e w2 ⟨rfl, st2, hs2, hb2, hg2⟩; have HD2 := Aside0.mk (HD.out.pop hs2 hg2); obtain ⟨q0, q1, q3⟩ := HD2.out.cells; clear hs2 hb2 hg2)
            | (go_at_call 290; refine (nodeID_any u _).mono ?_; rintro e w3 ⟨rfl, rfl⟩)
            | (go_at_call 113; refine (has_any w0.heap.size vis u _ HD2.out.set HW.out).mono ?_; rintro e w3 ⟨rfl, hb3⟩; have HD3 := Aside0.mk (HD2.out.below hb3); obtain ⟨q0, q1, q3⟩ := HD3.out.cells; clear hb3; rw [hd])
            | (go_at_call 114; refine (add_any w0.heap.size vis u _ HD3.out.set HW.out hvb).mono ?_; rintro e w4 ⟨rfl, hs4, hg4⟩; have HA := Aside0.mk (HD3.out.add hs4 hg4); have q0 := (blk_cell HA.out.1.blk 0).trans (rfl : _ = some (vfV gv)); unfold vfV at q0; clear hs4 hg4)
            | (go_at_call 70; refine (visit_any w0.heap.size gv vv vis u _ HA.out.2.2.1 (by omega) HA.out.2.2.2.size).mono ?_; rintro e w5 ⟨rfl, vv5, wb, hv5, hg5, hg5'⟩; have HD5 := Aside0.mk (DW.visit HA.out.1 HA.out.2.1 HA.out.2.2.1 HA.out.2.2.2 HD.out.gmL HD.out.gv0 HD.out.gd0 hv5 hg5 hg5'); clear hv5 hg5 hg5')
            | (go_at_call 72; refine (until_any gu t u _ (HE.out.to HD5.out.kp).cu).mono ?_; rintro e w6 ⟨rfl, hb6⟩; have HD6 := Aside0.mk (HD5.out.below hb6); clear hb6; rw [ht])
            | (go_at_call 330; refine (gFromU base bp zs es p u _ (HE.out.to HD6.out.kp).gr HUZ.out).mono ?_; rintro e w7 ⟨b, rfl, hit, hb7⟩; have HD7 := Aside0.mk (HD6.out.below hb7); have HIT := Aside0.mk hit; have HB7 := Aside0.mk hb7; clear hit hb7))
            obtain ⟨nb, hnb⟩ : ∃ nb, outN zs es u = nb := ⟨_, rfl⟩
            rw [hnb] at HIT
            have HNB := Aside0.mk hnb
            have hnl : nb.length ≤ 1000 := by rw [← hnb]; exact Nat.le_trans (outN_len zs es u) hnn
            clear hnb
            have HLO := Aside0.mk (show w0.heap.size ≤ w6.heap.size ∧ w0.heap.size < w6.heap.size ∧ (∀ k, vv5.ownBlock = some k → k < w6.heap.size) from ⟨HD6.out.L, HD6.out.set.lt, fun k hk => HD6.out.vvLt hk⟩)
            have HI2 := Aside0.mk (show InI w0 w7 gd gv (vfV gv) (tfV g1 g2) vv5 w6.heap.size w7.heap.size b nb (freeB d bs u) s (vis ++ [u]) from ⟨0, st2, Nat.zero_le _, HIT.out, by simpa using HD7.out, fun q hq => .inl (HD6.out.stLt hq), Nat.le_refl _⟩)
            have n1 := meth_ONext ⟨b, 0, none⟩
            have n2 := meth_ONode ⟨b, 0, none⟩
            clear HD HD2 HD3 HA HD5 HD7 HIT HB7
            generalize w6.heap.size = lo at HI2 HLO
            generalize w7.heap.size = B at HI2
            go_loopw [12] (fun _ wr => Aside0 (InI w0 wr gd gv (vfV gv) (tfV g1 g2) vv5 lo B b nb (freeB d bs u) s (vis ++ [u]))) (fun _ wr => nb.length + 2 - posI wr b)
            case atStart => exact HI2
            case round =>
              clear HI2
              obtain ⟨k, st3, hk, hO, hD, hst, hB⟩ := hrel.out
              have HO := Aside0.mk hO
              have HD8 := Aside0.mk hD
              have HST := Aside0.mk hst
              have HB := Aside0.mk hB
              have hpos := hO.pos
              have HPOS := Aside0.mk hpos
              have hkk := hk
              clear hrel hO hD hst hB hk hpos
              by_cases hlt : k < nb.length
              · have hdk : decide (k < nb.length) = true := decide_eq_true hlt
                obtain ⟨v, hv⟩ : ∃ v, nb[k] = v := ⟨_, rfl⟩
                have HV := Aside0.mk hv
                have hvm : v ∈ outN zs es u := by rw [HNB.out, ← hv]; exact List.getElem_mem _
                have HVM := Aside0.mk (outN_mem hvm)
                have m2 := meth_ID v
                have htk : nb.take (k + 1) = nb.take k ++ [v] := by rw [← hv]; exact List.take_succ_eq_append_getElem hlt
                have HTK := Aside0.mk htk
                have hfl : ((nb.take k).filter (freeB d bs u)).length ≤ 1000 := Nat.le_trans (List.length_filter_le _ _) (by rw [List.length_take]; omega)
                have HFL := Aside0.mk hfl
                clear hv hvm htk hfl
                go_wp2_with (first
                  | (go_at_call 357; refine (next_any lo B b k nb _ HO.out (by omega)).mono ?_; rintro e wn ⟨rfl, hO1, hM1⟩; rw [hdk]; rw [if_pos hlt] at hO1; have HO1 := Aside0.mk hO1; have HD9 := Aside0.mk (HD8.out.mid hM1 HLO.out.1 HLO.out.2.1 HST.out HLO.out.2.2); have HS9 := Aside0.mk hM1.size; clear hO1 hM1)
                  | (go_at_call 358; refine (nodeI_q lo B b k nb _ HO1.out hlt (by omega)).mono ?_; rintro e wq ⟨rfl, nq, hwq⟩; rw [HV.out]; have HO2 := Aside0.mk (show OIt lo B wq b nb (k + 1) by subst hwq; exact HO1.out.far (fun _ _ _ => rfl)); have HS10 := Aside0.mk (show wn.heap.size ≤ wq.heap.size by subst hwq; exact Nat.le_refl _); have HD10 := Aside0.mk (HD9.out.below (show Below wn.heap.size wn wq by subst hwq; exact pw_below_drewN (Below.refl _ _) nq)); clear hwq)
                  | (go_at_call 290; refine (nodeID_any v _).mono ?_; rintro e wi ⟨rfl, rfl⟩))
                obtain ⟨q0, q1, q3⟩ := HD10.out.cells
                unfold tfV at q1
                have HWA := Aside0.mk ((HE.out.to HD10.out.kp).below (Below.refl _ _).drew)
                by_cases hob : freeB d bs u v = true
                · have HOB := Aside0.mk hob
                  clear hob
                  go_region_held3 (fun w' => w'.cell? ⟨gd, 1, none⟩ = some (.func (.func 110) #[] #[.pointer (some ⟨g1, 0, none⟩), .pointer (some ⟨g2, 0, none⟩)]))
                    (first | exact below_cellOf hbel (by assumption) | go_keep)
                    (first
                      | (go_at_call 329; refine (gEdgeU base bp zs es p u v _ HWA.out.gr HUZ.out HVM.out.1 HVM.out.2).mono ?_; rintro e w8 ⟨x, rfl, hbel⟩; have HB8 := Aside0.mk hbel; have HWA8 := Aside0.mk (HWA.out.below hbel))
                      | (go_at_call 110; refine (free1_any d g1 g2 A c bs u v x _ HWA8.out.c1 HWA8.out.c2 HWA8.out.bC HE.out.bn).mono ?_; rintro e w9 ⟨rfl, hbel⟩; rw [HOB.out]; have HB9 := Aside0.mk hbel))
                  have HBB := Aside0.mk (show Below wq.heap.size wq w9 from ((Below.refl wq.heap.size wq).drew.trans (HB8.out.mono (Nat.le_refl _))).trans (HB9.out.mono HB8.out.size))
                  have HD11 := Aside0.mk (HD10.out.below HBB.out)
                  have HO3 := Aside0.mk (HO2.out.far (fun q hq1 hq2 => HBB.out.block q (by have := HB.out; have := HS9.out; have := HS10.out; omega)))
                  have HS11 := Aside0.mk (Nat.le_trans HB.out (Nat.le_trans HS9.out (Nat.le_trans HS10.out HBB.out.size)))
                  clear hbel q0 q1 q3 HB8 HB9 HWA HWA8 HBB
                  go_wp2_with (go_at_call 117; refine (spush_any w0.heap.size gd (vfV gv) (tfV g1 g2) (.map (some w0.heap.size)) st3 _ v _ HD11.out.stk (by have := HFL.out; have := HL.out; rw [List.length_append]; omega) HD11.out.L).mono ?_; rintro e w10 ⟨rfl, st4, wc, hs4, hg4, hg5, hat⟩; have HD12 := Aside0.mk (HD11.out.push hs4 hg4 hg5); have HG := Aside0.mk (And.intro hg4 (And.intro hg5 hat)); clear hs4 hg4 hg5 hat)
                  go_roundw
                  case rel =>
                    have hOn : OIt lo B w10 b nb (k + 1) := HO3.out.far (fun q hq1 hq2 => two_turns HG.out.1 HG.out.2.1 (by have := HS11.out; omega) (fun e => by have := HST.out q e; omega) (by have := HD11.out.gd0; have := HLO.out.1; omega))
                    have hsz : w9.heap.size ≤ w10.heap.size := Nat.le_trans HG.out.1.size HG.out.2.1.size
                    refine ⟨⟨k + 1, st4, by omega, hOn, ?_, fun q hq => ?_, Nat.le_trans HS11.out hsz⟩⟩
                    · have := HD12.out
                      rw [List.append_assoc] at this
                      rw [HTK.out, List.filter_append, List.filter_cons, if_pos HOB.out]
                      exact this
                    · rcases HG.out.2.2 with h1 | ⟨q', h1, h2⟩
                      · rw [h1] at hq; exact HST.out q hq
                      · rw [h1] at hq
                        have := Option.some.inj hq
                        have := HS11.out
                        omega
                  case measure =>
                    have hOn : OIt lo B w10 b nb (k + 1) := HO3.out.far (fun q hq1 hq2 => two_turns HG.out.1 HG.out.2.1 (by have := HS11.out; omega) (fun e => by have := HST.out q e; omega) (by have := HD11.out.gd0; have := HLO.out.1; omega))
                    rw [hOn.pos, HPOS.out]; omega
                · have hob' : freeB d bs u v = false := by simpa using hob
                  have HOB := Aside0.mk hob'
                  clear hob hob'
                  go_region_held3 (fun w' => w'.cell? ⟨gd, 1, none⟩ = some (.func (.func 110) #[] #[.pointer (some ⟨g1, 0, none⟩), .pointer (some ⟨g2, 0, none⟩)]))
                    (first | exact below_cellOf hbel (by assumption) | go_keep)
                    (first
                      | (go_at_call 329; refine (gEdgeU base bp zs es p u v _ HWA.out.gr HUZ.out HVM.out.1 HVM.out.2).mono ?_; rintro e w8 ⟨x, rfl, hbel⟩; have HB8 := Aside0.mk hbel; have HWA8 := Aside0.mk (HWA.out.below hbel))
                      | (go_at_call 110; refine (free1_any d g1 g2 A c bs u v x _ HWA8.out.c1 HWA8.out.c2 HWA8.out.bC HE.out.bn).mono ?_; rintro e w9 ⟨rfl, hbel⟩; rw [HOB.out]; have HB9 := Aside0.mk hbel))
                  have HBB := Aside0.mk (show Below wq.heap.size wq w9 from ((Below.refl wq.heap.size wq).drew.trans (HB8.out.mono (Nat.le_refl _))).trans (HB9.out.mono HB8.out.size))
                  have HD11 := Aside0.mk (HD10.out.below HBB.out)
                  have HO3 := Aside0.mk (HO2.out.far (fun q hq1 hq2 => HBB.out.block q (by have := HB.out; have := HS9.out; have := HS10.out; omega)))
                  have HS11 := Aside0.mk (Nat.le_trans HB.out (Nat.le_trans HS9.out (Nat.le_trans HS10.out HBB.out.size)))
                  clear hbel q0 q1 q3 HB8 HB9 HWA HWA8 HBB
                  go_wp2
                  go_roundw
                  case rel =>
                    refine ⟨⟨k + 1, st3, by omega, HO3.out, ?_, HST.out, HS11.out⟩⟩
                    have := HD11.out
                    rw [HTK.out, List.filter_append, List.filter_cons, if_neg (by rw [HOB.out]; simp), List.filter_nil, List.append_nil]
                    exact this
                  case measure => rw [HO3.out.pos, HPOS.out]; omega
              · have hke : k = nb.length := by omega
                have hdk : decide (k < nb.length) = false := decide_eq_false hlt
                go_wp2_with (go_at_call 357; refine (next_any lo B b k nb _ HO.out (by omega)).mono ?_; rintro e wn ⟨rfl, hO1, hM1⟩; rw [hdk]; have HD9 := Aside0.mk (HD8.out.mid hM1 HLO.out.1 HLO.out.2.1 HST.out HLO.out.2.2); clear hO1 hM1)
                go_roundg k1
                case measure => omega
                case rel =>
                  have hD9 := HD9.out
                  have hadj : (nb.take k).filter (freeB d bs u) = adjF d zs es bs u := by rw [hke, List.take_length, ← HNB.out]; rfl
                  rw [hadj] at hD9
                  have hal : (adjF d zs es bs u).length ≤ 1000 := by unfold adjF; exact Nat.le_trans (List.length_filter_le _ _) (by rw [HNB.out]; exact hnl)
                  refine ⟨⟨st3, vv5, _, _, hD9, HR.out, ?_, ?_, ?_, fun x hx => ?_⟩⟩
                  · rw [List.length_append]; have := HL.out; omega
                  · rw [List.length_append, List.length_singleton]; have := HL.out; omega
                  · have := HL.out; omega
                  · rcases List.mem_append.1 hx with hx | hx
                    · exact HZ.out x hx
                    · exact (outN_mem (List.mem_filter.1 hx).1).1
end Go.Proofs.YtfkmpnpliadohaaGreat.R
