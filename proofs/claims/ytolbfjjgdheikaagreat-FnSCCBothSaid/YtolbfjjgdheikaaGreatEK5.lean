import Derived.Test.YtolbfjjgdheikaaGreatEK4
set_option linter.unusedVariables false
set_option linter.unusedSimpArgs false
/- DepthFirst.WalkAll with ConnectedComponents's functions: the parts are laid down, one after the other. -/
namespace Go.Proofs.YtolbfjjgdheikaaGreat.R
open Go.RowKit Go.Lab Go.Maps Go.Proofs.YtolbfjjgdheikaaGreatW.PrintWords Go.Proofs.YtolbfjjgdheikaaGreatW.PrintLast Go.Proofs.YtolbfjjgdheikaaGreatW.PrintMore PL

theorem vaftN (gl gv : Nat) (w : World) : (binOp .neq 1 (.func (.func 56) #[] #[.pointer (some ⟨gl, 0, none⟩), .pointer (some ⟨gv, 0, none⟩)]) .nilFunc).run Tryz.prog w = .ok (.bool true) w := by kernel_rfl
theorem vbefN (w : World) : (binOp .neq 1 .nilFunc .nilFunc).run Tryz.prog w = .ok (.bool false) w := by kernel_rfl

/-- the state of the walk through all at the i-th node -/
def WIN (w0 w : World) (gd gv gl gu b lo B : Nat) (dv : Value) (adj : Int → List Int) (N : Nat) (xs : List Int) (out : List (List Int)) : Prop :=
  ∃ i ps mp st vv lv rows, i ≤ xs.length ∧ WA kpN 60 w0 w gd gv gl gu b lo B dv xs i ps [] mp st vv lv rows ∧ allV (fun vis u => dfsV adj vis N [u] []) (xs.drop i) ps.flatten ps = some out ∧ ps.length ≤ i ∧ ps.flatten.Nodup ∧ ∀ x ∈ ps.flatten, x ∈ xs

set_option maxHeartbeats 16000000 in
set_option maxRecDepth 100000 in
theorem walkAllN (w0 : World) (gd gv gl base bp : Nat) (dc : Nat) (caps : Array Value) (zs : List Int) (es : List S34) (p : Pl) (N : Nat) (hN : N ≤ 9000) (out : List (List Int))
    (h : VEnv kpN w0 gd gv base bp zs es p) (hU : ∀ gu, UntilOk kpN w0.heap.size gv gu (.func (.func dc) #[] caps)) (hA : AfterOk kpN 60 w0.heap.size gv gl 56)
    (hW : ∀ vis u pt, vis.Nodup → u ∉ vis → u ∈ srt zs → (∀ x ∈ vis, x ∈ srt zs) → dfsV (outN zs es) vis N [u] [] = some pt → (vis ++ pt).Nodup ∧ (∀ x ∈ pt, x ∈ srt zs) ∧ 0 < pt.length)
    (bd : w0.heap[gd]? = some (.cells #[.nilFunc, .nilFunc, .slice none 0 0, .map none] 80 (0, 0))) (bv : w0.heap[gv]? = some (.cells #[.slice none 0 0] kpN.T (0, 0))) (bl : w0.heap[gl]? = some (.cells #[.slice none 0 0] 60 (0, 0)))
    (hr : allV (fun vis u => dfsV (outN zs es) vis N [u] []) (srt zs) [] [] = some out) :
    Calls Tryz.prog 42 #[.pointer (some ⟨gd, 0, none⟩), .iface 56 (.agg #[.pointer (some ⟨bp, 0, none⟩)]), .nilFunc, .func (.func 56) #[] #[.pointer (some ⟨gl, 0, none⟩), .pointer (some ⟨gv, 0, none⟩)], .func (.func dc) #[] caps] w0 fun e w' =>
      e = .returned (.tuple #[]) ∧ ∃ lv rows, Rws kpN 60 w0.heap.size w' gl lv rows out ∧ KeepF (fun k => WM gd gv w0.heap.size k ∨ k = gl) w0 w' := by
  have hnn := h.gr.hn
  have hids : p.ids = srt zs := h.gr.adj.ids
  have hxl : p.ids.length ≤ 1000 := by rw [hids, srt_length]; exact hnn
  have hmem : ∀ x ∈ p.ids, x ∈ zs := fun x hx => (mem_srt _ _).1 (hids ▸ hx)
  rw [← hids] at hr hW
  have HE := Aside0.mk h
  have HU := Aside0.mk hU
  have HA := Aside0.mk hA
  have HW := Aside0.mk hW
  have HR := Aside0.mk hr
  have HM := Aside0.mk hmem
  have gd0 := blk_lt bd
  have gv0 := blk_lt bv
  have gl0 := blk_lt bl
  have BD := Aside0.mk bd
  have BV := Aside0.mk bv
  have BL := Aside0.mk bl
  have HNE := Aside0.mk (show gd ≠ gv ∧ gd ≠ gl from ⟨fun e => by subst e; exact absurd (blk_type bd bv) (by decide), fun e => by subst e; exact absurd (blk_type bd bl) (by decide)⟩)
  have m1 := meth_UNodes ⟨bp, 0, none⟩
  have kA := vaftN gl gv
  have kB := vbefN
  clear h hU hA hW hr hids hmem bd bv bl hnn
  obtain ⟨xs, hxs⟩ : ∃ xs, p.ids = xs := ⟨_, rfl⟩
  rw [hxs] at hxl HW HR HM
  have HXS := Aside0.mk hxs
  clear hxs
  go_enter Tryz.func42, Tryz.ntmps42
  go_wp2_with (first
    | (go_at_call 60; refine (reset_new gd _ (blk_alloc BD.out _)).mono ?_; rintro e w1 ⟨rfl, hd1, hg1⟩; have H1 := Aside0.mk (And.intro hd1 hg1); clear hd1 hg1)
    | (go_at_call 188; refine (nodesU_any base bp p w1 (HE.out.gr.ok.kinds fun k c t hk ht => ((H1.out.2.block k (by have := blk_lt hk; simp; omega) (fun e => by have e2 := Option.some.inj e; subst e2; have := blk_type hk BD.out; rcases ht with e | e | e | e <;> rw [e] at this <;> exact absurd this (by decide))).trans (Below.heap_alloc _ _ _ (blk_lt hk)))) (by rw [HXS.out]; exact hxl)).mono ?_; rintro e w2 ⟨b, rfl, hit, hbel⟩; rw [HXS.out] at hit; have H2 := Aside0.mk (And.intro hit hbel); clear hit hbel))
  have HI := Aside0.mk (show WIN w0 w2 gd gv gl w0.heap.size b w1.heap.size w2.heap.size (.func (.func dc) #[] caps) (outN zs es) N xs out from by
    have hz : (w0.alloc (.cells #[.func (.func dc) #[] caps] 74)).heap.size = w0.heap.size + 1 := by simp
    have hz1 := H1.out.2.size
    rw [hz] at hz1
    have kk : ∀ k, k < w0.heap.size + 1 → k ≠ gd → w2.heap[k]? = (w0.alloc (.cells #[.func (.func dc) #[] caps] 74)).heap[k]? := fun k hk hne => (H2.out.2.block k (by omega)).trans (H1.out.2.block k (by rw [hz]; exact hk) (fun e => hne (Option.some.inj e)))
    have kl : ∀ k, k < w0.heap.size → k ≠ gd → w2.heap[k]? = w0.heap[k]? := fun k hk hne => (kk k (by omega) hne).trans (Below.heap_alloc _ _ _ hk)
    refine ⟨0, [], none, .slice none 0 0, .slice none 0 0, .slice none 0 0, [], Nat.zero_le _, ?_, by simpa using HR.out, Nat.le_refl _, by simp, by simp⟩
    refine ⟨kpN_ok, .inr rfl, ⟨(H2.out.2.block gd (blk_lt H1.out.1)).trans H1.out.1, World.ownsRow_nil _ _ _ _⟩, fun _ => ⟨rfl, rfl⟩, fun gm e => (by cases e), ⟨(kl gv gv0 HNE.out.1.symm).trans BV.out, World.ownsRow_nil _ _ _ _⟩, ⟨(kl gl gl0 HNE.out.2.symm).trans BL.out, World.ownsRow_nil _ _ _ _, rfl, fun i hi => absurd hi (Nat.not_lt_zero _)⟩, gd0, gv0, gl0, ⟨_, BL.out⟩, ?_, H2.out.1, (kk w0.heap.size (by omega) (by omega)).trans (heap_alloc_new _ _), Nat.le_refl _, by omega, Nat.le_refl _, fun k hk => by simp [Value.ownBlock] at hk, fun k _ => ⟨by simp [Value.ownBlock], by simp [Value.ownBlock], by simp⟩, fun k hk => ?_⟩
    · exact ((KeepF.of_below ((Below.refl _ w0).alloc (Nat.le_refl _) _)).trans (KeepF.of_grown H1.out.2 (fun k hk => .inl (.inl (Option.some.inj hk).symm)))).trans (KeepF.of_below H2.out.2)
    · rcases hk with e | ⟨v, hv, _⟩
      · simp [Value.ownBlock] at e
      · cases hv)
  have n1 := meth_ONext ⟨b, 0, none⟩
  have n2 := meth_ONode ⟨b, 0, none⟩
  clear H1 H2 BD BV BL
  generalize w1.heap.size = lo at HI
  generalize w2.heap.size = B at HI
  go_loopw [11] (fun _ wr => Aside0 (WIN w0 wr gd gv gl w0.heap.size b lo B (.func (.func dc) #[] caps) (outN zs es) N xs out)) (fun _ wr => xs.length + 2 - posI wr b)
  case atStart => exact HI
  case round =>
    clear HI
    obtain ⟨i, ps, mp, st, vv, lv, rows, hi, hA1, hal, hpl, hnd, hin⟩ := hrel.out
    have HWA := Aside0.mk hA1
    have HPOS := Aside0.mk hA1.it.pos
    clear hA1 hrel
    by_cases hlt : i < xs.length
    · have hdk : decide (i < xs.length) = true := decide_eq_true hlt
      obtain ⟨x, hx⟩ : ∃ x, xs[i] = x := ⟨_, rfl⟩
      have HX := Aside0.mk hx
      have HXM := Aside0.mk (show x ∈ xs from hx ▸ List.getElem_mem hlt)
      have HXW := Aside0.mk (HE.out.wf x (HM.out x HXM.out))
      have HDR := Aside0.mk (show xs.drop i = x :: xs.drop (i + 1) by rw [List.drop_eq_getElem_cons hlt, hx])
      have HAL := Aside0.mk hal
      have HND := Aside0.mk (And.intro hnd hin)
      have hfl : ps.flatten.length ≤ 1000 := Nat.le_trans (nodup_len hnd hin) hxl
      have HFL := Aside0.mk hfl
      clear hal hnd hin hfl hx
      by_cases hvis : x ∈ ps.flatten
      · have hdv : decide (x ∈ ps.flatten) = true := decide_eq_true hvis
        go_wp2_with (first
          | (go_at_call 217; refine (next_any lo B b i xs _ HWA.out.it (by omega)).mono ?_; rintro e wn ⟨rfl, hO1, hM1⟩; rw [hdk]; rw [if_pos hlt] at hO1; have HW1 := Aside0.mk (HWA.out.mid hM1 hO1); clear hO1 hM1)
          | (go_at_call 218; refine (nodeI_q lo B b i xs _ HW1.out.it hlt (by omega)).mono ?_; rintro e wq ⟨rfl, nq, hwq⟩; rw [HX.out]; have HW2 := Aside0.mk (HW1.out.below (show Below wn.heap.size wn wq by subst hwq; exact pw_below_drewN (Below.refl _ _) nq)); clear hwq)
          | (go_at_call 61; refine (HW2.out.visited x HXW.out).mono ?_; rintro e w5 ⟨rfl, hb5⟩; rw [hdv]; have HW5 := Aside0.mk (HW2.out.below hb5); clear hb5))
        go_roundw
        case rel =>
          have h1 := HAL.out
          rw [HDR.out, allV, if_pos hvis] at h1
          exact ⟨⟨i + 1, ps, mp, st, vv, lv, rows, by omega, HW5.out, h1, by omega, HND.out.1, HND.out.2⟩⟩
        case measure => rw [HW5.out.it.pos, HPOS.out]; omega
      · have hdv : decide (x ∈ ps.flatten) = false := decide_eq_false hvis
        obtain ⟨pt, hpt, hal2⟩ : ∃ pt, dfsV (outN zs es) ps.flatten N [x] [] = some pt ∧ allV (fun vis u => dfsV (outN zs es) vis N [u] []) (xs.drop (i + 1)) (ps.flatten ++ pt) (ps ++ [pt]) = some out := by
          have h1 := HAL.out
          rw [HDR.out, allV, if_neg hvis] at h1
          exact Option.bind_eq_some_iff.1 h1
        have HPT := Aside0.mk hpt
        have HAL2 := Aside0.mk hal2
        have HWW := Aside0.mk (HW.out ps.flatten x pt HND.out.1 hvis HXM.out HND.out.2 hpt)
        have hptl : pt.length ≤ 1000 := by
          have h1 := HWW.out.1
          rw [List.nodup_append] at h1
          exact Nat.le_trans (nodup_len h1.2.1 HWW.out.2.1) hxl
        clear hpt hal2 HAL
        go_wp2_with (first
          | (go_at_call 217; refine (next_any lo B b i xs _ HWA.out.it (by omega)).mono ?_; rintro e wn ⟨rfl, hO1, hM1⟩; rw [hdk]; rw [if_pos hlt] at hO1; have HW1 := Aside0.mk (HWA.out.mid hM1 hO1); clear hO1 hM1)
          | (go_at_call 218; refine (nodeI_q lo B b i xs _ HW1.out.it hlt (by omega)).mono ?_; rintro e wq ⟨rfl, nq, hwq⟩; rw [HX.out]; have HW2 := Aside0.mk (HW1.out.below (show Below wn.heap.size wn wq by subst hwq; exact pw_below_drewN (Below.refl _ _) nq)); clear hwq)
          | (go_at_call 61; refine (HW2.out.visited x HXW.out).mono ?_; rintro e w5 ⟨rfl, hb5⟩; rw [hdv]; have HW5 := Aside0.mk (HW2.out.below hb5); clear hb5)
          | (go_at_call 62; refine (HW5.out.walk HE.out (HU.out _) (by have := HFL.out; omega) x (HM.out x HXM.out) N hN pt HPT.out).mono ?_; rintro e w6 ⟨rfl, gm, st6, vv6, hw6⟩; have HW6 := Aside0.mk hw6; clear hw6)
          | (go_at_call 56; refine (HA.out w6 vv6 lv rows ps pt HW6.out.gat HW6.out.rws (fun v hv k hk => (HW6.out.far k (.inr (.inr (.inr ⟨v, hv, hk⟩)))).2.1) HWW.out.2.2 (by omega) (by omega) HW6.out.kp.size gv0 gl0).mono ?_; rintro e w7 ⟨rfl, vv7, lv7, rows7, a1, a2, a3, a4, a5, a6, a7⟩; have HW7 := Aside0.mk (HW6.out.after (by simp) a1 a2 a3 a4 a5 a6 a7 (by decide)); clear a1 a2 a3 a4 a5 a6 a7))
        go_roundw
        case rel =>
          have h1 := HAL2.out
          have e : (ps ++ [pt]).flatten = ps.flatten ++ pt := by simp
          refine ⟨⟨i + 1, ps ++ [pt], some gm, st6, vv7, lv7, rows7, by omega, HW7.out, by rw [e]; exact h1, by simp; omega, by rw [e]; exact HWW.out.1, fun y hy => ?_⟩⟩
          rw [e] at hy
          rcases List.mem_append.1 hy with hy | hy
          · exact HND.out.2 y hy
          · exact HWW.out.2.1 y hy
        case measure => rw [HW7.out.it.pos, HPOS.out]; omega
    · have hdk : decide (i < xs.length) = false := decide_eq_false hlt
      have HAL := Aside0.mk hal
      clear hal hnd hin
      go_wp2_with (go_at_call 217; refine (next_any lo B b i xs _ HWA.out.it (by omega)).mono ?_; rintro e wn ⟨rfl, hO1, hM1⟩; rw [hdk]; have HW1 := Aside0.mk (HWA.out.mid hM1 hO1); clear hO1 hM1)
      go_end0
      have h1 := HAL.out
      rw [List.drop_eq_nil_of_le (by omega), allV] at h1
      obtain rfl := Option.some.inj h1
      exact ⟨rfl, lv, rows, HW1.out.rws, HW1.out.kp⟩
end Go.Proofs.YtolbfjjgdheikaaGreat.R
