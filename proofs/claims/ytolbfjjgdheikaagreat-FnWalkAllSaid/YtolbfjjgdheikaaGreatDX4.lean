import Derived.Test.YtolbfjjgdheikaaGreatDX3
set_option linter.unusedVariables false
set_option linter.unusedSimpArgs false
/- One walk breadth first inside a walk through all. -/
namespace Go.Proofs.YtolbfjjgdheikaaGreat.R
open Go.RowKit Go.Lab Go.Maps Go.Proofs.YtolbfjjgdheikaaGreatW.PrintWords Go.Proofs.YtolbfjjgdheikaaGreatW.PrintLast Go.Proofs.YtolbfjjgdheikaaGreatW.PrintMore PL

set_option maxHeartbeats 16000000 in
set_option maxRecDepth 100000 in
theorem bfsV_first (K : Kp) (F : Nat → Prop) (w0 wF : World) (gd gv gu base bp : Nat) (dv : Value) (zs : List Int) (es : List S34) (p : Pl) (st vv : Value)  (s0 : Int) (N : Nat) (hN : N ≤ 9000) (r : List Int)
    (h : VEnvB K w0 gd gv base bp zs es p) (hU : UntilOkB K w0.heap.size gv gu dv) (hFu : F gu) (hdv : wF.cell? ⟨gu, 0, none⟩ = some dv)
    (hs : Que w0.heap.size wF gd .nilFunc .nilFunc (.map none) st [] []) (hg : Gat K w0.heap.size wF gv vv []) (gv0 : gv < w0.heap.size) (gd0 : gd < w0.heap.size) (kp : KeepF (WM gd gv w0.heap.size) w0 wF)
    (sep : ∀ k, st.ownBlock = some k → vv.ownBlock ≠ some k) (nF : ∀ k, F k → w0.heap.size ≤ k ∧ k < wF.heap.size ∧ st.ownBlock ≠ some k ∧ vv.ownBlock ≠ some k)
    (hs0 : s0 ∈ zs) (hr : bfsV (outN zs es) ([] : List Int) N [s0] [] = some r) :
    Calls Tryz.prog 66 #[.pointer (some ⟨gd, 0, none⟩), .iface 56 (.agg #[.pointer (some ⟨bp, 0, none⟩)]), .iface 97 (.int .i64 s0), .func (.func 67) #[] #[.pointer (some ⟨gu, 0, none⟩)]] wF fun e w' =>
      e = .returned .nilIface ∧ VEndB K F w0 wF w' gd gv wF.heap.size ([] : List Int) r := by
  have HE := Aside0.mk h
  have HU := Aside0.mk hU
  have hnn := h.gr.hn
  have HDV : Aside0 (∀ w' : World, w'.heap[gu]? = wF.heap[gu]? → w'.cell? ⟨gu, 0, none⟩ = some dv) := ⟨fun w' e => (World.cell?_of_block e).trans hdv⟩
  have HFU := Aside0.mk hFu
  have HS := Aside0.mk (DB.first (F := F) h.ok hs hg gv0 gd0 kp sep nF)
  have e3 : wF.cell? ⟨gd, 4, none⟩ = some (.map none) := (blk_cell hs.blk 4).trans rfl
  have f3 := blk_frozen hs.blk 4
  have hgl := blk_lt hs.blk
  have hne : gd ≠ wF.heap.size := by omega
  have kM := mapNil'
  have kN := run_map78
  have mF := meth_UFrom2 ⟨bp, 0, none⟩
  have kU := vnUB gu
  have kV := vnV
  have kT := vnT
  have HR := Aside0.mk hr
  have HS0 := Aside0.mk hs0
  have HW0 := Aside0.mk (h.wf s0 hs0)
  have m0 := meth_ID s0
  have hvb0 : (([] : List Int)).length ≤ 10000000 := by (try simp only [List.length_nil]); omega
  clear h hU hFu hdv hr hs0
  clear hs hg gv0 gd0 kp sep nF
  go_enter Tryz.func66, Tryz.ntmps66
  go_wp2_with (go_at_call 101; refine (enq_any w0.heap.size gd .nilFunc .nilFunc (.map (some wF.heap.size)) st [] [] s0 _ HS.out.que (by simp) HS.out.L).mono ?_; rintro e w1 ⟨rfl, st1, jk1, hq1, hj1, hk1, hat⟩; have HD := Aside0.mk (HS.out.queS hq1 hk1 hat); have HJ := Aside0.mk hj1; clear hq1 hk1 hat hj1)
  clear e3 f3
  obtain ⟨q0, q1, q3⟩ := HD.out.cells
  go_quiet (fail)
  have HBQ := Aside0.mk (show Below w1.heap.size w1 (w1.drewN nq) from pw_below_drewN (Below.refl _ _) nq)
  go_wp2_with fail
  go_region_held3 (fun w' => w'.cell? ⟨gd, 4, none⟩ = some (.map (some wF.heap.size)))
    (first | exact hkeep | go_keep)
    (first
      | (go_at_call 202; refine (nodeID_any s0 _).mono ?_; rintro e w3 ⟨rfl, rfl⟩)
      | (go_at_call 99; refine (add_any wF.heap.size ([] : List Int) s0 _ (HD.out.below (pw_below_drewN (Below.refl _ _) _)).set HW0.out hvb0).mono ?_; rintro e w5 ⟨rfl, hs5, hg5⟩; have HD5 := Aside0.mk ((HD.out.below (pw_below_drewN (Below.refl _ _) _)).setS hs5 hg5); have hkeep := HD5.out.cells.2.2; clear hs5 hg5))
  have HI := Aside0.mk (show BqI K F w0 wF w5 gd gv wF.heap.size (outN zs es) zs ([] : List Int) N r N 0 0 1 from ⟨st1, vv, jk1, [s0], [], by simpa using HD5.out, HR.out, by have := HJ.out; simp at this ⊢; omega, by simp, by omega, by omega, by omega, by omega, by omega, by omega, Nat.le_refl _, fun x hx => by simp at hx; subst hx; exact HS0.out⟩)
  clear HD HD5 q0 q1 q3 hkeep HBQ HJ
  go_wp2
  go_loopg [9, 10, 11] N (fun kq v9 v10 v11 w' => ∃ d' c' n' : Int, v9 = .int .i64 d' ∧ v10 = .int .i64 c' ∧ v11 = .int .i64 n' ∧ Aside0 (BqI K F w0 wF w' gd gv wF.heap.size (outN zs es) zs ([] : List Int) N r kq d' c' n'))
  case atStart => exact ⟨0, 0, 1, rfl, rfl, rfl, HI⟩
  case round =>
    clear HI HS HR HS0
    obtain ⟨d', c', n', rfl, rfl, rfl, hrel⟩ := hrel
    obtain ⟨st, vv, jk, q, pt, hD, hr, hl1, hl2, hd1, hd2, hc1, hc2, hn1, hn2, hkq, hz⟩ := hrel.out
    cases gk with
    | zero => exact absurd hr (by simp [bfsV])
    | succ k1 =>
      have HD := Aside0.mk hD
      have hql : jk.length + q.length ≤ 10000000 := by omega
      have hpb : pt.length ≤ 10000000 := by omega
      cases q with
      | nil =>
        have hr' : some pt = some r := hr
        obtain rfl := Option.some.inj hr'
        clear hrel hr hr' hl1 hl2 hz hD
        go_wp2_with (go_at_call 102; refine (qlen_any _ gd _ _ _ _ jk [] _ HD.out.que hql).mono ?_; rintro e w2 ⟨rfl, hb2⟩; rw [show (([] : List Int).length : Int) = 0 from rfl]; have HD2 := Aside0.mk (HD.out.below hb2); clear hb2)
        go_ret
        obtain rfl := HD2.out.que.ne rfl
        exact ⟨rfl, st, vv, by simpa using HD2.out⟩
      | cons u q =>
        have hr' : bfsV (outN zs es) ([] : List Int) k1 (newQ (([] : List Int) ++ (pt ++ [u])) (outN zs es u) q) (pt ++ [u]) = some r := hr
        have hlen : ((u :: q).length : Int) = (q.length : Int) + 1 := by simp
        have hlen' : (u :: q).length = q.length + 1 := by simp
        rw [hlen'] at hl1
        have HN := Aside0.mk hlen
        have HW := Aside0.mk (HE.out.wf u (hz u (by simp)))
        have HUZ := Aside0.mk (hz u (by simp))
        have HZ := Aside0.mk (show ∀ x ∈ q, x ∈ zs from fun x hx => hz x (by simp [hx]))
        have m1 := meth_ID u
        have hk1 : N - k1 = N - (k1 + 1) + 1 := by omega
        have HL := Aside0.mk (And.intro hl1 (And.intro hl2 (And.intro hkq hk1)))
        have bn1 : -10000000 ≤ n' := by omega
        have bn2 : n' ≤ 10000000 := by omega
        have bd2 : d' ≤ 10000000 := by omega
        have bc2 : c' ≤ 10000000 := by omega
        have HBN := Aside0.mk (And.intro hd2 (And.intro hc2 (And.intro hn1 hn2)))
        have HR := Aside0.mk hr'
        clear hlen hlen' hz hl1 hl2 hkq hrel hD hr hr' hd2 hc2 hn1 hn2 hk1
        go_wp2_with (first
          | (go_at_call 102; refine (qlen_any _ gd _ _ _ _ jk (u :: q) _ HD.out.que hql).mono ?_; rintro e w2 ⟨rfl, hb2⟩; rw [HN.out]; have HD2 := Aside0.mk (HD.out.below hb2); clear hb2)
          | (go_at_call 103; refine (deq_any _ gd _ _ _ _ jk q u _ HD2.out.que hql).mono ?_; rintro e w3 ⟨rfl, st3, jk3, hq3, hj3, hs3, hk3⟩; have HD3 := Aside0.mk (HD2.out.queS hq3 hk3 (.inl hs3)); have HJ3 := Aside0.mk hj3; clear hq3 hj3 hs3 hk3)
          | (go_at_call 67; refine (HU.out w3 vv pt u d' HD3.out.gat hpb HD3.out.L (HDV.out w3 (HD3.out.nF gu HFU.out).2.2.2.2.2)).mono ?_; rintro e w4 ⟨rfl, vv4, wb, hv4, hg4, hg4', hat4⟩; have HD6 := Aside0.mk (HD3.out.visS hv4 hg4 hg4' hat4); clear hv4 hg4 hg4' hat4)
          | (go_at_call 202; refine (nodeID_any u _).mono ?_; rintro e w3 ⟨rfl, rfl⟩)
          | (go_at_call 185; refine (gFromU base bp zs es p u _ (HE.out.to HD6.out.kp) HUZ.out).mono ?_; rintro e w7 ⟨b, rfl, hit, hb7⟩; have HD7 := Aside0.mk (HD6.out.below hb7); have HIT := Aside0.mk hit; have HB7 := Aside0.mk hb7; clear hit hb7))
        obtain ⟨nb, hnb⟩ : ∃ nb, outN zs es u = nb := ⟨_, rfl⟩
        rw [hnb] at HIT HR
        have HNB := Aside0.mk hnb
        have hnl : nb.length ≤ 1000 := by rw [← hnb]; exact Nat.le_trans (outN_len zs es u) hnn
        clear hnb
        have e0 : ([] : List Int) ++ pt ++ (u :: q) = ([] : List Int) ++ (pt ++ [u]) ++ q := by simp
        rw [e0] at HD6 HD7
        clear e0
        obtain ⟨seen, hseen⟩ : ∃ seen, ([] : List Int) ++ (pt ++ [u]) = seen := ⟨_, rfl⟩
        rw [hseen] at HD6 HD7 HR
        have HSEEN := Aside0.mk hseen
        have hsl : seen.length ≤ 200000 := by rw [← hseen]; simp only [List.length_append, List.length_cons, List.length_nil]; have := HL.out; omega
        clear hseen
        have HLO := Aside0.mk (show w0.heap.size ≤ w4.heap.size ∧ wF.heap.size < w4.heap.size ∧ (∀ k, vv4.ownBlock = some k → k < w4.heap.size) ∧ (∀ k, F k → k < w4.heap.size) from ⟨HD6.out.L, HD6.out.set.lt, fun k hk => HD6.out.vvLt hk, fun k hk => (HD6.out.nF k hk).2.1⟩)
        have HI2 := Aside0.mk (show VnB K F w0 wF w7 gd gv wF.heap.size vv4 w4.heap.size w7.heap.size b nb seen q (pt ++ [u]) c' c' (jk.length + q.length + 1) 0 from ⟨st3, jk3, Nat.zero_le _, HIT.out, by simp [newQ], by simpa [newQ] using HD7.out, fun x hx => .inl (HD6.out.stLt hx), Nat.le_refl _, by have := HJ3.out; simp [newQ]; omega⟩)
        have n1 := meth_ONext ⟨b, 0, none⟩
        have n2 := meth_ONode ⟨b, 0, none⟩
        clear HD HD2 HD3 HD6 HD7 HIT HB7 HJ3
        generalize w4.heap.size = lo at HI2 HLO
        generalize w7.heap.size = B at HI2
        go_loopw [10] (fun v10 wr => ∃ (cK : Int) (k : Nat), v10 = .int .i64 cK ∧ Aside0 (VnB K F w0 wF wr gd gv wF.heap.size vv4 lo B b nb seen q (pt ++ [u]) c' cK (jk.length + q.length + 1) k)) (fun _ wr => nb.length + 2 - posI wr b)
        case atStart => exact ⟨c', 0, rfl, HI2⟩
        case round =>
          clear HI2
          obtain ⟨cK, k, rfl, hrel⟩ := hrel
          obtain ⟨st4, jk4, hk, hO, hcK, hD, hst, hB, hjq⟩ := hrel.out
          have hRS := newQ_size seen (nb.take k) q
          have htl : (nb.take k).length ≤ k := by rw [List.length_take]; omega
          obtain ⟨R, hR⟩ : ∃ R, newQ seen (nb.take k) q = R := ⟨_, rfl⟩
          rw [hR] at hcK hD hjq hRS
          have bcK1 : 0 ≤ cK := by omega
          have bcK2 : cK ≤ 20000000 := by omega
          have HRR := Aside0.mk hR
          have HCK := Aside0.mk hcK
          have HO := Aside0.mk hO
          have HD8 := Aside0.mk hD
          have HST := Aside0.mk hst
          have HB := Aside0.mk hB
          have HJQ := Aside0.mk hjq
          have HRL := Aside0.mk (show R.length ≤ 9700000 ∧ jk4.length + R.length ≤ 9700000 ∧ q.length ≤ R.length ∧ R.length ≤ q.length + k from by have := HL.out; omega)
          have hpos := hO.pos
          have HPOS := Aside0.mk hpos
          clear hrel hO hD hst hB hjq hpos hR hcK hRS htl
          by_cases hlt : k < nb.length
          · have hdk : decide (k < nb.length) = true := decide_eq_true hlt
            obtain ⟨v, hv⟩ : ∃ v, nb[k] = v := ⟨_, rfl⟩
            have HV := Aside0.mk hv
            have hvm : v ∈ outN zs es u := by rw [HNB.out, ← hv]; exact List.getElem_mem _
            have HVW := Aside0.mk (HE.out.wf v (outN_mem hvm).1)
            have m2 := meth_ID v
            have HTK := Aside0.mk (show nb.take (k + 1) = nb.take k ++ [v] by rw [← hv]; exact List.take_succ_eq_append_getElem hlt)
            clear hv hvm
            go_wp2_with (first
              | (go_at_call 217; refine (next_any lo B b k nb _ HO.out (by omega)).mono ?_; rintro e wn ⟨rfl, hO1, hM1⟩; rw [hdk]; rw [if_pos hlt] at hO1; have HO1 := Aside0.mk hO1; have HD9 := Aside0.mk (HD8.out.mid hM1 HLO.out.1 HLO.out.2.1 HST.out HLO.out.2.2.1 HLO.out.2.2.2); have HS9 := Aside0.mk hM1.size; clear hO1 hM1)
              | (go_at_call 218; refine (nodeI_q lo B b k nb _ HO1.out hlt (by omega)).mono ?_; rintro e wq ⟨rfl, nq, hwq⟩; rw [HV.out]; have HO2 := Aside0.mk (show OIt lo B wq b nb (k + 1) by subst hwq; exact HO1.out.far (fun _ _ _ => rfl)); have HS10 := Aside0.mk (show wn.heap.size ≤ wq.heap.size by subst hwq; exact Nat.le_refl _); have HD10 := Aside0.mk (HD9.out.below (show Below wn.heap.size wn wq by subst hwq; exact pw_below_drewN (Below.refl _ _) nq)); clear hwq)
              | (go_at_call 202; refine (nodeID_any v _).mono ?_; rintro e wi ⟨rfl, rfl⟩))
            obtain ⟨q0, q1, q3⟩ := HD10.out.cells
            go_quiet (fail)
            have HBQ := Aside0.mk (show Below wq.heap.size wq (wq.drewN nq) from pw_below_drewN (Below.refl _ _) nq)
            have HD11 := Aside0.mk (HD10.out.below HBQ.out)
            have HO3 := Aside0.mk (HO2.out.far (fun x hq1 hq2 => HBQ.out.block x (by have := HB.out; have := HS9.out; have := HS10.out; omega)))
            have HS11 := Aside0.mk (show B ≤ (wq.drewN nq).heap.size from Nat.le_trans HB.out (Nat.le_trans HS9.out (Nat.le_trans HS10.out HBQ.out.size)))
            have HSN := Aside0.mk (show newQ seen (nb.take (k + 1)) q = (if v ∈ seen ++ R then R else R ++ [v]) by
              rw [HTK.out, newQ_snoc, HRR.out])
            by_cases hm : v ∈ seen ++ R
            · have hdm : decide (v ∈ seen ++ R) = true := decide_eq_true hm
              have HM := Aside0.mk hm
              clear hm
              go_wp2_with (go_at_call 95; refine (has_any wF.heap.size (seen ++ R) v _ HD11.out.set HVW.out).mono ?_; rintro e w10 ⟨rfl, hbh⟩; rw [hdm]; have HDh := Aside0.mk (HD11.out.below hbh); have HO3h := Aside0.mk (HO3.out.far (fun x hq1 hq2 => hbh.block x (by have := HS11.out; omega))); have HS11h := Aside0.mk (Nat.le_trans HS11.out hbh.size); clear hbh)
              go_roundw
              case rel =>
                have hSN := HSN.out
                rw [if_pos HM.out] at hSN
                exact ⟨cK, k + 1, rfl, ⟨st4, jk4, by omega, HO3h.out, by rw [hSN]; exact HCK.out, by rw [hSN]; exact HDh.out, HST.out, HS11h.out, by rw [hSN]; have := HJQ.out; omega⟩⟩
              case measure => rw [HO3h.out.pos, HPOS.out]; omega
            · have hdm : decide (v ∈ seen ++ R) = false := decide_eq_false hm
              have HM := Aside0.mk hm
              clear hm
              have hR2 : (seen ++ R).length ≤ 10000000 := by rw [List.length_append]; have := HRL.out; omega
              have hR3 : jk4.length + R.length ≤ 9999999 := by have := HRL.out; omega
              go_wp2_with (first
                | (go_at_call 95; refine (has_any wF.heap.size (seen ++ R) v _ HD11.out.set HVW.out).mono ?_; rintro e w10 ⟨rfl, hbh⟩; rw [hdm]; have HDh := Aside0.mk (HD11.out.below hbh); have HO3h := Aside0.mk (HO3.out.far (fun x hq1 hq2 => hbh.block x (by have := HS11.out; omega))); have HS11h := Aside0.mk (Nat.le_trans HS11.out hbh.size); obtain ⟨z0, z1, z3⟩ := HDh.out.cells; clear hbh)
                | (go_at_call 99; refine (add_any wF.heap.size (seen ++ R) v _ HDh.out.set HVW.out hR2).mono ?_; rintro e w13 ⟨rfl, hs6, hg6⟩; have HD13 := Aside0.mk (HDh.out.setS hs6 hg6); have HG6 := Aside0.mk hg6; clear hs6 hg6)
                | (go_at_call 101; refine (enq_any w0.heap.size gd .nilFunc .nilFunc (.map (some wF.heap.size)) st4 jk4 R v _ HD13.out.que hR3 HD13.out.L).mono ?_; rintro e w14 ⟨rfl, st5, jk5, hq7, hj7, hk7, hat7⟩; have HD14 := Aside0.mk (HD13.out.queS hq7 hk7 hat7); have HG7 := Aside0.mk (And.intro hj7 (And.intro hk7 hat7)); clear hq7 hj7 hk7 hat7))
              have hOn : Aside0 (OIt lo B w14 b nb (k + 1) ∧ B ≤ w14.heap.size ∧ w10.heap.size ≤ w13.heap.size) := by
                have s6 := HG6.out.size
                have s7 := HG7.out.2.1.size
                have hB9 := HS11h.out
                have hlo := HLO.out
                have hgd := HD14.out.gd0
                refine ⟨HO3h.out.far (fun x hx1 hx2 => ?_), by omega, by omega⟩
                have e6 : w13.heap[x]? = w10.heap[x]? := HG6.out.block x (by omega) (fun e => by have := Option.some.inj e; omega)
                have e7 : w14.heap[x]? = w13.heap[x]? := HG7.out.2.1.block x (by omega) (fun e => by
                  rcases e with e | e
                  · omega
                  · have := HST.out x e; omega)
                rw [e7, e6]
              go_roundw
              case rel =>
                have hSN := HSN.out
                rw [if_neg HM.out] at hSN
                refine ⟨cK + 1, k + 1, by go_num, ⟨st5, jk5, by omega, hOn.out.1, ?_, ?_, fun x hx => ?_, hOn.out.2.1, ?_⟩⟩
                · rw [hSN, HCK.out, List.length_append, List.length_singleton]; omega
                · rw [hSN, ← List.append_assoc]
                  exact HD14.out
                · rcases HG7.out.2.2 with h1 | ⟨y, h1, h2⟩
                  · rw [h1] at hx; exact HST.out x hx
                  · rw [h1] at hx
                    have := Option.some.inj hx
                    have := HS11h.out
                    have := hOn.out
                    omega
                · rw [hSN, List.length_append, List.length_singleton]
                  have := HJQ.out
                  have := HG7.out.1
                  omega
              case measure => rw [hOn.out.1.pos, HPOS.out]; omega
          · have hke : k = nb.length := by
              have := HPOS.out
              omega
            have hdk : decide (k < nb.length) = false := decide_eq_false hlt
            have HFIN := Aside0.mk (show newQ seen nb q = R by rw [← HRR.out, hke, List.take_length])
            have HMEM := Aside0.mk (show ∀ x ∈ R, x ∈ zs from fun x hx => by
              rw [← HFIN.out] at hx
              rcases (newQ_mem seen nb q x).1 hx with h1 | ⟨h1, _⟩
              · exact HZ.out x h1
              · rw [← HNB.out] at h1; exact (outN_mem h1).1)
            by_cases hn0 : n' - 1 = 0
            · have hnb : (n' - 1 == 0) = true := by simpa using hn0
              have HN0 := Aside0.mk hn0
              clear hn0
              go_wp2_with (go_at_call 217; refine (next_any lo B b k nb _ HO.out (by omega)).mono ?_; rintro e wn ⟨rfl, hO1, hM1⟩; rw [hdk]; have HD9 := Aside0.mk (HD8.out.mid hM1 HLO.out.1 HLO.out.2.1 HST.out HLO.out.2.2.1 HLO.out.2.2.2); clear hO1 hM1)
              go_roundg k1
              case measure => omega
              case rel =>
                have hr := HR.out
                rw [HFIN.out] at hr
                have hd := HD9.out
                rw [← HSEEN.out] at hd
                refine ⟨d' + 1, 0, cK, by go_num, rfl, rfl, ⟨st4, vv4, jk4, R, pt ++ [u], hd, hr, ?_, ?_, ?_, ?_, ?_, ?_, ?_, ?_, ?_, HMEM.out⟩⟩
                all_goals (have hl := HL.out; have hbn := HBN.out; have hjq := HJQ.out; have hrl := HRL.out; have hck := HCK.out; (try rw [List.length_append, List.length_singleton]); omega)
            · have hnb : (n' - 1 == 0) = false := by simpa using hn0
              have HN0 := Aside0.mk hn0
              clear hn0
              go_wp2_with (go_at_call 217; refine (next_any lo B b k nb _ HO.out (by omega)).mono ?_; rintro e wn ⟨rfl, hO1, hM1⟩; rw [hdk]; have HD9 := Aside0.mk (HD8.out.mid hM1 HLO.out.1 HLO.out.2.1 HST.out HLO.out.2.2.1 HLO.out.2.2.2); clear hO1 hM1)
              go_roundg k1
              case measure => omega
              case rel =>
                have hr := HR.out
                rw [HFIN.out] at hr
                have hd := HD9.out
                rw [← HSEEN.out] at hd
                refine ⟨d', cK, n' - 1, rfl, rfl, by go_num, ⟨st4, vv4, jk4, R, pt ++ [u], hd, hr, ?_, ?_, ?_, ?_, ?_, ?_, ?_, ?_, ?_, HMEM.out⟩⟩
                all_goals (have hl := HL.out; have hbn := HBN.out; have hjq := HJQ.out; have hrl := HRL.out; have hck := HCK.out; (try rw [List.length_append, List.length_singleton]); omega)
end Go.Proofs.YtolbfjjgdheikaaGreat.R
