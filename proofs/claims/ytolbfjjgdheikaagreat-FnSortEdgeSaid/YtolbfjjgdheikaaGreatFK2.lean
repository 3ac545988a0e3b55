import Derived.Test.YtolbfjjgdheikaaGreatFK1
set_option linter.unusedVariables false
set_option linter.unusedSimpArgs false
/- One walk depth first inside a walk through all. -/
namespace Go.Proofs.YtolbfjjgdheikaaGreat.R
open Go.RowKit Go.Lab Go.Maps Go.Proofs.YtolbfjjgdheikaaGreatW.PrintWords Go.Proofs.YtolbfjjgdheikaaGreatW.PrintLast Go.Proofs.YtolbfjjgdheikaaGreatW.PrintMore PL


set_option maxHeartbeats 16000000 in
set_option maxRecDepth 100000 in
theorem dfsV_first (K : Kp) (F : Nat → Prop) (w0 wF : World) (gd gv gu base bp : Nat) (dv : Value) (zs : List Int) (es : List S34) (p : Pl) (st vv : Value)  (s0 : Int) (N : Nat) (hN : N ≤ 9000) (r : List Int)
    (h : VEnv K w0 gd gv base bp zs es p) (hU : UntilOk K w0.heap.size gv gu dv) (hFu : F gu) (hdv : wF.cell? ⟨gu, 0, none⟩ = some dv)
    (hs : Stk w0.heap.size wF gd .nilFunc .nilFunc (.map none) st []) (hg : Gat K w0.heap.size wF gv vv []) (gv0 : gv < w0.heap.size) (gd0 : gd < w0.heap.size) (kp : KeepF (WM gd gv w0.heap.size) w0 wF)
    (sep : ∀ k, st.ownBlock = some k → vv.ownBlock ≠ some k) (nF : ∀ k, F k → w0.heap.size ≤ k ∧ k < wF.heap.size ∧ st.ownBlock ≠ some k ∧ vv.ownBlock ≠ some k)
    (hs0 : s0 ∈ zs) (hr : dfsV (outN zs es) ([] : List Int) N [s0] [] = some r) :
    Calls Tryz.prog 62 #[.pointer (some ⟨gd, 0, none⟩), .iface 56 (.agg #[.pointer (some ⟨bp, 0, none⟩)]), .iface 97 (.int .i64 s0), .func (.func 63) #[] #[.pointer (some ⟨gu, 0, none⟩)]] wF fun e w' =>
      e = .returned .nilIface ∧ VEnd K F w0 wF w' gd gv wF.heap.size ([] : List Int) r := by
  have HE := Aside0.mk h
  have HU := Aside0.mk hU
  have hnn := h.gr.hn
  have HDV : Aside0 (∀ w' : World, w'.heap[gu]? = wF.heap[gu]? → w'.cell? ⟨gu, 0, none⟩ = some dv) := ⟨fun w' e => (World.cell?_of_block e).trans hdv⟩
  have HFU := Aside0.mk hFu
  have HS := Aside0.mk (DV.first (F := F) h.ok hs hg gv0 gd0 kp sep nF)
  have e3 : wF.cell? ⟨gd, 3, none⟩ = some (.map none) := (blk_cell hs.blk 3).trans rfl
  have f3 := blk_frozen hs.blk 3
  have hgl := blk_lt hs.blk
  have hne : gd ≠ wF.heap.size := by omega
  have kM := mapNil'
  have kN := run_map78
  have mF := meth_UFrom2 ⟨bp, 0, none⟩
  have kU := vnU gu
  have kV := vnV
  have kT := vnT
  have HR := Aside0.mk hr
  have HS0 := Aside0.mk hs0
  clear h hU hFu hdv hr hs0
  clear hs hg gv0 gd0 kp sep nF
  go_enter Tryz.func62, Tryz.ntmps62
  go_wp2_with (go_at_call 96; refine (spush_any w0.heap.size gd .nilFunc .nilFunc (.map (some wF.heap.size)) st [] s0 _ HS.out.stk (by simp) HS.out.L).mono ?_; rintro e w1 ⟨rfl, st1, wa, hs1, hg1, hg2, hat⟩; have HD := Aside0.mk (HS.out.push hs1 hg1 hg2 hat); clear hs1 hg1 hg2 hat)
  have HI := Aside0.mk (show DvI K F w0 wF w1 gd gv wF.heap.size (outN zs es) zs ([] : List Int) N r N from ⟨st1, _, [s0], [], by simpa using HD.out, HR.out, by simp, by simp, Nat.le_refl _, fun x hx => by simp at hx; subst hx; exact HS0.out⟩)
  clear HD e3 f3
  go_loopg [9] N (fun kq v9 w' => Aside0 (DvI K F w0 wF w' gd gv wF.heap.size (outN zs es) zs ([] : List Int) N r kq))
  case atStart => exact HI
  case round =>
    clear HI HS HR HS0
    obtain ⟨st, vv, stk, pt, hD, hr, hl1, hl2, hkq, hz⟩ := hrel.out
    cases gk with
    | zero => exact absurd hr (by simp [dfsV])
    | succ k1 =>
      have HD := Aside0.mk hD
      rcases nil_or_snoc stk with rfl | ⟨s, u, rfl⟩
      · rw [dfsV_nil] at hr
        obtain rfl := Option.some.inj hr
        clear hrel hr hl1 hl2 hkq hz hD
        go_wp2_with (go_at_call 97; refine (slen_any _ gd _ _ _ _ [] _ HD.out.stk).mono ?_; rintro e w2 ⟨rfl, rfl⟩)
        go_ret
        exact ⟨rfl, _, _, HD.out⟩
      · rw [dfsV_snoc] at hr
        have hlen : (s ++ [u]).length = s.length + 1 := by simp
        rw [hlen] at hl1
        have HN := Aside0.mk hlen
        have HW := Aside0.mk (HE.out.wf u (hz u (by simp)))
        have HUZ := Aside0.mk (hz u (by simp))
        have HZ := Aside0.mk (show ∀ x ∈ s, x ∈ zs from fun x hx => hz x (by simp [hx]))
        have m1 := meth_ID u
        have HL := Aside0.mk (And.intro hl1 (And.intro hl2 hkq))
        have hsb : s.length ≤ 10000000 := by omega
        have hvb : (([] : List Int) ++ pt).length ≤ 10000000 := by rw [List.length_append]; (try simp only [List.length_nil]); omega
        have hq2 := (blk_cell hD.stk.blk 2).trans (rfl : _ = some st)
        clear hlen hz hl1 hl2 hkq hrel hD
        by_cases hm : u ∈ ([] : List Int) ++ pt
        · rw [if_pos hm] at hr
          have HR := Aside0.mk hr
          have hd : decide (u ∈ ([] : List Int) ++ pt) = true := decide_eq_true hm
          clear hr hm
          go_wp2_with (first
            | (go_at_call 97; refine (slen_any _ gd _ _ _ _ (s ++ [u]) _ HD.out.stk).mono ?_; rintro e w2 ⟨rfl, rfl⟩; rw [HN.out])
            | (go_at_call 98; refine (spop_any _ gd _ _ _ _ s u _ HD.out.stk hsb).mono ?_; rintro e w2 ⟨rfl, st2, hs2, hb2, hg2⟩; have HD2 := Aside0.mk (HD.out.pop hs2 hb2 hg2); obtain ⟨q0, q1, q3⟩ := HD2.out.cells; clear hs2 hb2 hg2)
            | (go_at_call 202; refine (nodeID_any u _).mono ?_; rintro e w3 ⟨rfl, rfl⟩)
            | (go_at_call 95; refine (has_any _ (([] : List Int) ++ pt) u _ HD2.out.set HW.out).mono ?_; rintro e w3 ⟨rfl, hb3⟩; have HD3 := Aside0.mk (HD2.out.below hb3); clear hb3; rw [hd]))
          go_roundg k1
          case measure => omega
          case rel => exact ⟨st2, vv, s, pt, HD3.out, HR.out, by have := HL.out; omega, by have := HL.out; omega, by have := HL.out; omega, HZ.out⟩
        · rw [if_neg hm] at hr
          have hd : decide (u ∈ ([] : List Int) ++ pt) = false := decide_eq_false hm
          have HR := Aside0.mk hr
          have hpb : pt.length ≤ 10000000 := by have := HL.out; omega
          clear hr hm
          go_wp2_with (first
            | (go_at_call 97; refine (slen_any _ gd _ _ _ _ (s ++ [u]) _ HD.out.stk).mono ?_; rintro e w2 ⟨rfl, rfl⟩; rw [HN.out])
            | (go_at_call 98; refine (spop_any _ gd _ _ _ _ s u _ HD.out.stk hsb).mono ?_; rintro e w2 ⟨rfl, st2, hs2, hb2, hg2⟩; have HD2 := Aside0.mk (HD.out.pop hs2 hb2 hg2); obtain ⟨q0, q1, q3⟩ := HD2.out.cells; clear hs2 hb2 hg2)
            | (go_at_call 202; refine (nodeID_any u _).mono ?_; rintro e w3 ⟨rfl, rfl⟩)
            | (go_at_call 95; refine (has_any _ (([] : List Int) ++ pt) u _ HD2.out.set HW.out).mono ?_; rintro e w3 ⟨rfl, hb3⟩; have HD3 := Aside0.mk (HD2.out.below hb3); obtain ⟨q0, q1, q3⟩ := HD3.out.cells; clear hb3; rw [hd])
            | (go_at_call 99; refine (add_any _ (([] : List Int) ++ pt) u _ HD3.out.set HW.out hvb).mono ?_; rintro e w4 ⟨rfl, hs4, hg4⟩; have HA := Aside0.mk (And.intro hs4 hg4); have q0 := (World.cell?_of_block (hg4.block gd (blk_lt HD3.out.stk.blk) (fun e => HD3.out.gdm.1 (Option.some.inj e)))).trans q0; clear hs4 hg4)
            | (go_at_call 63; refine (HU.out w4 vv pt u (HD3.out.gat.stay (HA.out.2.block _ (blk_lt HD3.out.gat.blk) (fun e => HD3.out.gdm.2.1 (Option.some.inj e))) (fun k hk => HA.out.2.block k (HD3.out.vvLt hk) (fun e => (HD3.out.apartV hk).2.2.1 (Option.some.inj e)))) hpb (Nat.le_trans HD3.out.L HA.out.2.size) (HDV.out w4 ((HA.out.2.block gu (HD3.out.nF gu HFU.out).2.1 (fun e => (HD3.out.nF gu HFU.out).2.2.2.2.1 (Option.some.inj e))).trans (HD3.out.nF gu HFU.out).2.2.2.2.2))).mono ?_; rintro e w6 ⟨rfl, vv5, wb, hv5, hg5, hg5', hat5⟩; have HD6 := Aside0.mk (HD3.out.visit HA.out.1 HA.out.2 hv5 hg5 hg5' hat5); clear hv5 hg5 hg5' hat5)
            | (go_at_call 185; refine (gFromU base bp zs es p u _ (HE.out.to HD6.out.kp) HUZ.out).mono ?_; rintro e w7 ⟨b, rfl, hit, hb7⟩; have HD7 := Aside0.mk (HD6.out.below hb7); have HIT := Aside0.mk hit; have HB7 := Aside0.mk hb7; clear hit hb7))
          obtain ⟨nb, hnb⟩ : ∃ nb, outN zs es u = nb := ⟨_, rfl⟩
          rw [hnb] at HIT
          have HNB := Aside0.mk hnb
          have hnl : nb.length ≤ 1000 := by rw [← hnb]; exact Nat.le_trans (outN_len zs es u) hnn
          clear hnb
          have HLO := Aside0.mk (show w0.heap.size ≤ w6.heap.size ∧ wF.heap.size < w6.heap.size ∧ (∀ k, vv5.ownBlock = some k → k < w6.heap.size) ∧ (∀ k, F k → k < w6.heap.size) from ⟨HD6.out.L, HD6.out.set.lt, fun k hk => HD6.out.vvLt hk, fun k hk => (HD6.out.nF k hk).2.1⟩)
          have HI2 := Aside0.mk (show VnI K F w0 wF w7 gd gv wF.heap.size vv5 w6.heap.size w7.heap.size b nb s (([] : List Int) ++ pt ++ [u]) (pt ++ [u]) from ⟨0, st2, Nat.zero_le _, HIT.out, by simpa using HD7.out, fun q hq => .inl (HD6.out.stLt hq), Nat.le_refl _⟩)
          have n1 := meth_ONext ⟨b, 0, none⟩
          have n2 := meth_ONode ⟨b, 0, none⟩
          clear HD HD2 HD3 HA HD7 HIT HB7 HD6
          generalize w6.heap.size = lo at HI2 HLO
          generalize w7.heap.size = B at HI2
          go_loopw [12] (fun _ wr => Aside0 (VnI K F w0 wF wr gd gv wF.heap.size vv5 lo B b nb s (([] : List Int) ++ pt ++ [u]) (pt ++ [u]))) (fun _ wr => nb.length + 2 - posI wr b)
          case atStart => exact HI2
          case round =>
            clear HI2
            obtain ⟨k, st3, hk, hO, hD, hst, hB⟩ := hrel.out
            have HO := Aside0.mk hO
            have HD8 := Aside0.mk hD
            have HST := Aside0.mk hst
            have HB := Aside0.mk hB
            have hpos := hO.pos
            have HPOS := Aside0.mk hpos
            have hkk := hk
            clear hrel hO hD hst hB hk hpos
            by_cases hlt : k < nb.length
            · have hdk : decide (k < nb.length) = true := decide_eq_true hlt
              obtain ⟨v, hv⟩ : ∃ v, nb[k] = v := ⟨_, rfl⟩
              have HV := Aside0.mk hv
              have m2 := meth_ID v
              have htk : nb.take (k + 1) = nb.take k ++ [v] := by rw [← hv]; exact List.take_succ_eq_append_getElem hlt
              have HTK := Aside0.mk htk
              have hfl : (nb.take k).length ≤ 1000 := by rw [List.length_take]; omega
              have HFL := Aside0.mk hfl
              clear hv htk hfl
              go_wp2_with (first
                | (go_at_call 217; refine (next_any lo B b k nb _ HO.out (by omega)).mono ?_; rintro e wn ⟨rfl, hO1, hM1⟩; rw [hdk]; rw [if_pos hlt] at hO1; have HO1 := Aside0.mk hO1; have HD9 := Aside0.mk (HD8.out.mid hM1 HLO.out.1 HLO.out.2.1 HST.out HLO.out.2.2.1 HLO.out.2.2.2); have HS9 := Aside0.mk hM1.size; clear hO1 hM1)
                | (go_at_call 218; refine (nodeI_q lo B b k nb _ HO1.out hlt (by omega)).mono ?_; rintro e wq ⟨rfl, nq, hwq⟩; rw [HV.out]; have HO2 := Aside0.mk (show OIt lo B wq b nb (k + 1) by subst hwq; exact HO1.out.far (fun _ _ _ => rfl)); have HS10 := Aside0.mk (show wn.heap.size ≤ wq.heap.size by subst hwq; exact Nat.le_refl _); have HD10 := Aside0.mk (HD9.out.below (show Below wn.heap.size wn wq by subst hwq; exact pw_below_drewN (Below.refl _ _) nq)); clear hwq)
                | (go_at_call 202; refine (nodeID_any v _).mono ?_; rintro e wi ⟨rfl, rfl⟩))
              obtain ⟨q0, q1, q3⟩ := HD10.out.cells
              go_quiet (fail)
              have HBQ := Aside0.mk (show Below wq.heap.size wq (wq.drewN nq) from pw_below_drewN (Below.refl _ _) nq)
              have HD11 := Aside0.mk (HD10.out.below HBQ.out)
              have HO3 := Aside0.mk (HO2.out.far (fun q hq1 hq2 => HBQ.out.block q (by have := HB.out; have := HS9.out; have := HS10.out; omega)))
              have HS11 := Aside0.mk (Nat.le_trans HB.out (Nat.le_trans HS9.out HS10.out))
              go_wp2_with (go_at_call 96; refine (spush_any w0.heap.size gd .nilFunc .nilFunc (.map (some wF.heap.size)) st3 _ v _ HD11.out.stk (by have := HFL.out; have := HL.out; rw [List.length_append]; omega) HD11.out.L).mono ?_; rintro e w10 ⟨rfl, st4, wc, hs4, hg4, hg5, hat⟩; have HD12 := Aside0.mk (HD11.out.push hs4 hg4 hg5 hat); have HG := Aside0.mk (And.intro hg4 (And.intro hg5 hat)); clear hs4 hg4 hg5 hat)
              go_roundw
              case rel =>
                have hOn : OIt lo B w10 b nb (k + 1) := HO3.out.far (fun q hq1 hq2 => two_turns HG.out.1 HG.out.2.1 (by have := HS11.out; simp at *; omega) (fun e => by have := HST.out q e; omega) (by have := HD11.out.gd0; have := HLO.out.1; omega))
                have hsz : wq.heap.size ≤ w10.heap.size := Nat.le_trans HG.out.1.size HG.out.2.1.size
                refine ⟨⟨k + 1, st4, by omega, hOn, ?_, fun q hq => ?_, Nat.le_trans HS11.out hsz⟩⟩
                · have := HD12.out
                  rw [List.append_assoc] at this
                  rw [HTK.out]
                  exact this
                · rcases HG.out.2.2 with h1 | ⟨q', h1, h2⟩
                  · rw [h1] at hq; exact HST.out q hq
                  · rw [h1] at hq
                    have := Option.some.inj hq
                    have := HS11.out
                    simp at h2
                    omega
              case measure =>
                have hOn : OIt lo B w10 b nb (k + 1) := HO3.out.far (fun q hq1 hq2 => two_turns HG.out.1 HG.out.2.1 (by have := HS11.out; simp at *; omega) (fun e => by have := HST.out q e; omega) (by have := HD11.out.gd0; have := HLO.out.1; omega))
                rw [hOn.pos, HPOS.out]; omega
            · have hke : k = nb.length := by omega
              have hdk : decide (k < nb.length) = false := decide_eq_false hlt
              go_wp2_with (go_at_call 217; refine (next_any lo B b k nb _ HO.out (by omega)).mono ?_; rintro e wn ⟨rfl, hO1, hM1⟩; rw [hdk]; have HD9 := Aside0.mk (HD8.out.mid hM1 HLO.out.1 HLO.out.2.1 HST.out HLO.out.2.2.1 HLO.out.2.2.2); clear hO1 hM1)
              go_roundg k1
              case measure => omega
              case rel =>
                have hD9 := HD9.out
                rw [hke, List.take_length, ← HNB.out, List.append_assoc] at hD9
                have hal : (outN zs es u).length ≤ 1000 := by rw [HNB.out]; exact hnl
                refine ⟨⟨st3, vv5, _, _, hD9, HR.out, ?_, ?_, ?_, fun x hx => ?_⟩⟩
                · rw [List.length_append]; have := HL.out; omega
                · rw [List.length_append, List.length_singleton]; have := HL.out; omega
                · have := HL.out; omega
                · rcases List.mem_append.1 hx with hx | hx
                  · exact HZ.out x hx
                  · exact (outN_mem hx).1
end Go.Proofs.YtolbfjjgdheikaaGreat.R
