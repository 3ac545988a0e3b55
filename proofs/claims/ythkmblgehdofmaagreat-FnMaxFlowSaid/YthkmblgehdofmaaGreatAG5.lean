import Derived.Test.YthkmblgehdofmaaGreatAG4
import Derived.Test.YthkmblgehdofmaaGreatAG2
import Derived.Test.YthkmblgehdofmaaGreatAG3
set_option linter.unusedVariables false
set_option linter.unusedSimpArgs false
/- A blocking path: computeBlockingPath. -/
namespace Go.Proofs.YthkmblgehdofmaaGreat.R
open Go.RowKit Go.Lab Go.Maps Go.MV Go.Flow Go.Proofs.FLN Go.Proofs.YthkmblgehdofmaaGreatW.PrintWords Go.Proofs.YthkmblgehdofmaaGreatW.PrintLast Go.Proofs.YthkmblgehdofmaaGreatW.PrintMore PL

set_option maxHeartbeats 8000000 in
set_option maxRecDepth 100000 in
theorem block_any (lo A n k s t : Nat) (g : GS) (E : Int → Int → Bool) (r : Int → Int → Int) (rows : List Value) (par : List (List Nat)) (W : List Nat) (w : World) (hg : SG lo w g) (hns : g.ns = idsN n) (hpt : PT lo w A rows par) (hpl : par.length = n) (hrg : RG g E r) (hW : WayOk n k s t par W)
    (hal : ∀ (i : Nat) (h : i + 1 < W.length), 0 < r (W[i + 1] : Int) (W[i] : Int)) (hn : n ≤ 900) (hlo : lo ≤ A) :
    Calls Tryz.prog 53 #[.pointer (some ⟨g.gG, 0, none⟩), .iface 71 (.int .i64 (s : Int)), .iface 71 (.int .i64 (t : Int)), .slice (some ⟨A, 0, none⟩) n n] w fun e w' => e = .returned (.float .f64 (FLN.fl (bneck r (toI W)))) ∧ PT lo w' A rows par ∧ Below lo w w' ∧ ∃ g', SG lo w' g' ∧ g'.gG = g.gG ∧ g'.ns = g.ns ∧ RG g' E (pushAll (bneck r (toI W)) (toI W) r) := by
  have HP := Aside0.mk (And.intro hg (And.intro hns (And.intro hpt (And.intro hrg (And.intro hW hal)))))
  clear hg hns hpt hrg hW hal
  have ms := meth_ID (s : Int)
  have mt := meth_ID (t : Int)
  obtain ⟨j0, hJ0, hzj0, hzj1, hzj2⟩ := info_parts info2y
  have HJ := Aside0.mk (And.intro hJ0 (And.intro hzj0 (And.intro hzj1 hzj2)))
  clear hJ0 hzj0 hzj1 hzj2
  have hk1 := HP.out.2.2.2.2.1.k1
  have hWl := HP.out.2.2.2.2.1.len
  have hkn : W.length ≤ n := by
    have h1 := nodup_len (toI_nodup HP.out.2.2.2.2.1.nd) (fun v hv => by obtain ⟨c, h1, rfl⟩ := toI_mem hv; exact idsN_mem (HP.out.2.2.2.2.1.lt c h1) : ∀ v ∈ toI W, v ∈ idsN n)
    rw [toI_len] at h1
    unfold idsN at h1
    rw [toI_len, List.length_range] at h1
    exact h1
  have HW0 := Aside0.mk (show W[0]? = some t from by rw [List.getElem?_eq_getElem (by omega), HP.out.2.2.2.2.1.hd (by omega)])
  have HBP0 := Aside0.mk (show BP lo A w.heap.size g rows par w (w.alloc (.cells #[.int .i64 (t : Int)] 2)) (.slice (some ⟨w.heap.size, 0, none⟩) 1 1) [t] from by
    have hb : Below w.heap.size w (w.alloc (.cells #[.int .i64 (t : Int)] 2)) := (Below.refl _ _).alloc (Nat.le_refl _) _
    have hlw : lo ≤ w.heap.size := Nat.le_of_lt (Nat.lt_of_le_of_lt hlo (blk_lt HP.out.2.2.1.tab))
    have hlt : ∀ k, PB2 A rows k → k < w.heap.size := fun k hk => by
      rcases hk with rfl | ⟨i, hi, e⟩
      · exact blk_lt HP.out.2.2.1.tab
      · obtain ⟨c, hc⟩ := own_block (HP.out.2.2.1.row i hi) e
        exact blk_lt hc
    exact ⟨HP.out.2.2.1.stay fun k hk => hb.block k (hlt k hk), HP.out.1.below hb, World.ownsRow_lit (base := w.heap.size) (size := 1) w #[.int .i64 (t : Int)] 1 (Nat.le_refl _) (by unfold maxLen; omega) rfl, hb.mono hlw, hlt, hlw, hb.size⟩)
  go_enter Tryz.func53, Tryz.ntmps53
  go_wp2_with (first
    | (go_at_call 162; refine (nodeID_any _ _).mono ?_; rintro e w5 ⟨rfl, rfl⟩))
  go_loopg [9, 10, 11] (k + 2) (fun kq v9 v10 v11 wr => Aside0 (BL lo A w.heap.size k s t g E r rows par W w kq v9 v10 v11 wr))
  case atStart =>
    refine ⟨.inl ⟨0, t, by omega, by omega, HW0.out, rfl, rfl, ?_⟩⟩
    have : W.take 1 = [t] := by rw [take_snoc1 W 0 (by omega)]; have := HW0.out; rw [List.getElem?_eq_getElem (by omega)] at this; rw [Option.some.inj this]; rfl
    rw [this]
    exact HBP0.out
  case round =>
    clear HBP0
    rcases hrel.out with ⟨i, a, hi, hkq, ha, rfl, rfl, hbp⟩ | ⟨g', rfl, rfl, hbp, hG, hN, hR⟩
    · have HB := Aside0.mk hbp
      clear hrel hbp
      cases gk with
      | zero => omega
      | succ gk =>
        obtain ⟨W', hW'⟩ : ∃ W', W = W' := ⟨_, rfl⟩
        have hiW : i + 1 < W.length := by omega
        have haW : W[i] = a := by rw [List.getElem?_eq_getElem (by omega)] at ha; exact Option.some.inj ha
        obtain ⟨b, hb⟩ : ∃ b, W[i + 1] = b := ⟨_, rfl⟩
        obtain ⟨rest, hpa⟩ := HP.out.2.2.2.2.1.st i hiW
        rw [haW, hb] at hpa
        have han : a < n := haW ▸ HP.out.2.2.2.2.1.lt _ (List.getElem_mem (by omega))
        have hbn : b < n := hb ▸ HP.out.2.2.2.2.1.lt _ (List.getElem_mem hiW)
        have hrl : rows.length = n := by rw [HB.out.pt.len]; exact hpl
        have har : a < rows.length := by omega
        have hpd : par.getD a [] = b :: rest := by rw [List.getD_eq_getElem?_getD, hpa]; rfl
        have HROWA := HB.out.pt.row a har
        rw [hpd] at HROWA
        obtain ⟨gB, cB, hBc, hmc, hcl, _⟩ := own_cells HROWA (by simp)
        have k3 : wr.cell? ⟨A, a, none⟩ = some (.slice (some ⟨gB, 0, none⟩) (b :: rest).length cB) := by rw [blk_cell HB.out.pt.tab]; simp [har, hBc]
        have k4 : wr.cell? ⟨gB, 0, none⟩ = some (.int .i64 (b : Int)) := hcl 0 _ rfl
        obtain ⟨m, hm⟩ : ∃ m, (b :: rest).length = m := ⟨_, rfl⟩
        have hm0 : 0 < m := by rw [← hm]; simp
        have hm1 : (m : Int) > 0 := by omega
        have hm2 : (0 : Int) < (m : Int) := by omega
        rw [hm] at k3 hmc
        have hpl1 : (W.take (i + 1)).length = i + 1 := by rw [List.length_take]; omega
        obtain ⟨P, pc, hv⟩ := own_slice HB.out.path
        rw [hpl1] at hv
        subst hv
        have HROW := Aside0.mk (show wr.ownsRow w.heap.size 2 1 (.slice P (i + 1) pc) (i + 1) (idV (W.take (i + 1))) from by have := HB.out.path; rw [hpl1] at this; exact this)
        have HWT := Aside0.mk (show W.take (i + 2) = W.take (i + 1) ++ [b] from by rw [take_snoc1 W (i + 1) hiW, hb])
        have HBB := Aside0.mk (And.intro haW (And.intro hb hpl1))
        clear hcl HROWA hBc hmc hpd hpa haW hb hpl1 ha hm
        by_cases hik : i + 1 = k
        · obtain rfl : s = b := by
            have h1 := HP.out.2.2.2.2.1.tl (by omega)
            rw [← HBB.out.2.1, ← h1]
            congr 1
            exact hik.symm
          obtain rfl : i + 1 = k := hik
          have HINF := Aside0.mk (fun w => inf0_any w)
          go_wp2_with (first
            | (go_at_call 162; refine (nodeID_any _ _).mono ?_; rintro e w5 ⟨rfl, rfl⟩)
            | (at_builtin; refine wpList_append_own_at _ rfl _ _ 63 rfl w.heap.size 2 j0 (.int .i64 0) 1 8 Tryz.underlying63 HJ.out.1 HJ.out.2.1 HJ.out.2.2.1 HJ.out.2.2.2 rfl (by decide) _ (i + 1) (idV (W.take (i + 1))) rfl (World.ownsRow.alloc HROW.out _) ⟨wr.heap.size, 0, none⟩ 1 1 [.int .i64 (s : Int)] rfl rfl (by have := cell_one_new wr (.int .i64 (s : Int)) 2; simpa using this) (by intro v hv; simp at hv; subst hv; rfl) (by unfold maxLen; omega) (by omega) (by have := HB.out.Lw; simp at this ⊢; omega) ?_; intro v' w9 hown hgr _ hat; have hg0 := (World.grownBy_alloc wr (.cells #[.int .i64 (s : Int)] 2) (Value.slice P (i + 1) pc).ownBlock).trans hgr; have HB9 := Aside0.mk (HB.out.row (pv' := v') (ys := W.take (i + 2)) (fun q hq => ⟨own_base HROW.out hq, own_block HROW.out hq⟩) hg0 (by rw [HWT.out, idV_append, List.length_append, HBB.out.2.2]; exact hown)); obtain ⟨A', c', hv'⟩ := own_slice hown; subst hv'; clear hown hgr hat hg0)
            | (go_at_call 72; refine (HINF.out _).mono ?_; rintro e w5 ⟨rfl, rfl⟩))
          have HWW := Aside0.mk (show W.take (i + 2) = W from by rw [← hWl, List.take_length])
          rw [HWW.out] at HB9
          have hWl2 : (idV W).length = i + 1 + 1 := by rw [idV_len]; exact hWl
          obtain ⟨gP, cP, hPP, _⟩ := own_cells HB9.out.path (by omega)
          simp only [Value.slice.injEq] at hPP
          obtain ⟨rfl, -, rfl⟩ := hPP
          go_loopw [13, 14] (fun v13 v14 wq => ∃ j : Nat, v14 = .int .i64 (j : Int) ∧ j ≤ i + 1 ∧ v13 = .float .f64 (bnF r W j) ∧ Aside0 (BP lo A w.heap.size g rows par w wq (.slice (some ⟨gP, 0, none⟩) (i + 1 + 1) c') W)) (fun _ v14 _ => i + 1 - (intOf v14).toNat)
          case atStart => exact ⟨0, rfl, by omega, by rw [bnF_zero], HB9⟩
          case round =>
            obtain ⟨j, rfl, hj, rfl, hrel⟩ := hrel
            by_cases hjk : j < i + 1
            · obtain ⟨c, hc⟩ : ∃ c, W[j] = c := ⟨_, rfl⟩
              obtain ⟨p, hp⟩ : ∃ p, W[j + 1] = p := ⟨_, rfl⟩
              obtain ⟨_, _, hPP, _, hcl, _⟩ := own_cells hrel.out.path (by omega)
              simp only [Value.slice.injEq, Option.some.injEq, Addr.mk.injEq] at hPP
              obtain ⟨⟨rfl, -⟩, -, rfl⟩ := hPP
              have k5 : wr.cell? ⟨gP, j, none⟩ = some (.int .i64 (c : Int)) := hcl j _ (by unfold idV; rw [List.getElem?_map, List.getElem?_eq_getElem (by omega), hc]; rfl)
              have k6 : wr.cell? ⟨gP, j + 1, none⟩ = some (.int .i64 (p : Int)) := hcl (j + 1) _ (by unfold idV; rw [List.getElem?_map, List.getElem?_eq_getElem (by omega), hp]; rfl)
              clear hcl
              have hj1 : (j : Int) + 1 < (i : Int) + 1 + 1 := by omega
              have hpn : p < n := hp ▸ HP.out.2.2.2.2.1.lt _ (List.getElem_mem (by omega))
              have hcn : c < n := hc ▸ HP.out.2.2.2.2.1.lt _ (List.getElem_mem (by omega))
              have wp : (Lit.int .i64 (p : Int)).wf = true := by simp [Lit.wf, IntKind.min, IntKind.max, IntKind.bits, IntKind.signed]; omega
              have wc : (Lit.int .i64 (c : Int)).wf = true := by simp [Lit.wf, IntKind.min, IntKind.max, IntKind.bits, IntKind.signed]; omega
              have hal := HP.out.2.2.2.2.2 j (by omega)
              rw [hc, hp] at hal
              have hE := HP.out.2.2.2.1.on hal
              have hpc : (p : Int) ≠ (c : Int) := fun e => by rw [e, HP.out.2.2.2.1.irr] at hE; cases hE
              have HY := Aside0.mk (show g.ed (p : Int) (c : Int) = some (FLN.fl (r p c)) from by rw [HP.out.2.2.2.1.ed, if_pos hE])
              have hst := bn_step HP.out.2.2.2.1 W j p c (by omega) hc hp
              obtain ⟨x, hx⟩ : ∃ x, FLN.fl (r p c) = x := ⟨_, rfl⟩
              obtain ⟨y, hy⟩ : ∃ y, bnF r W j = y := ⟨_, rfl⟩
              obtain ⟨z, hz⟩ : ∃ z, bnF r W (j + 1) = z := ⟨_, rfl⟩
              rw [hx] at HY
              rw [hx, hy, hz] at hst
              rw [hy]
              have HZ := Aside0.mk hz
              clear hx hy hz hal hE hc hp
              rcases hst with ⟨ho, rfl⟩ | ⟨o, ho, hol, rfl⟩
              · go_wp2_with (go_at_call 66; refine (hrel.out.weight rfl hpc wp wc HY.out).mono ?_; rintro e w5 ⟨rfl, hb5⟩; have HB5 := Aside0.mk hb5; clear hb5)
                go_roundw
                case rel => exact ⟨j + 1, by rw [Int.natCast_succ], by omega, by rw [HZ.out], HB5⟩
                case measure => show i + 1 - ((j : Int) + 1).toNat < i + 1 - (j : Int).toNat; omega
              · cases o with
                | lt => exact absurd rfl hol
                | eq =>
                  go_wp2_with (go_at_call 66; refine (hrel.out.weight rfl hpc wp wc HY.out).mono ?_; rintro e w5 ⟨rfl, hb5⟩; have HB5 := Aside0.mk hb5; clear hb5)
                  go_roundw
                  case rel => exact ⟨j + 1, by rw [Int.natCast_succ], by omega, by rw [HZ.out], HB5⟩
                  case measure => show i + 1 - ((j : Int) + 1).toNat < i + 1 - (j : Int).toNat; omega
                | gt =>
                  go_wp2_with (go_at_call 66; refine (hrel.out.weight rfl hpc wp wc HY.out).mono ?_; rintro e w5 ⟨rfl, hb5⟩; have HB5 := Aside0.mk hb5; clear hb5)
                  go_roundw
                  case rel => exact ⟨j + 1, by rw [Int.natCast_succ], by omega, by rw [HZ.out], HB5⟩
                  case measure => show i + 1 - ((j : Int) + 1).toNat < i + 1 - (j : Int).toNat; omega
            · have hje : j = i + 1 := by omega
              have hbf : bnF r W j = FLN.fl (bneck r (toI W)) := by
                rw [hje, bnF_pos r W (by omega), HWW.out]
              rw [hbf]
              clear hbf
              obtain ⟨q, hq⟩ : ∃ q, bneck r (toI W) = q := ⟨_, rfl⟩
              rw [hq]
              have HQ := Aside0.mk hq
              have hjn : ¬ (j : Int) + 1 < (i : Int) + 1 + 1 := by omega
              clear hq
              have hq0 : 0 ≤ q ∧ q ≤ 1000000000000000 := by rw [← HQ.out]; exact bneck_bd HP.out.2.2.2.1.pos HP.out.2.2.2.1.le (by decide) _
              have hadd0 : ∀ w, (binOp .add 67 (.float .f64 0) (.float .f64 (FLN.fl q))).run Tryz.prog w = .ok (.float .f64 (FLN.fl q)) w := fun w => by
                have := run_add_fl 0 q (by decide) (by omega) (by omega) w
                rw [fl_zero, Int.zero_add] at this
                exact this
              have HB0 := hrel
              clear hrel
              go_wp2_with fail
              go_loopw [19] (fun v19 wq => ∃ j : Nat, v19 = .int .i64 (j : Int) ∧ j ≤ i + 1 ∧ Aside0 (P2 lo A w.heap.size g E r q rows par W w (.slice (some ⟨gP, 0, none⟩) (i + 1 + 1) c') j wq)) (fun v19 _ => i + 1 - (intOf v19).toNat)
              case atStart =>
                refine ⟨0, rfl, by omega, ⟨g, HB0.out, rfl, rfl, ?_⟩⟩
                have h1 : toI (W.take (0 + 1)) = [((W[0]'(by omega) : Nat) : Int)] := by rw [take_snoc1 W 0 (by omega)]; rfl
                rw [h1]
                exact HP.out.2.2.2.1
              case round =>
                clear HB0 hj hje hjn
                obtain ⟨j, rfl, hj, hrel⟩ := hrel
                by_cases hjk : j < i + 1
                · obtain ⟨g', h0, hG, hN, hR⟩ := hrel.out
                  obtain ⟨c, hc⟩ : ∃ c, W[j] = c := ⟨_, rfl⟩
                  obtain ⟨p, hp⟩ : ∃ p, W[j + 1] = p := ⟨_, rfl⟩
                  obtain ⟨_, _, hPP, _, hcl, _⟩ := own_cells h0.path (by omega)
                  simp only [Value.slice.injEq, Option.some.injEq, Addr.mk.injEq] at hPP
                  obtain ⟨⟨rfl, -⟩, -, rfl⟩ := hPP
                  have k5 : wr.cell? ⟨gP, j, none⟩ = some (.int .i64 (c : Int)) := hcl j _ (by unfold idV; rw [List.getElem?_map, List.getElem?_eq_getElem (by omega), hc]; rfl)
                  have k6 : wr.cell? ⟨gP, j + 1, none⟩ = some (.int .i64 (p : Int)) := hcl (j + 1) _ (by unfold idV; rw [List.getElem?_map, List.getElem?_eq_getElem (by omega), hp]; rfl)
                  clear hcl
                  have hj1 : (j : Int) + 1 < (i : Int) + 1 + 1 := by omega
                  have hpn : p < n := hp ▸ HP.out.2.2.2.2.1.lt _ (List.getElem_mem (by omega))
                  have hcn : c < n := hc ▸ HP.out.2.2.2.2.1.lt _ (List.getElem_mem (by omega))
                  have wp : (Lit.int .i64 (p : Int)).wf = true := by simp [Lit.wf, IntKind.min, IntKind.max, IntKind.bits, IntKind.signed]; omega
                  have wc : (Lit.int .i64 (c : Int)).wf = true := by simp [Lit.wf, IntKind.min, IntKind.max, IntKind.bits, IntKind.signed]; omega
                  have hal := HP.out.2.2.2.2.2 j (by omega)
                  rw [hc, hp] at hal
                  have hE := HP.out.2.2.2.1.on hal
                  have hpc : (p : Int) ≠ (c : Int) := fun e => by rw [e, HP.out.2.2.2.1.irr] at hE; cases hE
                  have hcp : (c : Int) ≠ (p : Int) := Ne.symm hpc
                  have hst := push_step r W HP.out.2.2.2.2.1.nd j p c (by omega) hc hp q HQ.out
                  obtain ⟨r', hr'⟩ : ∃ r', pushAll q (toI (W.take (j + 1))) r = r' := ⟨_, rfl⟩
                  rw [hr'] at hst hR
                  have HST := Aside0.mk (And.intro hR (And.intro hE hst))
                  have b1 := hR.le p c
                  have b2 := hR.le c p
                  have b3 := hR.pos p c
                  have b4 := hR.pos c p
                  have b5 := hst.1
                  have HX := Aside0.mk (show g'.ed (p : Int) (c : Int) = some (FLN.fl (r' p c)) from by rw [hR.ed, if_pos hE])
                  have HY := Aside0.mk (show g'.ed (c : Int) (p : Int) = some (FLN.fl (r' c p)) from by rw [hR.ed, hR.sym, if_pos hE])
                  have hsub := run_sub_fl (r' p c) q (by omega) (by omega) (by omega) (by omega)
                  have hadd := run_add_fl (r' c p) q (by omega) (by omega) (by omega)
                  have H0 := Aside0.mk (And.intro h0 hN)
                  have hpm : (p : Int) ∈ g'.ns := by rw [hN, HP.out.2.1]; exact idsN_mem hpn
                  have hcm : (c : Int) ∈ g'.ns := by rw [hN, HP.out.2.1]; exact idsN_mem hcn
                  have HM := Aside0.mk (And.intro hpm hcm)
                  obtain ⟨X, hX⟩ : ∃ X, FLN.fl (r' p c) = X := ⟨_, rfl⟩
                  obtain ⟨Y, hY⟩ : ∃ X, FLN.fl (r' c p) = X := ⟨_, rfl⟩
                  obtain ⟨X2, hX2⟩ : ∃ X, FLN.fl (r' p c - q) = X := ⟨_, rfl⟩
                  obtain ⟨Y2, hY2⟩ : ∃ X, FLN.fl (r' c p + q) = X := ⟨_, rfl⟩
                  rw [hX] at hsub HX
                  rw [hY] at hadd HY
                  rw [hX2] at hsub
                  rw [hY2] at hadd
                  have HX2 := Aside0.mk (And.intro hX2 hY2)
                  clear hrel h0 hN hR hst hal hE hc hp hr' b1 b2 b3 b4 b5 hX hY hX2 hY2 hpm hcm
                  go_wp2_with (first
                    | (go_at_call 66; first | (refine (H2.out.1.weight H2.out.2.1 hcp wc wp HY1.out).mono ?_; rintro e w5 ⟨rfl, hb5⟩; have H3 := Aside0.mk hb5; clear hb5) | (refine (H0.out.1.weight hG hpc wp wc HX.out).mono ?_; rintro e w5 ⟨rfl, hb5⟩; have H1 := Aside0.mk hb5; clear hb5))
                    | (go_at_call 73; first | (refine (nodeS_at lo g1 H2.out.2.1 _ _ H3.out.sg (by first | exact HM1.out.1 | exact HM1.out.2) (by first | exact wp | exact wc)).mono ?_; rintro e w6 ⟨rfl, rfl⟩) | (refine (nodeS_at lo g' hG _ _ H1.out.sg (by first | exact HM.out.1 | exact HM.out.2) (by first | exact wp | exact wc)).mono ?_; rintro e w6 ⟨rfl, rfl⟩))
                    | (go_at_call 64; refine (newE_any _ _ _ _ _).mono ?_; rintro e w6 ⟨rfl, rfl⟩)
                    | (go_at_call 65; first | (refine (H3.out.setE H2.out.2.1 HM1.out.2 HM1.out.1 hcp wc wp Y2).mono ?_; rintro e w7 ⟨rfl, g2, h1, h2, h3, h4⟩; have H4 := Aside0.mk (And.intro h1 (And.intro h2 (And.intro h3 h4))); clear h1 h2 h3 h4) | (refine (H1.out.setE hG HM.out.1 HM.out.2 hpc wp wc X2).mono ?_; rintro e w7 ⟨rfl, g1, h1, h2, h3, h4⟩; have H2 := Aside0.mk (And.intro h1 (And.intro h2 (And.intro h3 h4))); have HY1 := Aside0.mk (show g1.ed (c : Int) (p : Int) = some Y from (by rw [h4, if_neg (fun e => hcp e.1)]; exact HY.out)); have HM1 := Aside0.mk (show (p : Int) ∈ g1.ns ∧ (c : Int) ∈ g1.ns from (by rw [h3]; exact HM.out)); clear h1 h2 h3 h4)))
                  go_roundw
                  case rel =>
                    refine ⟨j + 1, by rw [Int.natCast_succ], by omega, ⟨g2, H4.out.1, H4.out.2.1, H4.out.2.2.1.trans (H2.out.2.2.1.trans H0.out.2), ?_⟩⟩
                    rw [HST.out.2.2.2]
                    exact HST.out.1.push HST.out.2.1 hq0.1 HST.out.2.2.1 (fun u v => by rw [H2.out.2.2.2 u v, HX2.out.1]) (fun u v => by rw [H4.out.2.2.2 u v, HX2.out.2])
                  case measure => show i + 1 - ((j : Int) + 1).toNat < i + 1 - (j : Int).toNat; omega
                · obtain ⟨g', h0, hG, hN, hR⟩ := hrel.out
                  have hje : j = i + 1 := by omega
                  have hjn : ¬ (j : Int) + 1 < (i : Int) + 1 + 1 := by omega
                  have hR2 : RG g' E (pushAll q (toI W) r) := by rw [hje, HWW.out] at hR; exact hR
                  have H5 := Aside0.mk (show BP lo A w.heap.size g' rows par w (wr.alloc (.cells #[.int .i64 (t : Int)] 2)) (.slice (some ⟨wr.heap.size, 0, none⟩) 1 1) [t] from
                    h0.row (fun k hk => by cases hk) (World.grownBy_alloc wr (.cells #[.int .i64 (t : Int)] 2) none) (World.ownsRow_lit (base := w.heap.size) (size := 1) wr #[.int .i64 (t : Int)] 1 h0.Lw (by unfold maxLen; omega) rfl))
                  have H6 := Aside0.mk (And.intro hG (And.intro hN hR2))
                  clear hrel h0 hG hN hR hR2
                  go_wp2_with (go_at_call 162; refine (nodeID_any _ _).mono ?_; rintro e w5 ⟨rfl, rfl⟩)
                  go_roundg gk
                  case measure => omega
                  case rel => exact ⟨.inr ⟨g', by rw [HQ.out], rfl, H5.out, H6.out.1, H6.out.2.1, by rw [HQ.out]; exact H6.out.2.2⟩⟩
        · have hbs : ¬ b = s := fun e => by
            have h1 := HP.out.2.2.2.2.1.tl (by omega)
            exact (List.pairwise_iff_getElem.1 HP.out.2.2.2.2.1.nd) (i + 1) k hiW (by omega) (by omega) (by rw [HBB.out.2.1, e, h1])
          have hbs2 : ¬ (b : Int) = (s : Int) := fun e => hbs (Int.ofNat.inj e)
          go_wp2_with (first
            | (go_at_call 162; refine (nodeID_any _ _).mono ?_; rintro e w5 ⟨rfl, rfl⟩)
            | (at_builtin; refine wpList_append_own_at _ rfl _ _ 63 rfl w.heap.size 2 j0 (.int .i64 0) 1 8 Tryz.underlying63 HJ.out.1 HJ.out.2.1 HJ.out.2.2.1 HJ.out.2.2.2 rfl (by decide) _ (i + 1) (idV (W.take (i + 1))) rfl (World.ownsRow.alloc HROW.out _) ⟨wr.heap.size, 0, none⟩ 1 1 [.int .i64 (b : Int)] rfl rfl (by have := cell_one_new wr (.int .i64 (b : Int)) 2; simpa using this) (by intro v hv; simp at hv; subst hv; rfl) (by unfold maxLen; omega) (by omega) (by have := HB.out.Lw; simp at this ⊢; omega) ?_; intro v' w9 hown hgr _ hat; have hg0 := (World.grownBy_alloc wr (.cells #[.int .i64 (b : Int)] 2) (Value.slice P (i + 1) pc).ownBlock).trans hgr; have HB9 := Aside0.mk (HB.out.row (pv' := v') (ys := W.take (i + 2)) (fun q hq => ⟨own_base HROW.out hq, own_block HROW.out hq⟩) hg0 (by rw [HWT.out, idV_append, List.length_append, HBB.out.2.2]; exact hown)); obtain ⟨A', c', hv'⟩ := own_slice hown; subst hv'; clear hown hgr hat hg0))
          go_roundg gk
          case measure => omega
          case rel => exact ⟨.inl ⟨i + 1, b, by omega, by omega, by rw [List.getElem?_eq_getElem hiW, HBB.out.2.1], rfl, rfl, HB9.out⟩⟩
    · have HB := Aside0.mk (And.intro hbp (And.intro hG (And.intro hN hR)))
      clear hrel hbp hG hN hR
      obtain ⟨P, pc, hv⟩ := own_slice HB.out.1.path
      subst hv
      have hsn : s < n := by
        have h1 := HP.out.2.2.2.2.1.tl (by omega)
        exact h1 ▸ HP.out.2.2.2.2.1.lt _ (List.getElem_mem (by omega))
      have hrl : rows.length = n := by rw [HB.out.1.pt.len]; exact hpl
      have hsr : s < rows.length := by omega
      obtain ⟨Bc, cc, hBc, hmc⟩ := own_slice1 (HB.out.1.pt.row s hsr)
      have hps : (par.getD s []).length = 0 := by rw [List.getD_eq_getElem?_getD, HP.out.2.2.2.2.1.ps]; rfl
      rw [hps] at hBc
      have k3 : wr.cell? ⟨A, s, none⟩ = some (.slice Bc 0 cc) := by rw [blk_cell HB.out.1.pt.tab]; simp [hsr, hBc]
      clear hBc hmc hps
      go_wp2_with fail
      go_ret
      exact ⟨rfl, HB.out.1.pt, HB.out.1.bel, g', HB.out.1.sg, HB.out.2.1, HB.out.2.2.1, HB.out.2.2.2⟩
end Go.Proofs.YthkmblgehdofmaaGreat.R

/- The search by levels: what stands between two steps. -/
namespace Go.Proofs.YthkmblgehdofmaaGreat.R
open Go.RowKit Go.Lab Go.Maps Go.MV Go.Proofs.YthkmblgehdofmaaGreatW.PrintWords Go.Proofs.YthkmblgehdofmaaGreatW.PrintLast Go.Proofs.YthkmblgehdofmaaGreatW.PrintMore PL

def levV (l : List Int) : List Value := l.map (fun x => Value.int .i32 x)
theorem levV_set (l : List Int) (i : Nat) (x : Int) : (levV l).set i (.int .i32 x) = levV (l.set i x) := by unfold levV; rw [List.map_set]
/-- a step that turns no blocks but cells of the kinds Ts, and new ones -/
structure TF (Ts : List Nat) (lo : Nat) (w w' : World) : Prop where
  os : w'.os = w.os
  tape : w'.tape = w.tape
  output : w'.output = w.output
  size : w.heap.size ≤ w'.heap.size
  low : ∀ k, k < lo → w'.heap[k]? = w.heap[k]?
  other : ∀ k, k < w.heap.size → (∀ (c : Array Value) (t : TypeId), w.heap[k]? = some (.cells c t (0, 0)) → t ∉ Ts) → w'.heap[k]? = w.heap[k]?
section
variable {Ts : List Nat} {lo : Nat} {w w1 w2 : World}
theorem TF.refl (Ts : List Nat) (lo : Nat) (w : World) : TF Ts lo w w := ⟨rfl, rfl, rfl, Nat.le_refl _, fun _ _ => rfl, fun _ _ _ => rfl⟩
theorem TF.below (h : TF Ts lo w w1) : Below lo w w1 := ⟨h.os, h.tape, h.output, h.size, h.low⟩
theorem TF.of_below (h : Below w.heap.size w w1) (hlo : lo ≤ w.heap.size) : TF Ts lo w w1 := ⟨h.os, h.tape, h.output, h.size, fun k hk => h.block k (by omega), fun k hk _ => h.block k hk⟩
theorem TF.ck (h : TF Ts lo w w1) (h1 : 147 ∉ Ts) (h2 : 176 ∉ Ts) : CK lo w w1 :=
  ⟨h.os, h.tape, h.output, h.size, h.low, fun k hk ht => h.other k hk fun c t e => by
    rcases ht c t e with rfl | rfl
    · exact h1
    · exact h2⟩
theorem TF.grown {row : Option Nat} (hg : w.grownBy w1 row) (hr : ∀ k, row = some k → lo ≤ k ∧ ∃ (c : Array Value) (t : TypeId), w.heap[k]? = some (.cells c t (0, 0)) ∧ t ∈ Ts) (hlo : lo ≤ w.heap.size) : TF Ts lo w w1 :=
  ⟨hg.os, hg.tape, hg.output, hg.size, fun k hk => hg.block k (by omega) (fun e => by have := (hr k e.symm).1; omega), fun k hk ht => hg.block k hk (fun e => by
    obtain ⟨_, c, t, h1, h2⟩ := hr k e.symm
    exact ht c t h1 h2)⟩
theorem TF.set {k : Nat} {c : Array Value} {t : TypeId} (h : w.heap[k]? = some (.cells c t (0, 0))) (hl : lo ≤ k) (h1 : t ∈ Ts) (i : Nat) (v : Value) : TF Ts lo w (w.setCell ⟨k, i, none⟩ v) :=
  TF.grown (grown_set w k i v) (fun k' e => by cases e; exact ⟨hl, c, t, h, h1⟩) (Nat.le_of_lt (Nat.lt_of_le_of_lt hl (blk_lt h)))
theorem TF.blk (h : TF Ts lo w w1) {k : Nat} {c : Array Value} {t : TypeId} (hk : w.heap[k]? = some (.cells c t (0, 0))) (ht : t ∉ Ts) : w1.heap[k]? = some (.cells c t (0, 0)) :=
  (h.other k (blk_lt hk) fun c' t' e => by rw [blk_type e hk]; exact ht).trans hk
theorem TF.own (h : TF Ts lo w w1) {base n size : Nat} {e : TypeId} {v : Value} {xs : List Value} (ho : w.ownsRow base e size v n xs) (ht : e ∉ Ts) : w1.ownsRow base e size v n xs :=
  own_of_heap ho fun k hk => by
    obtain ⟨c, hc⟩ := own_block ho hk
    exact (h.blk hc ht).trans hc.symm
theorem PT.tf {A : Nat} {rows : List Value} {par : List (List Nat)} (h : PT lo w A rows par) {l : Nat} (hk : TF Ts l w w1) (h1 : 63 ∉ Ts) (h2 : 2 ∉ Ts) : PT lo w1 A rows par :=
  ⟨hk.blk h.tab h1, h.len, fun i hi => hk.own (h.row i hi) h2, h.sep⟩
theorem SG.tf {g : GS} (h : SG lo w g) (hk : TF Ts lo w w1) (h1 : 147 ∉ Ts) (h2 : 176 ∉ Ts) : SG lo w1 g := h.ck (hk.ck h1 h2)
theorem Que.tf {gd : Nat} {st : Value} {jk : List Value} {xs : List Int} (h : Que lo w gd st jk xs) {l : Nat} (hk : TF Ts l w w1) (h1 : 121 ∉ Ts) (h2 : 89 ∉ Ts) : Que lo w1 gd st jk xs :=
  ⟨hk.blk h.blk h1, hk.own h.own h2, h.ne⟩
theorem TF.que {gd : Nat} {st : Value} {jk : List Value} {xs : List Int} {lo' : Nat} (h : Que lo' w gd st jk xs) (hk : KeepF (QM gd st) w w1) (hl : lo ≤ lo') (hl2 : lo ≤ gd) : TF [121, 89] lo w w1 :=
  ⟨hk.os, hk.tape, hk.output, hk.size, fun k hk2 => hk.block k (Nat.lt_of_lt_of_le hk2 (Nat.le_trans hl2 (Nat.le_of_lt (blk_lt h.blk)))) (fun hm => by
    rcases hm with rfl | e
    · omega
    · rcases h.own.2 with ⟨e2, _⟩ | ⟨g', cap, cur, e2, h1, _⟩
      · rw [e2] at e; cases e
      · rw [e2] at e
        have e3 : g' = k := Option.some.inj e
        omega), fun k hk2 ht => hk.block k hk2 (fun hm => by
    rcases hm with rfl | e
    · exact ht _ _ h.blk (by decide)
    · obtain ⟨c, hc⟩ := own_block h.own e
      exact ht _ _ hc (by decide))⟩
end
theorem TF.trans {Ts : List Nat} {lo : Nat} {a b c : World} (h : TF Ts lo a b) (k : TF Ts lo b c) : TF Ts lo a c :=
  ⟨k.os.trans h.os, k.tape.trans h.tape, k.output.trans h.output, Nat.le_trans h.size k.size, fun i hi => (k.low i hi).trans (h.low i hi), fun i hi ht => by
    have e := h.other i hi ht
    exact (k.other i (Nat.lt_of_lt_of_le hi h.size) (fun cs t hc => ht cs t (e ▸ hc))).trans e⟩
/-- between two rounds of the search -/
structure SW (lo A GL gq n : Nat) (g : GS) (w wr : World) (rows : List Value) (par : List (List Nat)) (lev : List Int) (st : Value) (jk : List Value) (q : List Nat) (e : Nat) : Prop where
  pt : PT lo wr A rows par
  sg : SG lo wr g
  bel : Below lo w wr
  lvl : wr.ownsRow lo 21 1 (.slice (some ⟨GL, 0, none⟩) n n) n (levV lev)
  que : Que lo wr gq st jk (toI q)
  room : jk.length + q.length + e ≤ seenN lev
  lq : lo ≤ gq
  la : lo ≤ A
  lw : lo ≤ w.heap.size
end Go.Proofs.YthkmblgehdofmaaGreat.R

/- The ends of a node in a simple graph, gone through while other blocks are turned. -/
namespace Go.Proofs.YthkmblgehdofmaaGreat.R
open Go.RowKit Go.Lab Go.Maps Go.MV Go.Proofs.YthkmblgehdofmaaGreatW.PrintWords Go.Proofs.YthkmblgehdofmaaGreatW.PrintLast Go.Proofs.YthkmblgehdofmaaGreatW.PrintMore PL

/-- an iterator whose blocks lie between lo and B -/
structure MIx (lo B : Nat) (w : World) (b : Nat) (xs : List Int) (k : Nat) : Prop where
  ex : ∃ (A : Option Addr) (c : Nat) (cur : Value), w.heap[b]? = some (.cells #[.slice A xs.length c, .int .i64 (k : Int), cur] 179 (0, 0)) ∧ w.ownsRow lo 89 1 (.slice A xs.length c) xs.length (nodeVs xs) ∧ (∀ j (h : j < xs.length), k = j + 1 → cur = .iface 71 (.int .i64 xs[j])) ∧ (∀ q, (Value.slice A xs.length c).ownBlock = some q → q < B)
  hb : lo ≤ b ∧ b < B
section
variable {lo B b k : Nat} {xs : List Int} {w w1 : World}
theorem MIx.it (h : MIx lo B w b xs k) : MIt 179 lo w b xs k := by
  obtain ⟨A, c, cur, h1, h2, h3, _⟩ := h.ex
  exact ⟨⟨A, c, cur, h1, h2, h3⟩, h.hb.1⟩
theorem MIt.fence (h : MIt 179 lo w b xs k) : MIx lo w.heap.size w b xs k := by
  obtain ⟨A, c, cur, h1, h2, h3⟩ := h.ex
  exact ⟨⟨A, c, cur, h1, h2, h3, fun q hq => by obtain ⟨cc, hcc⟩ := own_block h2 hq; exact blk_lt hcc⟩, h.lo_, blk_lt h1⟩
theorem MIx.far (h : MIx lo B w b xs k) (hk : ∀ q, lo ≤ q → q < B → w1.heap[q]? = w.heap[q]?) : MIx lo B w1 b xs k := by
  obtain ⟨A, c, cur, h1, h2, h3, h4⟩ := h.ex
  refine ⟨⟨A, c, cur, (hk b h.hb.1 h.hb.2).trans h1, own_of_heap h2 fun q hq => hk q ?_ (h4 q hq), h3, h4⟩, h.hb⟩
  rcases h2.2 with ⟨e, _⟩ | ⟨g, cap, cu, e, hg, _⟩
  · rw [e] at hq; cases hq
  · rw [e] at hq
    have : g = q := Option.some.inj hq
    omega
def posM (w : World) (b : Nat) : Nat := match w.cell? ⟨b, 1, none⟩ with | some (.int _ n) => n.toNat | _ => 0
theorem MIx.pos (h : MIx lo B w b xs k) : posM w b = k := by
  obtain ⟨A, c, cur, h1, _⟩ := h.ex
  unfold posM
  rw [show w.cell? ⟨b, 1, none⟩ = some (.int .i64 (k : Int)) from (blk_cell h1 1).trans rfl]
  exact Int.toNat_natCast k
end
set_option maxHeartbeats 2000000 in
set_option maxRecDepth 100000 in
theorem nextX_any (lo B it k : Nat) (xs : List Int) (w : World) (h : MIx lo B w it xs k) (hk : k < xs.length) (hl : xs.length ≤ 100000) :
    Calls Tryz.prog 192 #[.pointer (some ⟨it, 0, none⟩)] w fun e w' => e = .returned (.bool true) ∧ MIx lo B w' it xs (k + 1) ∧ KeepF (fun q => q = it) w w' := by
  obtain ⟨A, c, cur, hb, ho, hc, hB⟩ := h.ex
  have c0 : w.cell? ⟨it, 0, none⟩ = some (.slice A xs.length c) := (blk_cell hb 0).trans rfl
  have c1 : w.cell? ⟨it, 1, none⟩ = some (.int .i64 (k : Int)) := (blk_cell hb 1).trans rfl
  have c2 : w.cell? ⟨it, 2, none⟩ = some cur := (blk_cell hb 2).trans rfl
  have f1 := blk_frozen hb 1
  have f2 := blk_frozen hb 2
  obtain ⟨gN, cc, hvv, hc', hcell, ⟨cur', hcur⟩⟩ := own_cells ho (by omega)
  simp only [Value.slice.injEq] at hvv
  obtain ⟨rfl, -, rfl⟩ := hvv
  obtain ⟨x, hx⟩ : ∃ x, xs[k] = x := ⟨_, rfl⟩
  have hcx : w.cell? ⟨gN, k, none⟩ = some (.iface 71 (.int .i64 x)) := hcell k _ (by simp [nodeVs, hk, hx, nodeV])
  have k0 : (0 : Int) ≤ (k : Int) := by omega
  have k1 : (k : Int) < (xs.length : Int) := by omega
  have k2 : ¬ (k : Int) ≥ (xs.length : Int) := by omega
  have hne1 : gN ≠ it := fun e => by rw [e] at hcur; exact absurd (blk_type hb hcur) (by decide)
  have hne2 : it ≠ gN := Ne.symm hne1
  have hb2 := blk_put (cs := #[.slice (some ⟨gN, 0, none⟩) xs.length c, .int .i64 (k : Int), cur]) hb 2 (.iface 71 (.int .i64 x)) rfl
  have d0 : (w.setCell ⟨it, 2, none⟩ (.iface 71 (.int .i64 x))).cell? ⟨it, 0, none⟩ = some (.slice (some ⟨gN, 0, none⟩) xs.length c) := (blk_cell hb2 0).trans rfl
  have d1 : (w.setCell ⟨it, 2, none⟩ (.iface 71 (.int .i64 x))).cell? ⟨it, 1, none⟩ = some (.int .i64 (k : Int)) := (blk_cell hb2 1).trans rfl
  have d3 : (w.setCell ⟨it, 2, none⟩ (.iface 71 (.int .i64 x))).cell? ⟨gN, k, none⟩ = some (.iface 71 (.int .i64 x)) := by
    rw [World.cell?_of_block (w := w) (Below.heap_setCell _ _ _ _ hne1)]; exact hcx
  have g1 := blk_frozen hb2 1
  have hwr : IntKind.i64.wrap ((k : Int) + 1) = (k : Int) + 1 := by rw [IntKind.wrap_i64]; omega
  have H := Aside0.mk (And.intro hb (And.intro ho (And.intro h.hb (And.intro hx hB))))
  clear hc hb h ho hcell hcur hx hB
  go_enter Tryz.func192, Tryz.ntmps192
  go_wp2_with fail
  go_region_held3 (fun w' => w'.cell? ⟨it, 0, none⟩ = some (.slice (some ⟨gN, 0, none⟩) xs.length c) ∧ w'.cell? ⟨it, 1, none⟩ = some (.int .i64 (k : Int)))
    (go_keep)
    (fail)
  go_wp2_with fail
  go_region_held3 (fun w' => w'.cell? ⟨it, 0, none⟩ = some (.slice (some ⟨gN, 0, none⟩) xs.length c) ∧ w'.cell? ⟨it, 1, none⟩ = some (.int .i64 (k : Int)) ∧ w'.cell? ⟨gN, k, none⟩ = some (.iface 71 (.int .i64 x)))
    (first | exact ⟨d0, d1, d3⟩ | go_keep)
    (fail)
  go_wp2
  go_ret
  have hcast : ((k + 1 : Nat) : Int) = (k : Int) + 1 := by omega
  refine ⟨rfl, ⟨⟨some ⟨gN, 0, none⟩, c, .iface 71 (.int .i64 x), ?_, ?_, ?_, H.out.2.2.2.2⟩, H.out.2.2.1⟩, ?_⟩
  · rw [hcast]
    exact blk_put (w := w.setCell ⟨it, 2, none⟩ (.iface 71 (.int .i64 x))) (cs := #[.slice (some ⟨gN, 0, none⟩) xs.length c, .int .i64 (k : Int), .iface 71 (.int .i64 x)]) hb2 1 _ rfl
  · refine own_of_heap H.out.2.1 fun q hq => ?_
    have hq' : gN = q := by simpa [Value.ownBlock] using hq
    subst hq'
    exact (Below.heap_setCell _ _ _ _ hne1).trans (Below.heap_setCell _ _ _ _ hne1)
  · intro j hj e
    have : j = k := by omega
    subst this
    rw [H.out.2.2.2.1]
  · refine ⟨rfl, rfl, rfl, by simp, fun q hq hn => ?_⟩
    exact (Below.heap_setCell _ _ _ _ hn).trans (Below.heap_setCell _ _ _ _ hn)
end Go.Proofs.YthkmblgehdofmaaGreat.R

/- The search by levels: each step of a round. -/
namespace Go.Proofs.YthkmblgehdofmaaGreat.R
open Go.RowKit Go.Lab Go.Maps Go.MV Go.Proofs.YthkmblgehdofmaaGreatW.PrintWords Go.Proofs.YthkmblgehdofmaaGreatW.PrintLast Go.Proofs.YthkmblgehdofmaaGreatW.PrintMore PL

section
variable {lo A GL gq n : Nat} {g : GS} {w wr w1 : World} {rows : List Value} {par : List (List Nat)} {lev : List Int} {st : Value} {jk : List Value} {q : List Nat} {e : Nat} {Ts : List Nat}
theorem SW.tf (h : SW lo A GL gq n g w wr rows par lev st jk q e) (hk : TF Ts lo wr w1) (hT : 147 ∉ Ts ∧ 176 ∉ Ts ∧ 63 ∉ Ts ∧ 2 ∉ Ts ∧ 21 ∉ Ts ∧ 121 ∉ Ts ∧ 89 ∉ Ts) : SW lo A GL gq n g w w1 rows par lev st jk q e := by
  obtain ⟨a, b, c, d, e1, f, g1⟩ := hT
  exact ⟨h.pt.tf hk c d, h.sg.tf hk a b, h.bel.trans hk.below, hk.own h.lvl e1, h.que.tf hk f g1, h.room, h.lq, h.la, h.lw⟩
theorem SW.size (h : SW lo A GL gq n g w wr rows par lev st jk q e) : lo ≤ wr.heap.size := Nat.le_trans h.lw h.bel.size
theorem SW.below (h : SW lo A GL gq n g w wr rows par lev st jk q e) (hb : Below wr.heap.size wr w1) : SW lo A GL gq n g w w1 rows par lev st jk q e :=
  h.tf (TF.of_below (Ts := []) hb h.size) (by decide)
theorem SW.gl (h : SW lo A GL gq n g w wr rows par lev st jk q e) : lo ≤ GL ∧ ∃ c, wr.heap[GL]? = some (.cells c 21 (0, 0)) := by
  rcases h.lvl.2 with ⟨e2, _⟩ | ⟨g', cap, cu, e2, hg, hc, _⟩
  · cases e2
  · cases e2; exact ⟨hg, _, hc⟩
theorem SW.level (h : SW lo A GL gq n g w wr rows par lev st jk q e) {c : Nat} {y : Int} (hc : lev[c]? = some (-1)) (hy : 0 ≤ y) :
    SW lo A GL gq n g w (wr.setCell ⟨GL, c, none⟩ (.int .i32 y)) rows par (lev.set c y) st jk q (e + 1) ∧ TF [21] lo wr (wr.setCell ⟨GL, c, none⟩ (.int .i32 y)) := by
  obtain ⟨h1, cs, h2⟩ := h.gl
  have hk : TF [21] lo wr (wr.setCell ⟨GL, c, none⟩ (.int .i32 y)) := TF.set h2 h1 (by decide) c _
  have hs := seenN_set lev c y hc hy
  have hr := h.room
  refine ⟨⟨h.pt.tf hk (by decide) (by decide), h.sg.tf hk (by decide) (by decide), h.bel.trans hk.below, ?_, h.que.tf hk (by decide) (by decide), by omega, h.lq, h.la, h.lw⟩, hk⟩
  have := own_put h.lvl c (.int .i32 y)
  rw [levV_set] at this
  exact this
theorem SW.app (h : SW lo A GL gq n g w wr rows par lev st jk q e) {i : Nat} (hi : i < rows.length) {v : Value} {l : List Nat} (hv : w1.ownsRow lo 2 1 v l.length (idV l)) (hg : wr.grownBy w1 rows[i].ownBlock) (hb : v.ownBlock = rows[i].ownBlock ∨ ∃ k, v.ownBlock = some k ∧ wr.heap.size ≤ k) :
    SW lo A GL gq n g w (w1.setCell ⟨A, i, none⟩ v) (rows.set i v) (par.set i l) lev st jk q e ∧ TF [2, 63] lo wr (w1.setCell ⟨A, i, none⟩ v) := by
  have k1 : TF [2, 63] lo wr w1 := TF.grown hg (fun k hk => by
    obtain ⟨c, hc⟩ := own_block (h.pt.row i hi) hk
    refine ⟨?_, c, 2, hc, by decide⟩
    rcases (h.pt.row i hi).2 with ⟨e2, _⟩ | ⟨g', cap, cu, e2, h3, _⟩
    · rw [e2] at hk; cases hk
    · rw [e2] at hk
      have : g' = k := Option.some.inj hk
      omega) h.size
  have hA : w1.heap[A]? = some (.cells rows.toArray 63 (0, 0)) := (hg.block A (blk_lt h.pt.tab) (fun e => h.pt.apart hi e.symm)).trans h.pt.tab
  have k2 : TF [2, 63] lo w1 (w1.setCell ⟨A, i, none⟩ v) := TF.set hA h.la (by decide) i v
  have hk : TF [2, 63] lo wr (w1.setCell ⟨A, i, none⟩ v) := k1.trans k2
  exact ⟨⟨h.pt.app hi hv hg hb, h.sg.tf hk (by decide) (by decide), h.bel.trans hk.below, hk.own h.lvl (by decide), h.que.tf hk (by decide) (by decide), h.room, h.lq, h.la, h.lw⟩, hk⟩
theorem SW.turnq (h : SW lo A GL gq n g w wr rows par lev st jk q e) {st' : Value} {jk' : List Value} {q' : List Nat} {e' : Nat} (hq : Que lo w1 gq st' jk' (toI q')) (hk : KeepF (QM gq st) wr w1) (hr : jk'.length + q'.length + e' ≤ seenN lev) :
    SW lo A GL gq n g w w1 rows par lev st' jk' q' e' := by
  have hk := TF.que h.que hk (Nat.le_refl lo) h.lq
  exact ⟨h.pt.tf hk (by decide) (by decide), h.sg.tf hk (by decide) (by decide), h.bel.trans hk.below, hk.own h.lvl (by decide), hq, hr, h.lq, h.la, h.lw⟩
end
theorem toI_append (l m : List Nat) : toI (l ++ m) = toI l ++ toI m := List.map_append
/-- within a round: the iterator stands at k -/
structure SK (lo A GL gq n : Nat) (g : GS) (w : World) (lo2 B2 it : Nat) (xs : List Int) (wr : World) (k : Nat) (rows : List Value) (par : List (List Nat)) (lev : List Int) (st : Value) (jk : List Value) (q : List Nat) (e : Nat) : Prop where
  sw : SW lo A GL gq n g w wr rows par lev st jk q e
  it : MIx lo2 B2 wr it xs k
  far : ∀ k, QM gq st k → k < lo2 ∨ B2 ≤ k
  le : lo ≤ lo2
  lt : B2 ≤ wr.heap.size
section
variable {lo A GL gq n : Nat} {g : GS} {w wr w1 : World} {rows : List Value} {par : List (List Nat)} {lev : List Int} {st : Value} {jk : List Value} {q : List Nat} {e : Nat} {lo2 B2 it k : Nat} {xs : List Int}
theorem MIx.tf {Ts : List Nat} {l : Nat} (h : MIx lo2 B2 wr it xs k) (hk : TF Ts l wr w1) (h1 : 179 ∉ Ts) (h2 : 89 ∉ Ts) : MIx lo2 B2 w1 it xs k := by
  obtain ⟨A, c, cur, a1, a2, a3, a4⟩ := h.ex
  exact ⟨⟨A, c, cur, hk.blk a1 h1, hk.own a2 h2, a3, a4⟩, h.hb⟩
theorem SK.below (h : SK lo A GL gq n g w lo2 B2 it xs wr k rows par lev st jk q e) (hb : Below wr.heap.size wr w1) : SK lo A GL gq n g w lo2 B2 it xs w1 k rows par lev st jk q e :=
  ⟨h.sw.below hb, h.it.tf (TF.of_below (Ts := []) (lo := lo) hb h.sw.size) (by decide) (by decide), h.far, h.le, Nat.le_trans h.lt hb.size⟩
theorem SK.next {k' : Nat} (h : SK lo A GL gq n g w lo2 B2 it xs wr k rows par lev st jk q e) (hi : MIx lo2 B2 w1 it xs k') (hk : KeepF (fun q => q = it) wr w1) : SK lo A GL gq n g w lo2 B2 it xs w1 k' rows par lev st jk q e := by
  obtain ⟨A1, c, cur, a1, _⟩ := h.it.ex
  have hle := h.le
  have hb := h.it.hb
  have ht : TF [179] lo wr w1 := ⟨hk.os, hk.tape, hk.output, hk.size, fun j hj => hk.block j (by have := h.sw.size; omega) (by omega), fun j hj hn => hk.block j hj (fun e => by subst e; exact hn _ _ a1 (by decide))⟩
  exact ⟨h.sw.tf ht (by decide), hi, h.far, h.le, Nat.le_trans h.lt hk.size⟩
theorem SK.level (h : SK lo A GL gq n g w lo2 B2 it xs wr k rows par lev st jk q e) {c : Nat} {y : Int} (hc : lev[c]? = some (-1)) (hy : 0 ≤ y) :
    SK lo A GL gq n g w lo2 B2 it xs (wr.setCell ⟨GL, c, none⟩ (.int .i32 y)) k rows par (lev.set c y) st jk q (e + 1) := by
  obtain ⟨h1, h2⟩ := h.sw.level hc hy
  exact ⟨h1, h.it.tf h2 (by decide) (by decide), h.far, h.le, Nat.le_trans h.lt h2.size⟩
theorem SK.app (h : SK lo A GL gq n g w lo2 B2 it xs wr k rows par lev st jk q e) {i : Nat} (hi : i < rows.length) {v : Value} {l : List Nat} (hv : w1.ownsRow lo 2 1 v l.length (idV l)) (hg : wr.grownBy w1 rows[i].ownBlock) (hb : v.ownBlock = rows[i].ownBlock ∨ ∃ k, v.ownBlock = some k ∧ wr.heap.size ≤ k) :
    SK lo A GL gq n g w lo2 B2 it xs (w1.setCell ⟨A, i, none⟩ v) k (rows.set i v) (par.set i l) lev st jk q e := by
  obtain ⟨h1, h2⟩ := h.sw.app hi hv hg hb
  exact ⟨h1, h.it.tf h2 (by decide) (by decide), h.far, h.le, Nat.le_trans h.lt h2.size⟩
theorem SK.enq (h : SK lo A GL gq n g w lo2 B2 it xs wr k rows par lev st jk q (e + 1)) {c : Nat} (hn : n ≤ 900) (hl : lev.length = n) :
    Calls Tryz.prog 68 #[.pointer (some ⟨gq, 0, none⟩), .iface 71 (.int .i64 (c : Int))] wr fun ex w' => ex = .returned (.tuple #[]) ∧ ∃ st' jk', SK lo A GL gq n g w lo2 B2 it xs w' k rows par lev st' jk' (q ++ [c]) e := by
  have hr := h.sw.room
  have hs := seenN_le lev
  have hql : (toI q).length = q.length := List.length_map ..
  refine (enq_any lo gq st jk (toI q) (c : Int) wr h.sw.que (by rw [hql]; omega) h.sw.size).mono ?_
  rintro ex w' ⟨rfl, st', jk', hq, hj, hk, hb⟩
  refine ⟨rfl, st', jk', h.sw.turnq (by rw [toI_append]; exact hq) hk (by rw [List.length_append]; simp; omega), h.it.far fun x h1 h2 => hk.block x (by have := h.lt; omega) (fun hm => by have := h.far x hm; omega), fun x hx => ?_, h.le, Nat.le_trans h.lt hk.size⟩
  rcases hx with rfl | hx
  · exact h.far _ (.inl rfl)
  · rcases hb with hb | ⟨y, hb, hy⟩
    · exact h.far x (.inr (hb ▸ hx))
    · rw [hb] at hx
      have : y = x := Option.some.inj hx
      have := h.lt
      omega
theorem SK.weight (h : SK lo A GL gq n g w lo2 B2 it xs wr k rows par lev st jk q e) {gG : Nat} (hG : g.gG = gG) {u v : Int} (huv : u ≠ v) (wu : (Lit.int .i64 u).wf = true) (wv : (Lit.int .i64 v).wf = true) {y : Nat} (hy : g.ed u v = some y) :
    Calls Tryz.prog 66 #[.pointer (some ⟨gG, 0, none⟩), .int .i64 u, .int .i64 v] wr fun ex w' => ex = .returned (.tuple #[.float .f64 y, .bool true]) ∧ SK lo A GL gq n g w lo2 B2 it xs w' k rows par lev st jk q e := by
  refine (weightS_at lo g hG u v wr h.sw.sg huv wu wv).mono ?_
  rintro ex w' ⟨⟨x, rfl, hx⟩, hb⟩
  rw [hx y hy, hy]
  exact ⟨rfl, h.below hb⟩
end
end Go.Proofs.YthkmblgehdofmaaGreat.R

/- The search by levels: canReachTargetInLevelGraph. -/
namespace Go.Proofs.YthkmblgehdofmaaGreat.R
open Go.RowKit Go.Lab Go.Maps Go.MV Go.Proofs.YthkmblgehdofmaaGreatW.PrintWords Go.Proofs.YthkmblgehdofmaaGreatW.PrintLast Go.Proofs.YthkmblgehdofmaaGreatW.PrintMore PL

/-- the table while its rows are cut: i of them -/
structure IC0 (lo A : Nat) (par : List (List Nat)) (w wr : World) (i : Nat) : Prop where
  pt : ∃ rows, PT lo wr A rows (List.replicate i [] ++ par.drop i)
  ck : CK lo w wr
/-- the levels while they are laid: i of them -/
structure IL (lo A GL n : Nat) (rs : List Value) (xs : List Value) (w wr : World) (i : Nat) : Prop where
  pt : PT lo wr A rs (List.replicate n [])
  ck : CK lo w wr
  lev : wr.ownsRow lo 21 1 (.slice (some ⟨GL, 0, none⟩) n n) n (List.replicate i (.int .i32 (-1)) ++ xs.drop i)
theorem own_slice0 {w : World} {lo : Nat} {e : TypeId} {n : Nat} {v : Value} {xs : List Value} (h : w.ownsRow lo e 1 v n xs) : ∃ B c, v = .slice B n c ∧ n ≤ c := by
  rcases h.2 with ⟨e, e2⟩ | ⟨g, cap, cur, e, h1, h2, h3, _⟩
  · exact ⟨none, 0, by rw [e, e2], by omega⟩
  · exact ⟨_, cap, e, h3⟩
theorem Tryz.info21' : (Tryz.prog.info? 21).map (fun i => (i.zero, i.size, i.bytes)) = some (some (.int .i32 0), 1, 4) := by kernel_rfl
/-- how long the parents' rows are -/
def PBd (n K : Nat) (par : List (List Nat)) (xs : List Int) (j : Nat) : Prop :=
  (∀ i : Nat, (par.getD i []).length + K ≤ n + 1) ∧ ∀ (l : Nat) (h : l < xs.length), j ≤ l → (par.getD xs[l].toNat []).length + K ≤ n
theorem PBd.keep {n K j : Nat} {par : List (List Nat)} {xs : List Int} (h : PBd n K par xs j) : PBd n K par xs (j + 1) := ⟨h.1, fun l hl hj => h.2 l hl (by omega)⟩
theorem PBd.put {n K j c : Nat} {par : List (List Nat)} {xs : List Int} {ps : List Nat} {u : Nat} (h : PBd n K par xs j) (hj : j < xs.length) (hx : xs[j] = (c : Int)) (hp : par.getD c [] = ps) (hn : xs.Nodup) (hnn : ∀ v ∈ xs, 0 ≤ v) : PBd n K (par.set c (ps ++ [u])) xs (j + 1) := by
  have h1 := h.2 j hj (Nat.le_refl _)
  rw [hx, Int.toNat_natCast, hp] at h1
  have hc : ∀ i, c ≠ i → (par.set c (ps ++ [u])).getD i [] = par.getD i [] := fun i e => by simp [List.getD, List.getElem?_set_ne e]
  have hs : ((par.set c (ps ++ [u])).getD c []).length ≤ ps.length + 1 := by
    simp only [List.getD]
    by_cases hl : c < par.length
    · simp [hl]
    · simp [hl]
  refine ⟨fun i => ?_, fun l hl hjl => ?_⟩
  · by_cases e : c = i
    · subst e; omega
    · rw [hc i e]; exact h.1 i
  · have hne : c ≠ xs[l].toNat := fun e => by
      have h0 := hnn _ (List.getElem_mem hl)
      exact (List.pairwise_iff_getElem.1 hn) j l hj hl (by omega) (by rw [hx]; omega)
    rw [hc _ hne]
    exact h.2 l hl (by omega)
/-- between two rounds of the search, with as much left as kq -/
def LS (lo A GL gq n s : Nat) (g : GS) (w : World) (kq : Nat) (wr : World) : Prop :=
  ∃ rows par lev st jk q, SW lo A GL gq n g w wr rows par lev st jk q 0 ∧ BQ n s (carries g) lev par q ∧ n - seenN lev + q.length ≤ kq ∧ PBd n kq par [] 0
/-- within the round of u: j of its ends are done -/
def KS (lo A GL gq n s : Nat) (g : GS) (w : World) (lo2 B2 it : Nat) (xs : List Int) (u K : Nat) (wr : World) (j : Nat) : Prop :=
  ∃ rows par lev st jk q, SK lo A GL gq n g w lo2 B2 it xs wr j rows par lev st jk q 0 ∧ BK n s (carries g) lev par q u ((xs.take j).map Int.toNat) ∧ n - seenN lev + q.length ≤ K ∧ PBd n K par xs j
theorem info2z : (Tryz.prog.info? 2).map (fun i => (i.zero, i.size, i.bytes)) = some (some (.int .i64 0), 1, 8) := by kernel_rfl
set_option maxHeartbeats 8000000 in
set_option maxRecDepth 100000 in
theorem reach_any (lo A n s t : Nat) (g : GS) (rows : List Value) (par : List (List Nat)) (w : World) (hg : SG lo w g) (hns : g.ns = idsN n) (hpt : PT lo w A rows par) (hpl : par.length = n) (hs : s < n) (ht : t < n) (hn : n ≤ 900) (hlo : lo ≤ A) (hirr : ∀ u, g.ed u u = none) (hord : ∀ a b y, g.ed a b = some y → ∃ o, FloatKind.f64.format.order y 0 = some o) :
    Calls Tryz.prog 52 #[.pointer (some ⟨g.gG, 0, none⟩), .iface 71 (.int .i64 (s : Int)), .iface 71 (.int .i64 (t : Int)), .slice (some ⟨A, 0, none⟩) n n] w fun e w' => ∃ rows' par' lev, e = .returned (.bool (decide (0 ≤ lev.getD t (-1)))) ∧ PT lo w' A rows' par' ∧ SG lo w' g ∧ Below lo w w' ∧ BQ n s (carries g) lev par' [] := by
  have HP := Aside0.mk (And.intro hg (And.intro hns hpl))
  have HO := Aside0.mk (And.intro hirr hord)
  clear hirr hord
  have HL0 := Aside0.mk (show lo ≤ w.heap.size from Nat.le_of_lt (Nat.lt_of_le_of_lt hlo (blk_lt hpt.tab)))
  have hI := Aside0.mk (show IC0 lo A par w w 0 from ⟨⟨rows, hpt⟩, CK.refl _ _⟩)
  clear hg hns hpt
  have ms := meth_ID (s : Int)
  have mt := meth_ID (t : Int)
  go_enter Tryz.func52, Tryz.ntmps52
  go_wp2_with fail
  go_loopw [20] (fun v20 wr => ∃ i : Nat, v20 = .int .i64 i ∧ i ≤ n ∧ Aside0 (IC0 lo A par w wr i)) (fun v20 _ => n - (intOf v20).toNat)
  case atStart => exact ⟨0, rfl, Nat.zero_le _, hI⟩
  case round =>
    clear hI
    obtain ⟨i, rfl, hi, hrel⟩ := hrel
    by_cases hlt : i < n
    · obtain ⟨rs, hpt⟩ := hrel.out.pt
      have hrl : rs.length = n := by rw [hpt.len, List.length_append, List.length_replicate, List.length_drop, hpl]; omega
      have hir : i < rs.length := by omega
      obtain ⟨B, c, hB, hc⟩ := own_slice0 (hpt.row i hir)
      obtain ⟨m, hm⟩ : ∃ m, ((List.replicate i ([] : List Nat) ++ par.drop i).getD i []).length = m := ⟨_, rfl⟩
      rw [hm] at hB hc
      have hcell : wr.cell? ⟨A, i, none⟩ = some (.slice B m c) := by rw [blk_cell hpt.tab]; simp [hir, hB]
      have hfr := blk_frozen hpt.tab i
      have HPT := Aside0.mk (And.intro hpt hB)
      clear hpt hB hm
      go_wp2_with fail
      go_roundw
      case rel =>
        refine ⟨i + 1, by rw [Int.natCast_succ], by omega, Aside0.mk ⟨⟨rs.set i (.slice B 0 c), ?_⟩, hrel.out.ck.trans (CK.set HPT.out.1.tab hlo (by decide) (by decide) i (.slice B 0 c))⟩⟩
        have h1 := HPT.out.1.cut hir HPT.out.2
        rw [set_front [] i par (by omega)] at h1
        exact h1
      case measure => show n - ((i : Int) + 1).toNat < n - (i : Int).toNat; omega
    · have hin : i = n := by omega
      have hCK := Aside0.mk hrel.out.ck
      obtain ⟨rs, hpt⟩ := hrel.out.pt
      rw [hin, ← hpl, List.drop_length, List.append_nil, hpl] at hpt
      have HPT := Aside0.mk hpt
      clear hpt
      have mn := fun a => meth_NLen a
      have HLO := Aside0.mk (show lo ≤ wr.heap.size from Nat.le_of_lt (Nat.lt_of_le_of_lt hlo (blk_lt HPT.out.tab)))
      have HNE := Aside0.mk (show g.ns ≠ [] from by
        rw [HP.out.2.1]
        intro e
        have := congrArg List.length e
        unfold idsN toI at this
        rw [List.length_map, List.length_range, List.length_nil] at this
        omega)
      have HNL := Aside0.mk (show g.ns.length = n from by
        rw [HP.out.2.1]
        unfold idsN toI
        rw [List.length_map, List.length_range])
      obtain ⟨i0, hI0, hz0, hz1, hz2⟩ := info_parts Tryz.info21'
      have HI := Aside0.mk (And.intro hI0 (And.intro hz0 (And.intro hz1 hz2)))
      clear hI0 hz0 hz1 hz2
      go_wp2_with (first
        | (go_at_call 67; refine (nodesS_at lo g rfl _ (HP.out.1.ck hCK.out) HNE.out).mono ?_; rintro e w1 ⟨it, xs, rfl, hit, hper, hb1⟩; have H1 := Aside0.mk (And.intro hit (And.intro hper hb1)); have hxl : xs.length = n := hper.length_eq.trans HNL.out; clear hit hper hb1)
        | (go_at_call 186; refine (lenN_any _ _ _ _ H1.out.1 (by omega)).mono ?_; rintro e w2 ⟨rfl, hb2⟩; rw [hxl]; have H2 := Aside0.mk hb2; clear hb2)
        | (at_make; refine wpList_make_full _ rfl _ _ 118 rfl lo 21 i0 (.int .i32 0) 1 Tryz.underlying118 HI.out.1 HI.out.2.1 HI.out.2.2.1 .i64 .i64 (n : Int) (n : Int) n rfl rfl rfl rfl (by rw [HI.out.2.2.2]; omega) (by unfold maxLen; omega) (Nat.le_trans HLO.out (Nat.le_trans H1.out.2.2.size H2.out.size)) ?_; intro w3 ho3 hg3; have H3 := Aside0.mk (And.intro ho3 hg3); clear ho3 hg3))
      obtain ⟨xs, hxs⟩ : ∃ xs, (madeCells (Value.int .i32 0).cells (n * 1)).toList = xs := ⟨_, rfl⟩
      obtain ⟨GL, hGL⟩ : ∃ GL, w2.heap.size = GL := ⟨_, rfl⟩
      have HXL := Aside0.mk (show xs.length = n from by
        have := H3.out.1.1
        rw [hxs] at this
        omega)
      have hIL := Aside0.mk (show IL lo A GL n rs xs w w3 0 from by
        have hb : Below wr.heap.size wr w2 := H1.out.2.2.trans (H2.out.mono H1.out.2.2.size)
        have h2 : CK lo wr w2 := CK.of_below hb HLO.out
        have h3 : CK lo w2 w3 := CK.grown H3.out.2 (fun k e => by cases e) (Nat.le_trans HLO.out hb.size)
        have hs : ∀ k, k < wr.heap.size → w3.heap[k]? = wr.heap[k]? := fun k hk => (H3.out.2.block k (Nat.lt_of_lt_of_le hk hb.size) (by simp)).trans (hb.block k hk)
        refine ⟨HPT.out.stay fun k hp => hs k ?_, hCK.out.trans (h2.trans h3), ?_⟩
        · rcases hp with rfl | ⟨j, hj, e⟩
          · exact blk_lt HPT.out.tab
          · obtain ⟨c, hc⟩ := own_block (HPT.out.row j hj) e
            exact blk_lt hc
        · have := H3.out.1
          rw [hxs, hGL] at this
          exact this)
      rw [hGL]
      clear hxs hGL H3 H2 H1 mn hrel
      go_loopw [38] (fun v38 wr => ∃ i : Nat, v38 = .int .i64 i ∧ i ≤ n ∧ Aside0 (IL lo A GL n rs xs w wr i)) (fun v38 _ => n - (intOf v38).toNat)
      case atStart => exact ⟨0, rfl, Nat.zero_le _, hIL⟩
      case round =>
        clear hIL
        obtain ⟨k, rfl, hk, hrl⟩ := hrel
        by_cases hlk : k < n
        · obtain ⟨g', c', hv, _, hcl, cur, hcur⟩ := own_cells hrl.out.lev (by omega)
          cases hv
          have hfr := blk_frozen hcur k
          have hkx : k < xs.length := by rw [HXL.out]; exact hlk
          have hcell := hcl k xs[k] (by rw [List.getElem?_append_right (by simp), List.length_replicate, Nat.sub_self, List.getElem?_drop, Nat.add_zero, List.getElem?_eq_getElem hkx])
          have HCU := Aside0.mk hcur
          obtain ⟨x0, hx0⟩ : ∃ x0, xs[k] = x0 := ⟨_, rfl⟩
          rw [hx0] at hcell
          clear hcl hcur hx0
          go_wp2_with fail
          go_roundw
          case rel =>
            refine ⟨k + 1, by rw [Int.natCast_succ], by omega, Aside0.mk ⟨hrl.out.pt.stay fun q hq => Below.heap_setCell _ _ _ _ fun e => ?_, hrl.out.ck.trans (CK.set HCU.out (by
              rcases hrl.out.lev.2 with ⟨e, _⟩ | ⟨g'', cap, cc, e, h1, _⟩
              · cases e
              · cases e; exact h1) (by decide) (by decide) k (.int .i32 (-1))), ?_⟩⟩
            · have e' : q = GL := e
              subst e'
              rcases hq with rfl | ⟨j, hj, e2⟩
              · exact absurd (blk_type hrl.out.pt.tab HCU.out) (by decide)
              · obtain ⟨c2, hc2⟩ := own_block (hrl.out.pt.row j hj) e2
                exact absurd (blk_type hc2 HCU.out) (by decide)
            · have h1 := own_put hrl.out.lev k (.int .i32 (-1))
              rw [set_front _ k xs hkx] at h1
              exact h1
          case measure => show n - ((k : Int) + 1).toNat < n - (k : Int).toNat; omega
        · have hkn : k = n := by omega
          have HLV := Aside0.mk (show wr.ownsRow lo 21 1 (.slice (some ⟨GL, 0, none⟩) n n) n (levV (List.replicate n (-1))) from by
            have := hrl.out.lev
            rw [hkn, ← HXL.out, List.drop_length, List.append_nil, HXL.out] at this
            unfold levV
            rw [List.map_replicate]
            exact this)
          have HPC := Aside0.mk (And.intro hrl.out.pt hrl.out.ck)
          clear hrl hkn
          obtain ⟨g', c', hv, _, hcl, cur, hcur⟩ := own_cells HLV.out (by omega)
          cases hv
          have hfr := blk_frozen hcur s
          have hcell := hcl s (.int .i32 (-1)) (by unfold levV; rw [List.map_replicate, List.getElem?_replicate, if_pos hs])
          have HCU := Aside0.mk hcur
          clear hcl hcur
          have hgl : lo ≤ GL := by
            rcases HLV.out.2 with ⟨e2, _⟩ | ⟨g', cap, cu, e2, hg, _⟩
            · cases e2
            · cases e2; exact hg
          have HSW := Aside0.mk (show SW lo A GL wr.heap.size n g w ((wr.setCell ⟨GL, s, none⟩ (.int .i32 0)).alloc (.cells #[.int .i64 0, .slice none 0 0] 121)) rs (List.replicate n []) ((List.replicate n (-1)).set s 0) (.slice none 0 0) [] [] 1 from by
            have hl : lo ≤ wr.heap.size := Nat.le_trans HL0.out HPC.out.2.size
            have t1 : TF [21] lo wr (wr.setCell ⟨GL, s, none⟩ (.int .i32 0)) := TF.set HCU.out hgl (by decide) s _
            have t2 : TF [] lo (wr.setCell ⟨GL, s, none⟩ (.int .i32 0)) ((wr.setCell ⟨GL, s, none⟩ (.int .i32 0)).alloc (.cells #[.int .i64 0, .slice none 0 0] 121)) := TF.of_below ((Below.refl _ _).alloc (Nat.le_refl _) _) (Nat.le_trans hl t1.size)
            have hsz : (wr.setCell ⟨GL, s, none⟩ (.int .i32 0)).heap.size = wr.heap.size := by simp
            have hlv := own_put HLV.out s (.int .i32 0)
            rw [levV_set] at hlv
            refine ⟨(HPC.out.1.tf t1 (by decide) (by decide)).tf t2 (by decide) (by decide), ((HP.out.1.ck HPC.out.2).tf t1 (by decide) (by decide)).tf t2 (by decide) (by decide), HPC.out.2.below.trans (t1.below.trans t2.below), t2.own hlv (by decide), ⟨?_, World.ownsRow_nil _ _ _ _, fun _ => rfl⟩, ?_, hl, hlo, HL0.out⟩
            · have := heap_alloc_new (wr.setCell ⟨GL, s, none⟩ (.int .i32 0)) (.cells #[.int .i64 0, .slice none 0 0] 121)
              rw [hsz] at this
              exact this
            · have := seenN_set (List.replicate n (-1)) s 0 (by rw [List.getElem?_replicate, if_pos hs]) (by omega)
              simp only [List.length_nil]
              omega)
          clear HLV HPC HCU HXL hgl
          go_wp2_with (first
            | (go_at_call 162; refine (nodeID_any _ _).mono ?_; rintro e w5 ⟨rfl, rfl⟩)
            | (go_at_call 68; refine (enq_any lo wr.heap.size (.slice none 0 0) [] [] (s : Int) _ HSW.out.que (by simp) HSW.out.size).mono ?_; rintro e w1 ⟨rfl, st1, jk1, hq1, hj1, hk1, hb1⟩; have HS1 := Aside0.mk (HSW.out.turnq (q' := [s]) (e' := 0) hq1 hk1 (by have h2 : 0 + 0 + 1 ≤ _ := HSW.out.room; have h1 : jk1.length ≤ 0 := hj1; show jk1.length + 1 + 0 ≤ _; omega)); clear hq1 hj1 hk1 hb1))
          obtain ⟨gq, hgq⟩ : ∃ gq, wr.heap.size = gq := ⟨_, rfl⟩
          have hLS := Aside0.mk (show LS lo A GL gq n s g w (n + 1) w1 from ⟨_, _, _, st1, jk1, [s], hgq ▸ HS1.out, BQ.start hs, by simp, fun i => by have : ((List.replicate n ([] : List Nat)).getD i []) = [] := (by simp only [List.getD, List.getElem?_replicate]; split <;> rfl); rw [this]; simp, fun l h => by simp at h⟩)
          rw [hgq]
          clear HS1 HSW hcell hfr
          go_loopg [] (n + 1) (fun kq w' => Aside0 (LS lo A GL gq n s g w kq w'))
          case atStart => exact hLS
          case round =>
            clear hLS
            obtain ⟨rows1, par1, lev1, st, jk, q, hsw, hbq, hms, hpbd⟩ := hrel.out
            have HPB := Aside0.mk hpbd
            clear hpbd
            have HQ := Aside0.mk (And.intro hsw hbq)
            have hroom := hsw.room
            have hsl := seenN_le lev1
            have hll : lev1.length = n := hbq.b.ll
            have hql : jk.length + (toI q).length ≤ 10000000 := by rw [toI_len]; omega
            clear hrel hsw hbq
            cases q with
            | nil =>
              go_wp2_with (first
                | (go_at_call 69; refine (qlen_any lo gq st jk (toI []) _ HQ.out.1.que hql).mono ?_; rintro e w2 ⟨rfl, hb2⟩; rw [show ((toI []).length : Int) = 0 from rfl]; have HS2 := Aside0.mk (HQ.out.1.below hb2); clear hb2)
                | (go_at_call 162; refine (nodeID_any _ _).mono ?_; rintro e w5 ⟨rfl, rfl⟩; obtain ⟨g', c', hv, _, hcl, cur, hcur⟩ := own_cells HS2.out.lvl (by omega); cases hv; obtain ⟨x, hx⟩ : ∃ x, lev1[t]? = some x := ⟨_, List.getElem?_eq_getElem (by omega)⟩; have hct := hcl t (.int .i32 x) (by unfold levV; rw [List.getElem?_map, hx]; rfl); have HX := Aside0.mk hx; clear hcl hcur hx))
              go_ret
              refine ⟨rows1, par1, lev1, ?_, HS2.out.pt, HS2.out.sg, HS2.out.bel, HQ.out.2⟩
              show Ending.returned (.bool (decide (x ≥ 0))) = _
              rw [show lev1.getD t (-1) = x from by rw [List.getD, HX.out]; rfl]
            | cons u q' =>
              cases gk with
              | zero => simp at hms
              | succ gk =>
                have HU := Aside0.mk (show lit lev1 u from HQ.out.2.qin u List.mem_cons_self)
                have hun : u < n := by obtain ⟨x, h1, _⟩ := HU.out; have := (List.getElem?_eq_some_iff.1 h1).1; omega
                have wu : (Lit.int .i64 (u : Int)).wf = true := by simp [Lit.wf, IntKind.min, IntKind.max, IntKind.bits, IntKind.signed]; omega
                have mu := meth_ID (u : Int)
                obtain ⟨j0, hJ0, hzj0, hzj1, hzj2⟩ := info_parts info2z
                have HJ := Aside0.mk (And.intro hJ0 (And.intro hzj0 (And.intro hzj1 hzj2)))
                clear hJ0 hzj0 hzj1 hzj2
                have hq1 : ((toI (u :: q')).length : Int) > 0 := by rw [toI_len]; simp
                obtain ⟨ql, hql2⟩ : ∃ ql : Int, ((toI (u :: q')).length : Int) = ql := ⟨_, rfl⟩
                rw [hql2] at hq1
                have HMS := Aside0.mk hms
                clear hms
                go_wp2_with (first
                  | (go_at_call 69; refine (qlen_any lo gq st jk (toI (u :: q')) _ HQ.out.1.que hql).mono ?_; rintro e w2 ⟨rfl, hb2⟩; rw [hql2]; have HS2 := Aside0.mk (HQ.out.1.below hb2); clear hb2)
                  | (go_at_call 70; refine (deq_any lo gq st jk (toI q') (u : Int) _ HS2.out.que hql).mono ?_; rintro e w3 ⟨rfl, st3, jk3, hq3, hj3, hb3, hk3⟩; have HS3 := Aside0.mk (HS2.out.turnq (q' := q') (e' := 0) hq3 hk3 (by have := HS2.out.room; simp at this; omega)); clear hq3 hj3 hb3 hk3)
                  | (go_at_call 162; refine (nodeID_any _ _).mono ?_; rintro e w5 ⟨rfl, rfl⟩)
                  | (go_at_call 71; refine (fromS_at lo g rfl (u : Int) _ HS3.out.sg wu).mono ?_; rintro e w4 ⟨iv, xs4, rfl, hf, hb4⟩; have HS4 := Aside0.mk (HS3.out.below hb4); have HF := Aside0.mk (And.intro hf hb4); clear hf hb4))
                obtain ⟨lo2, hlo2⟩ : ∃ l, w3.heap.size = l := ⟨_, rfl⟩
                have HSK : ∀ it2, MIt 179 lo2 w4 it2 xs4 0 → Aside0 (SK lo A GL gq n g w lo2 w4.heap.size it2 xs4 w4 0 rows1 par1 lev1 st3 jk3 q' 0) := fun it2 hit => ⟨⟨HS4.out, hit.fence, fun k hk => by
                    rcases hk with rfl | hk
                    · left; rw [← hlo2]; exact blk_lt HS3.out.que.blk
                    · left; rw [← hlo2]; obtain ⟨c, hc⟩ := own_block HS3.out.que.own hk; exact blk_lt hc, by rw [← hlo2]; exact HS3.out.size, Nat.le_refl _⟩⟩
                have HM4 := Aside0.mk (show n - seenN lev1 + q'.length ≤ gk from by have := HMS.out; simp only [List.length_cons] at this; omega)
                have HXM := Aside0.mk (show ∀ v ∈ xs4, ∃ c : Nat, c < n ∧ v = (c : Int) ∧ c ≠ u ∧ (g.ed u v).isSome = true from fun v hv => by
                  have h1 := (HF.out.1.2.1 v).1 hv
                  have h2 := ed_mem.1 h1
                  have h3 := HS4.out.sg.fes _ h2.1 _ h2.2
                  rw [HP.out.2.1] at h3
                  obtain ⟨c, h4, rfl⟩ := toI_mem h3
                  refine ⟨c, List.mem_range.1 h4, rfl, fun e => ?_, h1⟩
                  rw [e, HO.out.1] at h1
                  cases h1)
                have HND := Aside0.mk HF.out.1.1
                have HXA := Aside0.mk (show ∀ c, carries g u c → c ∈ xs4.map Int.toNat from fun c ⟨y, h1, _⟩ => List.mem_map.2 ⟨(c : Int), (HF.out.1.2.1 _).2 (by rw [h1]; rfl), Int.toNat_natCast c⟩)
                have HPOP := Aside0.mk (BQ.pop HQ.out.2)
                have hxl : xs4.length ≤ 900 := Nat.le_trans (nodup_len HF.out.1.1 (fun v hv => by obtain ⟨c, h1, rfl, _⟩ := HXM.out v hv; exact idsN_mem h1)) (by unfold idsN; rw [toI_len, List.length_range]; exact hn)
                have hcase := HF.out.1.2.2
                rw [hlo2] at hcase
                clear HF HS2 HMS HQ
                rcases hcase with ⟨rfl, rfl⟩ | ⟨it2, rfl, hit⟩
                · clear HSK
                  go_loopw [] (fun wr => Aside0 (SW lo A GL gq n g w wr rows1 par1 lev1 st3 jk3 q' 0)) (fun _ => 0)
                  case atStart => exact HS4
                  case round =>
                    have mz := fun w => meth_ZNext 0 w
                    go_wp2_with (go_at_call 182; refine (nextZ_any 0 _).mono ?_; rintro e w5 ⟨rfl, rfl⟩)
                    go_roundg gk
                    case measure => omega
                    case rel => exact ⟨_, _, _, _, _, _, hrel.out, HPOP.out.done (fun c hc => by have := HXA.out c hc; simp at this), HM4.out, fun i => by have := HPB.out.1 i; omega, fun l h => by simp at h⟩
                · obtain ⟨B2, hB2⟩ : ∃ l, w4.heap.size = l := ⟨_, rfl⟩
                  have hKS := Aside0.mk (show KS lo A GL gq n s g w lo2 B2 it2 xs4 u gk w4 0 from ⟨_, _, _, _, _, _, hB2 ▸ (HSK it2 hit).out, HPOP.out, HM4.out, fun i => by have := HPB.out.1 i; omega, fun l _ _ => by have := HPB.out.1 xs4[l].toNat; omega⟩)
                  clear HSK HPOP HM4 HS4 HS3 hB2 hlo2
                  go_loopw [] (fun wr => ∃ j : Nat, j ≤ xs4.length ∧ Aside0 (KS lo A GL gq n s g w lo2 B2 it2 xs4 u gk wr j)) (fun wr => xs4.length + 2 - posM wr it2)
                  case atStart => exact ⟨0, Nat.zero_le _, hKS⟩
                  case round =>
                    clear hKS
                    obtain ⟨j, hj, hrel⟩ := hrel
                    obtain ⟨rows5, par5, lev5, st5, jk5, q5, hsk, hbk, hms5, hpb5⟩ := hrel.out
                    have HK := Aside0.mk (And.intro hsk (And.intro hbk (And.intro hms5 hpb5)))
                    have hpos := hsk.it.pos
                    clear hrel hsk hbk hms5 hpb5
                    have mn := fun a w => meth_MNext a w
                    have md := fun a w => meth_MNode a w
                    by_cases hjl : j < xs4.length
                    · obtain ⟨c, hcn, hxc, hcu, hed⟩ := HXM.out xs4[j] (List.getElem_mem hjl)
                      obtain ⟨y, hy⟩ := Option.isSome_iff_exists.1 hed
                      rw [hxc] at hy
                      obtain ⟨o, ho⟩ := HO.out.2 _ _ _ hy
                      have huc : (u : Int) ≠ (c : Int) := fun e => hcu (Int.ofNat.inj e).symm
                      have wc : (Lit.int .i64 (c : Int)).wf = true := by simp [Lit.wf, IntKind.min, IntKind.max, IntKind.bits, IntKind.signed]; omega
                      have mc := meth_ID (c : Int)
                      have HY := Aside0.mk hy
                      have HXC := Aside0.mk hxc
                      have HTK := Aside0.mk (show (xs4.take (j + 1)).map Int.toNat = (xs4.take j).map Int.toNat ++ [c] from by
                        rw [List.take_succ_eq_append_getElem hjl, List.map_append, hxc]
                        rfl)
                      clear hed hy hxc
                      have HSKP := Aside0.mk (show (carries g u c → lit lev5 c) → BK n s (carries g) lev5 par5 q5 u ((xs4.take (j + 1)).map Int.toNat) from fun h => by rw [HTK.out]; exact HK.out.2.1.skip h)
                      have HNN := Aside0.mk (show ∀ v ∈ xs4, 0 ≤ v from fun v hv => by obtain ⟨c, _, rfl, _⟩ := HXM.out v hv; omega)
                      cases o with
                      | lt =>
                        go_wp2_with (first
                          | (go_at_call 192; refine (nextX_any lo2 B2 it2 j xs4 _ HK.out.1.it hjl (by omega)).mono ?_; rintro e w5 ⟨rfl, hi5, hk5⟩; have HK5 := Aside0.mk (HK.out.1.next hi5 hk5); clear hi5 hk5)
                          | (go_at_call 193; refine (nodeM_any lo2 it2 j xs4 _ HK5.out.it.it hjl).mono ?_; rintro e w6 ⟨rfl, rfl⟩; rw [HXC.out])
                          | (go_at_call 162; refine (nodeID_any _ _).mono ?_; rintro e w5 ⟨rfl, rfl⟩)
                          | (go_at_call 66; refine (HK5.out.weight rfl huc wu wc HY.out).mono ?_; rintro e w7 ⟨rfl, hk7⟩; have HK7 := Aside0.mk hk7; clear hk7))
                        go_roundw
                        case rel => exact ⟨j + 1, by omega, ⟨_, _, _, _, _, _, HK7.out, HSKP.out (fun ⟨z, h1, h2⟩ => by rw [HY.out] at h1; cases h1; rw [ho] at h2; cases h2), HK.out.2.2.1, HK.out.2.2.2.keep⟩⟩
                        case measure => rw [HK7.out.it.pos, hpos]; omega
                      | eq =>
                        go_wp2_with (first
                          | (go_at_call 192; refine (nextX_any lo2 B2 it2 j xs4 _ HK.out.1.it hjl (by omega)).mono ?_; rintro e w5 ⟨rfl, hi5, hk5⟩; have HK5 := Aside0.mk (HK.out.1.next hi5 hk5); clear hi5 hk5)
                          | (go_at_call 193; refine (nodeM_any lo2 it2 j xs4 _ HK5.out.it.it hjl).mono ?_; rintro e w6 ⟨rfl, rfl⟩; rw [HXC.out])
                          | (go_at_call 162; refine (nodeID_any _ _).mono ?_; rintro e w5 ⟨rfl, rfl⟩)
                          | (go_at_call 66; refine (HK5.out.weight rfl huc wu wc HY.out).mono ?_; rintro e w7 ⟨rfl, hk7⟩; have HK7 := Aside0.mk hk7; clear hk7))
                        go_roundw
                        case rel => exact ⟨j + 1, by omega, ⟨_, _, _, _, _, _, HK7.out, HSKP.out (fun ⟨z, h1, h2⟩ => by rw [HY.out] at h1; cases h1; rw [ho] at h2; cases h2), HK.out.2.2.1, HK.out.2.2.2.keep⟩⟩
                        case measure => rw [HK7.out.it.pos, hpos]; omega
                      | gt =>
                        have HCR := Aside0.mk (show carries g u c from ⟨y, HY.out, ho⟩)
                        obtain ⟨xu, hxu, hxu0⟩ := HK.out.2.1.uin
                        have hll5 := HK.out.2.1.b.ll
                        have hpl5 := HK.out.2.1.b.pl
                        have hrl5 : rows5.length = n := by rw [HK.out.1.sw.pt.len]; exact hpl5
                        obtain ⟨x, hx⟩ : ∃ x, lev5[c]? = some x := ⟨_, List.getElem?_eq_getElem (by omega)⟩
                        have hxb := HK.out.2.1.b.lo c x hx
                        have hxub := HK.out.2.1.b.lo u xu hxu
                        have hsn := seenN_le lev5
                        have HL5 := Aside0.mk (And.intro hx hxu)
                        have hwr : IntKind.i32.wrap (xu + 1) = xu + 1 := by simp [IntKind.wrap, IntKind.bits, IntKind.signed]; omega
                        have hcr : c < rows5.length := by omega
                        clear hx hxu
                        by_cases hx1 : x = -1
                        · have HX1 := Aside0.mk hx1
                          subst hx1
                          clear hxb
                          go_wp2_with (first
                            | (go_at_call 192; refine (nextX_any lo2 B2 it2 j xs4 _ HK.out.1.it hjl (by omega)).mono ?_; rintro e w5 ⟨rfl, hi5, hk5⟩; have HK5 := Aside0.mk (HK.out.1.next hi5 hk5); clear hi5 hk5)
                            | (go_at_call 193; first | (refine (nodeM_any lo2 it2 j xs4 _ HK10.out.it.it hjl).mono ?_; rintro e w6 ⟨rfl, rfl⟩; rw [HXC.out]) | (refine (nodeM_any lo2 it2 j xs4 _ HK5.out.it.it hjl).mono ?_; rintro e w6 ⟨rfl, rfl⟩; rw [HXC.out]))
                            | (go_at_call 162; refine (nodeID_any _ _).mono ?_; rintro e w5 ⟨rfl, rfl⟩)
                            | (go_at_call 66; refine (HK5.out.weight rfl huc wu wc HY.out).mono ?_; rintro e w7 ⟨rfl, hk7⟩; have HK7 := Aside0.mk hk7; clear hk7; obtain ⟨gg, cc0, hv, _, hcl, cur, hcur⟩ := own_cells HK7.out.sw.lvl (by omega); cases hv; have k1 : w7.cell? ⟨GL, c, none⟩ = some (.int .i32 (-1)) := hcl c _ (by unfold levV; rw [List.getElem?_map, HL5.out.1]; rfl); have k2 : w7.cell? ⟨GL, u, none⟩ = some (.int .i32 xu) := hcl u _ (by unfold levV; rw [List.getElem?_map, HL5.out.2]; rfl); have kf := blk_frozen hcur c; clear hcl hcur; have HK8 := Aside0.mk (HK7.out.level (c := c) (y := xu + 1) HL5.out.1 (by omega)); obtain ⟨Bc, cc, hBc, hmc⟩ := own_slice0 (HK8.out.sw.pt.row c hcr); obtain ⟨ps, hps⟩ : ∃ ps, par5.getD c [] = ps := ⟨_, rfl⟩; rw [hps] at hBc hmc; have k3 : (w7.setCell ⟨GL, c, none⟩ (.int .i32 (xu + 1))).cell? ⟨A, c, none⟩ = some (.slice Bc ps.length cc) := (by rw [blk_cell HK8.out.sw.pt.tab]; simp [hcr, hBc]); have kfa := blk_frozen HK8.out.sw.pt.tab c; have HROW := Aside0.mk (show (w7.setCell ⟨GL, c, none⟩ (.int .i32 (xu + 1))).ownsRow lo 2 1 (.slice Bc ps.length cc) ps.length (idV ps) from (by have := HK8.out.sw.pt.row c hcr; rw [hps, hBc] at this; exact this)); have HBC := Aside0.mk (And.intro hBc (And.intro hps (show ps.length ≤ 1000 from (by have := HK.out.2.2.2.1 c; rw [hps] at this; omega)))); clear hBc hps hmc)
                            | (at_builtin; refine wpList_append_own_at _ rfl _ _ 63 rfl lo 2 j0 (.int .i64 0) 1 8 Tryz.underlying63 HJ.out.1 HJ.out.2.1 HJ.out.2.2.1 HJ.out.2.2.2 rfl (by decide) _ ps.length (idV ps) rfl (World.ownsRow.alloc HROW.out _) ⟨w7.heap.size, 0, none⟩ 1 1 [.int .i64 (u : Int)] rfl rfl (by have := cell_one_new (w7.setCell ⟨GL, c, none⟩ (.int .i32 (xu + 1))) (.int .i64 (u : Int)) 2; simpa using this) (by intro v hv; simp at hv; subst hv; rfl) (by have := HBC.out.2.2; unfold maxLen; omega) (by have := HBC.out.2.2; omega) (by have := HK8.out.sw.size; simp at this ⊢; omega) ?_; intro v' w9 hown hgr _ hat; have hg0 := (World.grownBy_alloc (w7.setCell ⟨GL, c, none⟩ (.int .i32 (xu + 1))) (.cells #[.int .i64 (u : Int)] 2) (Value.slice Bc ps.length cc).ownBlock).trans hgr; have hA9 : w9.heap[A]? = some (.cells rows5.toArray 63 (0, 0)) := (hg0.block A (blk_lt HK8.out.sw.pt.tab) (fun e => HK8.out.sw.pt.apart hcr (by rw [HBC.out.1]; exact e.symm))).trans HK8.out.sw.pt.tab; have c9 : w9.cell? ⟨A, c, none⟩ = some (.slice Bc ps.length cc) := (by rw [blk_cell hA9]; simp [hcr, HBC.out.1]); have f9 := blk_frozen hA9 c; have HOW := Aside0.mk (And.intro hown (And.intro hg0 hat)); obtain ⟨A', c', hv'⟩ := own_slice HOW.out.1; subst hv'; clear hown hgr hat hg0 hA9; have HK10 := Aside0.mk (HK8.out.app hcr (l := ps ++ [u]) (v := .slice A' (ps.length + 1) c') (w1 := w9) (by rw [idV_append, List.length_append]; exact HOW.out.1) (by rw [HBC.out.1]; exact HOW.out.2.1) (by rw [HBC.out.1]; exact HOW.out.2.2.imp id (fun h => ⟨_, h, by simp⟩))))
                            | (go_at_call 68; refine (HK10.out.enq (c := c) hn (by rw [List.length_set]; exact hll5)).mono ?_; rintro e w11 ⟨rfl, st11, jk11, hk11⟩; have HK11 := Aside0.mk hk11; clear hk11))
                          go_roundw
                          case rel =>
                            have hps0 : ps = [] := by
                              have h1 := HK.out.2.1.b.un c HL5.out.1
                              have h2 := HBC.out.2.1
                              rw [List.getD_eq_getElem?_getD, h1] at h2
                              exact h2.symm
                            have hs1 := seenN_set lev5 c (xu + 1) HL5.out.1 (by omega)
                            have hs2 := seenN_le (lev5.set c (xu + 1))
                            rw [List.length_set] at hs2
                            refine ⟨j + 1, by omega, ⟨_, _, _, _, _, _, HK11.out, ?_, ?_, HK.out.2.2.2.put hjl HXC.out HBC.out.2.1 HND.out HNN.out⟩⟩
                            · rw [HTK.out, hps0]
                              exact (HK.out.2.1.found HL5.out.2 hxu0 HL5.out.1 HCR.out).skip (fun _ => ⟨xu + 1, List.getElem?_set_self (by omega), by omega⟩)
                            · have := HK.out.2.2.1
                              rw [hs1, List.length_append]
                              simp only [List.length_singleton]
                              omega
                          case measure => rw [HK11.out.it.pos, hpos]; omega
                        · by_cases hx2 : x = xu + 1
                          · have HX2 := Aside0.mk hx2
                            clear hxb hxub hsn
                            go_wp2_with (first
                              | (go_at_call 192; refine (nextX_any lo2 B2 it2 j xs4 _ HK.out.1.it hjl (by omega)).mono ?_; rintro e w5 ⟨rfl, hi5, hk5⟩; have HK5 := Aside0.mk (HK.out.1.next hi5 hk5); clear hi5 hk5)
                              | (go_at_call 193; refine (nodeM_any lo2 it2 j xs4 _ HK5.out.it.it hjl).mono ?_; rintro e w6 ⟨rfl, rfl⟩; rw [HXC.out])
                              | (go_at_call 162; refine (nodeID_any _ _).mono ?_; rintro e w5 ⟨rfl, rfl⟩)
                              | (go_at_call 66; refine (HK5.out.weight rfl huc wu wc HY.out).mono ?_; rintro e w7 ⟨rfl, hk7⟩; have HK7 := Aside0.mk hk7; clear hk7; obtain ⟨gg, cc0, hv, _, hcl, cur, hcur⟩ := own_cells HK7.out.sw.lvl (by omega); cases hv; have k1 : w7.cell? ⟨GL, c, none⟩ = some (.int .i32 x) := hcl c _ (by unfold levV; rw [List.getElem?_map, HL5.out.1]; rfl); have k2 : w7.cell? ⟨GL, u, none⟩ = some (.int .i32 xu) := hcl u _ (by unfold levV; rw [List.getElem?_map, HL5.out.2]; rfl); have kf := blk_frozen hcur c; clear hcl hcur))
                            go_region_held3 (fun w' => w'.cell? ⟨GL, c, none⟩ = some (.int .i32 x) ∧ w'.cell? ⟨GL, u, none⟩ = some (.int .i32 xu))
                              (go_keep)
                              (fail)
                            all_goals
                              have HK8 := Aside0.mk (HK7.out.below ((Below.refl w7.heap.size w7).drew))
                              obtain ⟨Bc, cc, hBc, hmc⟩ := own_slice0 (HK8.out.sw.pt.row c hcr)
                              obtain ⟨ps, hps⟩ : ∃ ps, par5.getD c [] = ps := ⟨_, rfl⟩
                              rw [hps] at hBc hmc
                              have k3 : w7.drew.cell? ⟨A, c, none⟩ = some (.slice Bc ps.length cc) := by rw [blk_cell HK8.out.sw.pt.tab]; simp [hcr, hBc]
                              have kfa := blk_frozen HK8.out.sw.pt.tab c
                              have HROW := Aside0.mk (show w7.drew.ownsRow lo 2 1 (.slice Bc ps.length cc) ps.length (idV ps) from by have := HK8.out.sw.pt.row c hcr; rw [hps, hBc] at this; exact this)
                              have HBC := Aside0.mk (And.intro hBc (And.intro hps (show ps.length ≤ 1000 from by have := HK.out.2.2.2.1 c; rw [hps] at this; omega)))
                              clear hBc hps hmc
                              go_wp2_with (at_builtin; refine wpList_append_own_at _ rfl _ _ 63 rfl lo 2 j0 (.int .i64 0) 1 8 Tryz.underlying63 HJ.out.1 HJ.out.2.1 HJ.out.2.2.1 HJ.out.2.2.2 rfl (by decide) _ ps.length (idV ps) rfl (World.ownsRow.alloc HROW.out _) ⟨w7.heap.size, 0, none⟩ 1 1 [.int .i64 (u : Int)] rfl rfl (by have := cell_one_new w7 (.int .i64 (u : Int)) 2; simpa using this) (by intro v hv; simp at hv; subst hv; rfl) (by have := HBC.out.2.2; unfold maxLen; omega) (by have := HBC.out.2.2; omega) (by have := HK8.out.sw.size; simp at this ⊢; omega) ?_; intro v' w9 hown hgr _ hat; have hg0 := (World.grownBy_alloc (w7.drew) (.cells #[.int .i64 (u : Int)] 2) (Value.slice Bc ps.length cc).ownBlock).trans hgr; have hA9 : w9.heap[A]? = some (.cells rows5.toArray 63 (0, 0)) := (hg0.block A (blk_lt HK8.out.sw.pt.tab) (fun e => HK8.out.sw.pt.apart hcr (by rw [HBC.out.1]; exact e.symm))).trans HK8.out.sw.pt.tab; have c9 : w9.cell? ⟨A, c, none⟩ = some (.slice Bc ps.length cc) := (by rw [blk_cell hA9]; simp [hcr, HBC.out.1]); have f9 := blk_frozen hA9 c; have HOW := Aside0.mk (And.intro hown (And.intro hg0 hat)); obtain ⟨A', c', hv'⟩ := own_slice HOW.out.1; subst hv'; clear hown hgr hat hg0 hA9)
                              have HK10 := Aside0.mk (HK8.out.app hcr (l := ps ++ [u]) (v := .slice A' (ps.length + 1) c') (w1 := w9) (by rw [idV_append, List.length_append]; exact HOW.out.1) (by rw [HBC.out.1]; exact HOW.out.2.1) (by rw [HBC.out.1]; exact HOW.out.2.2.imp id (fun h => ⟨_, h, by simp⟩)))
                              go_roundw
                              case rel =>
                                refine ⟨j + 1, by omega, ⟨_, _, _, _, _, _, HK10.out, ?_, HK.out.2.2.1, HK.out.2.2.2.put hjl HXC.out HBC.out.2.1 HND.out HNN.out⟩⟩
                                rw [HTK.out]
                                refine HK.out.2.1.more HL5.out.2 hxu0 (by rw [← HX2.out]; exact HL5.out.1) ?_
                                have := HBC.out.2.1
                                rw [List.getD_eq_getElem?_getD, List.getElem?_eq_getElem (by omega)] at this
                                rw [List.getElem?_eq_getElem (by omega)]
                                exact congrArg some this
                              case measure => rw [HK10.out.it.pos, hpos]; omega
                          · have HLT := Aside0.mk (show lit lev5 c from ⟨x, HL5.out.1, by rcases hxb with e | e; exact absurd e hx1; exact e.1⟩)
                            clear hxb hxub hsn
                            go_wp2_with (first
                              | (go_at_call 192; refine (nextX_any lo2 B2 it2 j xs4 _ HK.out.1.it hjl (by omega)).mono ?_; rintro e w5 ⟨rfl, hi5, hk5⟩; have HK5 := Aside0.mk (HK.out.1.next hi5 hk5); clear hi5 hk5)
                              | (go_at_call 193; refine (nodeM_any lo2 it2 j xs4 _ HK5.out.it.it hjl).mono ?_; rintro e w6 ⟨rfl, rfl⟩; rw [HXC.out])
                              | (go_at_call 162; refine (nodeID_any _ _).mono ?_; rintro e w5 ⟨rfl, rfl⟩)
                              | (go_at_call 66; refine (HK5.out.weight rfl huc wu wc HY.out).mono ?_; rintro e w7 ⟨rfl, hk7⟩; have HK7 := Aside0.mk hk7; clear hk7; obtain ⟨gg, cc0, hv, _, hcl, cur, hcur⟩ := own_cells HK7.out.sw.lvl (by omega); cases hv; have k1 : w7.cell? ⟨GL, c, none⟩ = some (.int .i32 x) := hcl c _ (by unfold levV; rw [List.getElem?_map, HL5.out.1]; rfl); have k2 : w7.cell? ⟨GL, u, none⟩ = some (.int .i32 xu) := hcl u _ (by unfold levV; rw [List.getElem?_map, HL5.out.2]; rfl); have kf := blk_frozen hcur c; clear hcl hcur))
                            go_region_held3 (fun w' => w'.cell? ⟨GL, c, none⟩ = some (.int .i32 x) ∧ w'.cell? ⟨GL, u, none⟩ = some (.int .i32 xu))
                              (go_keep)
                              (fail)
                            all_goals
                              go_wp2_with fail
                              have HK9 := Aside0.mk (HK7.out.below ((Below.refl w7.heap.size w7).drew))
                              go_roundw
                              case rel => exact ⟨j + 1, by omega, ⟨_, _, _, _, _, _, HK9.out, HSKP.out (fun _ => HLT.out), HK.out.2.2.1, HK.out.2.2.2.keep⟩⟩
                              case measure => rw [HK9.out.it.pos, hpos]; omega
                    · have hje : xs4.length = j := by omega
                      have HIT := Aside0.mk (show MIt 179 lo2 _ it2 xs4 xs4.length from by have := HK.out.1.it.it; rw [← hje] at this; exact this)
                      go_wp2_with (go_at_call 192; refine (nextM_end lo2 it2 xs4 _ HIT.out (by omega)).mono ?_; rintro e w5 ⟨rfl, hb5⟩; have HK5 := Aside0.mk (HK.out.1.below hb5); clear hb5)
                      go_roundg gk
                      case measure => omega
                      case rel => exact ⟨_, _, _, _, _, _, HK5.out.sw, HK.out.2.1.done (fun c hc => by have := HXA.out c hc; rw [← hje, List.take_length]; exact this), HK.out.2.2.1, HK.out.2.2.2.1, fun l h => by simp at h⟩
end Go.Proofs.YthkmblgehdofmaaGreat.R

/- The ends of a node's arcs, and what find tells. -/
namespace Go.Proofs.YthkmblgehdofmaaGreat.R
open Go.RowKit Go.Lab
theorem rank_ofGet {ids : List Int} (h : ids.Pairwise (· < ·)) (i : Nat) (hi : i < ids.length) : rank ids ids[i] = i := by
  have h1 := rank_lt h ids[i] i hi
  have h2 : ¬ i < rank ids ids[i] := by rw [← h1]; omega
  by_cases h0 : i = 0
  · omega
  · have h3 := rank_lt h ids[i] (i - 1) (by omega)
    have h4 := (List.pairwise_iff_getElem.1 h) (i - 1) i (by omega) hi (by omega)
    have := h3.1 h4
    omega
theorem find_some {p : Pl} (hg : p.Good) {u v : Int} : (p.find u v).isSome = true ↔ u ∈ p.ids ∧ v ∈ p.ids ∧ ((rank p.ids v : Nat) : Int) ∈ keys (p.row u) := by
  unfold Pl.find
  by_cases hc : u ∈ p.ids ∧ v ∈ p.ids ∧ ((rank p.ids v : Nat) : Int) ∈ keys (p.row u)
  · rw [if_pos hc]
    obtain ⟨hr, _⟩ := (rank_mem (hg.out _).1 _).1 hc.2.2
    rw [keys_length] at hr
    have : (p.row u)[rank (keys (p.row u)) ((rank p.ids v : Nat) : Int)]? = some (p.row u)[rank (keys (p.row u)) ((rank p.ids v : Nat) : Int)] := List.getElem?_eq_getElem hr
    rw [this]
    exact ⟨fun _ => hc, fun _ => rfl⟩
  · rw [if_neg hc]
    exact ⟨fun h => (by cases h), fun h => absurd h hc⟩
theorem ends_mem {p : Pl} (hs : p.ids.Pairwise (· < ·)) (hg : p.Good) {u v : Int} (hu : u ∈ p.ids) : v ∈ endsN p.ids (p.row u) ↔ (p.find u v).isSome = true := by
  rw [find_some hg]
  unfold endsN
  rw [List.mem_map]
  have hb : ∀ a ∈ p.row u, 0 ≤ a.1 ∧ a.1 < p.ids.length := fun a ha => (hg.out _).2 a ha
  constructor
  · rintro ⟨a, ha, rfl⟩
    obtain ⟨b1, b2⟩ := hb a ha
    have hlt : a.1.toNat < p.ids.length := by omega
    have e : p.ids.getD a.1.toNat 0 = p.ids[a.1.toNat] := by simp [List.getD_eq_getElem?_getD, hlt]
    rw [e, rank_ofGet hs _ hlt]
    refine ⟨hu, List.getElem_mem hlt, ?_⟩
    unfold keys
    exact List.mem_map.2 ⟨a, ha, by omega⟩
  · rintro ⟨_, hv, hk⟩
    unfold keys at hk
    obtain ⟨a, ha, e⟩ := List.mem_map.1 hk
    obtain ⟨hr, hre⟩ := (rank_mem hs v).1 hv
    refine ⟨a, ha, ?_⟩
    have e2 : a.1.toNat = rank p.ids v := by omega
    rw [e2, List.getD_eq_getElem?_getD, List.getElem?_eq_getElem hr]
    exact hre
theorem ends_nodup {p : Pl} (hs : p.ids.Pairwise (· < ·)) (hg : p.Good) (u : Int) : (endsN p.ids (p.row u)).Nodup := by
  have h1 := (hg.out (rank p.ids u)).1
  have hb : ∀ a ∈ p.row u, 0 ≤ a.1 ∧ a.1 < p.ids.length := fun a ha => (hg.out _).2 a ha
  unfold endsN
  have h1' : (p.row u).Pairwise fun a b => a.1 < b.1 := List.pairwise_map.1 h1
  refine List.pairwise_map.2 (h1'.imp_of_mem fun {a b} ha hbb hab e => ?_)
  obtain ⟨a1, a2⟩ := hb a ha
  obtain ⟨b1, b2⟩ := hb b hbb
  have l1 : a.1.toNat < p.ids.length := by omega
  have l2 : b.1.toNat < p.ids.length := by omega
  have := (List.pairwise_iff_getElem.1 hs) a.1.toNat b.1.toNat l1 l2 (by omega)
  rw [List.getD_eq_getElem?_getD, List.getD_eq_getElem?_getD, List.getElem?_eq_getElem l1, List.getElem?_eq_getElem l2] at e
  simp at e
  omega
end Go.Proofs.YthkmblgehdofmaaGreat.R

/- The residual graph of a flow: what stands in it, arc by arc. -/
namespace Go.Proofs.YthkmblgehdofmaaGreat.R
open Go.RowKit Go.Lab Go.Maps Go.MV

/-- the residuals, once the arcs of Pr are in -/
def edI (p : Pl) (Pr : Int → Int → Bool) (a c : Int) : Option Nat := if Pr a c = true then (p.find a c).map (·.2) else if Pr c a = true then some 0 else none
def addP (Pr : Int → Int → Bool) (u v : Int) : Int → Int → Bool := fun a c => Pr a c || (decide (a = u) && decide (c = v))
theorem edI_back {p : Pl} {Pr : Int → Int → Bool} (hin : ∀ a c, Pr a c = true → (p.find a c).isSome = true) {u v : Int} (h : Pr u v = false) : (edI p Pr v u).isSome = Pr v u := by
  unfold edI
  rw [h]
  cases e : Pr v u with
  | true =>
    obtain ⟨x, hx⟩ := Option.isSome_iff_exists.1 (hin v u e)
    rw [hx]; rfl
  | false => rfl
theorem edI_there {p : Pl} {Pr : Int → Int → Bool} {u v : Int} (huv : u ≠ v) {x : Int × Nat} (hx : p.find u v = some x) (h : Pr u v = false) (hb : Pr v u = true) (a c : Int) :
    (if a = u ∧ c = v then some x.2 else edI p Pr a c) = edI p (addP Pr u v) a c := by
  unfold edI addP
  by_cases e1 : a = u ∧ c = v
  · obtain ⟨rfl, rfl⟩ := e1
    rw [if_pos ⟨rfl, rfl⟩, hx]
    simp
  · rw [if_neg e1]
    have n1 : (decide (a = u) && decide (c = v)) = false := by
      rw [Bool.and_eq_false_iff, decide_eq_false_iff_not, decide_eq_false_iff_not]
      by_cases q : a = u
      · exact .inr (fun q2 => e1 ⟨q, q2⟩)
      · exact .inl q
    rw [n1, Bool.or_false]
    by_cases e2 : c = u ∧ a = v
    · obtain ⟨rfl, rfl⟩ := e2
      rw [hb]
      simp
    · have n2 : (decide (c = u) && decide (a = v)) = false := by
        rw [Bool.and_eq_false_iff, decide_eq_false_iff_not, decide_eq_false_iff_not]
        by_cases q : c = u
        · exact .inr (fun q2 => e2 ⟨q, q2⟩)
        · exact .inl q
      rw [n2, Bool.or_false]
theorem edI_new {p : Pl} {Pr : Int → Int → Bool} {u v : Int} (huv : u ≠ v) {x : Int × Nat} (hx : p.find u v = some x) (h : Pr u v = false) (hb : Pr v u = false) (a c : Int) :
    (if a = v ∧ c = u then some 0 else if a = u ∧ c = v then some x.2 else edI p Pr a c) = edI p (addP Pr u v) a c := by
  unfold edI addP
  by_cases e2 : a = v ∧ c = u
  · obtain ⟨rfl, rfl⟩ := e2
    rw [if_pos ⟨rfl, rfl⟩, hb, h]
    have : (decide (a = c) && decide (c = a)) = false := by simp [Ne.symm huv]
    rw [this]
    simp
  · rw [if_neg e2]
    by_cases e1 : a = u ∧ c = v
    · obtain ⟨rfl, rfl⟩ := e1
      rw [if_pos ⟨rfl, rfl⟩, hx]
      simp
    · rw [if_neg e1]
      have n1 : (decide (a = u) && decide (c = v)) = false := by
        rw [Bool.and_eq_false_iff, decide_eq_false_iff_not, decide_eq_false_iff_not]
        by_cases q : a = u
        · exact .inr (fun q2 => e1 ⟨q, q2⟩)
        · exact .inl q
      have n2 : (decide (c = u) && decide (a = v)) = false := by
        rw [Bool.and_eq_false_iff, decide_eq_false_iff_not, decide_eq_false_iff_not]
        by_cases q : c = u
        · exact .inr (fun q2 => e2 ⟨q2, q⟩)
        · exact .inl q
      rw [n1, n2, Bool.or_false, Bool.or_false]
/-- the arcs of the first i nodes, and the first j of u's ends -/
def PrI (p : Pl) (i : Nat) (u : Int) (xs : List Int) (j : Nat) : Int → Int → Bool := fun a c => (decide (a ∈ p.ids.take i) && (p.find a c).isSome) || (decide (a = u) && decide (c ∈ xs.take j))
theorem dec_take {l : List Int} {i : Nat} (hi : i < l.length) (c : Int) : decide (c ∈ l.take (i + 1)) = (decide (c ∈ l.take i) || decide (c = l[i])) := by
  rw [Bool.eq_iff_iff, Bool.or_eq_true, decide_eq_true_iff, decide_eq_true_iff, decide_eq_true_iff, List.take_succ_eq_append_getElem hi, List.mem_append, List.mem_singleton]
theorem PrI_step {p : Pl} {i : Nat} {u : Int} {xs : List Int} {j : Nat} (hj : j < xs.length) : PrI p i u xs (j + 1) = addP (PrI p i u xs j) u xs[j] := by
  funext a c
  unfold PrI addP
  dsimp only
  rw [dec_take hj]
  generalize (decide (a ∈ p.ids.take i) && (p.find a c).isSome) = x
  generalize decide (a = u) = y
  generalize decide (c ∈ xs.take j) = z
  generalize decide (c = xs[j]) = t
  cases x <;> cases y <;> cases z <;> cases t <;> rfl
theorem PrI_start {p : Pl} {i : Nat} {u : Int} {xs : List Int} : PrI p i u xs 0 = PrI p i 0 [] 0 := by
  funext a c
  unfold PrI
  simp
theorem PrI_next {p : Pl} {i : Nat} {xs : List Int} (hi : i < p.ids.length) (hx : ∀ v, v ∈ xs ↔ (p.find p.ids[i] v).isSome = true) : PrI p i p.ids[i] xs xs.length = PrI p (i + 1) 0 [] 0 := by
  funext a c
  unfold PrI
  rw [dec_take hi, List.take_length]
  have h0 : decide (c ∈ ([] : List Int).take 0) = false := rfl
  rw [h0, Bool.and_false, Bool.or_false]
  by_cases e : a = p.ids[i]
  · have h1 : decide (c ∈ xs) = (p.find a c).isSome := by
      rw [Bool.eq_iff_iff, decide_eq_true_iff, e]; exact hx c
    rw [h1, decide_eq_true e]
    generalize decide (a ∈ p.ids.take i) = x
    generalize (p.find a c).isSome = y
    cases x <;> cases y <;> rfl
  · rw [decide_eq_false e, Bool.false_and, Bool.or_false, Bool.or_false]
theorem PrI_in {p : Pl} {i j : Nat} {u : Int} {xs : List Int} (hx : ∀ v ∈ xs, (p.find u v).isSome = true) (a c : Int) (h : PrI p i u xs j a c = true) : (p.find a c).isSome = true := by
  unfold PrI at h
  rw [Bool.or_eq_true, Bool.and_eq_true, Bool.and_eq_true, decide_eq_true_iff, decide_eq_true_iff, decide_eq_true_iff] at h
  rcases h with ⟨_, h⟩ | ⟨rfl, h⟩
  · exact h
  · exact hx c (List.mem_of_mem_take h)
theorem PrI_not {p : Pl} {i j : Nat} {xs : List Int} (hs : p.ids.Pairwise (· < ·)) (hi : i < p.ids.length) (hn : xs.Nodup) (hj : j < xs.length) : PrI p i p.ids[i] xs j p.ids[i] xs[j] = false := by
  unfold PrI
  have h1 : p.ids[i] ∉ p.ids.take i := fun hm => by
    obtain ⟨k, hk, e⟩ := List.mem_iff_getElem.1 hm
    rw [List.length_take] at hk
    rw [List.getElem_take] at e
    have := (List.pairwise_iff_getElem.1 hs) k i (by omega) hi (by omega)
    omega
  have h2 : xs[j] ∉ xs.take j := fun hm => by
    obtain ⟨k, hk, e⟩ := List.mem_iff_getElem.1 hm
    rw [List.length_take] at hk
    rw [List.getElem_take] at e
    exact (List.pairwise_iff_getElem.1 hn) k j (by omega) hj (by omega) e
  rw [decide_eq_false h1, decide_eq_false h2]
  simp
theorem SG.Out.set {g g' : GS} {lo B s : Nat} (h : SG.Out g lo B) (h1 : g'.gG = g.gG) (h2 : g'.gu = g.gu) (h3 : ∀ k ∈ g'.maps, k ∈ g.maps ∨ s ≤ k) (hs : B ≤ s) : SG.Out g' lo B :=
  ⟨by rw [h1]; exact h.1, by rw [h2]; exact h.2.1, fun k hk => (h3 k hk).elim (h.2.2 k) (fun e => .inr (by omega))⟩
end Go.Proofs.YthkmblgehdofmaaGreat.R
