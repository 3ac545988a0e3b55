import Derived.Test.YtolbfjjgdheikaaGreatCK4
set_option linter.unusedVariables false
set_option linter.unusedSimpArgs false
/- What is done behind each walk: the part is laid down. -/
namespace Go.Proofs.YtolbfjjgdheikaaGreat.R
open Go.RowKit Go.Lab Go.Maps Go.Proofs.YtolbfjjgdheikaaGreatW.PrintWords Go.Proofs.YtolbfjjgdheikaaGreatW.PrintLast Go.Proofs.YtolbfjjgdheikaaGreatW.PrintMore PL

theorem Tryz.info22 : (Tryz.prog.info? 22).map (fun i => (i.zero, i.size, i.bytes)) = some (some (.slice none 0 0), 1, 24) := by kernel_rfl
theorem Tryz.info68 : (Tryz.prog.info? 68).map (fun i => (i.zero, i.size, i.bytes)) = some (some (.slice none 0 0), 1, 24) := by kernel_rfl

theorem src_own {w : World} {lo : Nat} {e : TypeId} {A : Option Addr} {n c : Nat} {xs : List Value} (h : w.ownsRow lo e 1 (.slice A n c) n xs) : 0 < n → ∃ ad, A = some ad ∧ ∀ j u, xs[j]? = some u → w.cell? (ad.add j) = some u := fun h0 => by
  rcases h.2 with ⟨_, h2⟩ | ⟨g, cap, cur, hv, _⟩
  · omega
  · simp only [Value.slice.injEq] at hv
    obtain ⟨rfl, _, rfl⟩ := hv
    exact ⟨_, rfl, h.cells rfl⟩
theorem nodeVs_one (xs : List Int) : ∀ u ∈ nodeVs xs, u.oneCell' = true := by
  intro u hu
  unfold nodeVs at hu
  obtain ⟨x, _, rfl⟩ := List.mem_map.1 hu
  rfl

set_option maxHeartbeats 8000000 in
set_option maxRecDepth 100000 in
theorem after56 (lo gv gl : Nat) : AfterOk kpN 60 lo gv gl 56 := by
  intro w vv lv rows ps pt hg hr hsep hpt0 hpt hps hlo hgv hgl
  obtain ⟨A, c, rfl⟩ := own_slice hr.own
  have hneT : gl ≠ gv := fun e => by subst e; exact absurd (blk_type hr.blk hg.blk) (by decide)
  have h2 : w.cell? ⟨gl, 0, none⟩ = some (.slice A rows.length c) := (blk_cell hr.blk 0).trans rfl
  have h3 : w.cell? ⟨gv, 0, none⟩ = some vv := (blk_cell hg.blk 0).trans rfl
  obtain ⟨A2, c2, rfl⟩ := own_slice hg.own
  have hgl2 := blk_lt hr.blk
  have hgv2 := blk_lt hg.blk
  have hlvne : ∀ k, (Value.slice A rows.length c).ownBlock = some k → lo ≤ k := fun k hk => own_base hr.own k hk
  have HR := Aside0.mk hr
  have HG := Aside0.mk hg
  have HB := Aside0.mk hlvne
  have hrl : rows.length ≤ 10000000 := by rw [hr.len]; exact hps
  obtain ⟨i0, hi, hz0, hz1, hz2⟩ := info_parts Tryz.info68
  have HI := Aside0.mk (And.intro hi (And.intro hz0 (And.intro hz1 hz2)))
  clear hr hg hi hz0 hz1 hz2 hlvne
  go_enter Tryz.func56, Tryz.ntmps56
  go_wp2_with (at_builtin; refine wpList_append_own_at _ rfl _ _ 60 rfl lo 68 i0 (.slice none 0 0) 1 24 Tryz.underlying60 HI.out.1 HI.out.2.1 HI.out.2.2.1 HI.out.2.2.2 rfl (by decide) _ rows.length rows rfl (World.ownsRow.alloc HR.out.own _) ⟨w.heap.size, 0, none⟩ 1 1 [.slice none 0 0] rfl rfl (cell_one_new _ _ _) ?q2 ?q3 ?q4 ?q5 ?_)
  case q2 => intro u hu; simp at hu; subst hu; rfl
  case q3 => unfold maxLen; omega
  case q4 => omega
  case q5 => simp; omega
  intro v' w1 hown hgr _ hat
  obtain ⟨g, cap, rfl, hcap, hcell, hcur⟩ := own_cells hown (by omega)
  have hg0 := (World.grownBy_alloc w (.cells #[.slice none 0 0] 68) (Value.slice A rows.length c).ownBlock).trans hgr
  have hblk := (hg0.block gl hgl2 (fun e => by have := HB.out gl e.symm; omega)).trans HR.out.blk
  have hblkv := (hg0.block gv hgv2 (fun e => by have := HB.out gv e.symm; omega)).trans HG.out.blk
  have hc2 : w1.cell? ⟨gl, 0, none⟩ = some (.slice A rows.length c) := (blk_cell hblk 0).trans rfl
  have hf2 := blk_frozen hblk 0
  have HX := Aside0.mk (And.intro hown (And.intro hg0 (And.intro hat (And.intro hblk hblkv))))
  have gb := own_base hown g rfl
  have glt := own_lt hown g rfl
  have hlast : (rows ++ [Value.slice none 0 0])[rows.length]? = some (.slice none 0 0) := by simp
  have hcn := hcell rows.length _ hlast
  have hnl : g ≠ gl := by omega
  have hnv : g ≠ gv := by omega
  have hwl := hg0.size
  clear hown hgr hg0 hat hcell hlast
  go_wp2_with fail
  have q1 : (w1.setCell ⟨gl, 0, none⟩ (.slice (some ⟨g, 0, none⟩) (rows.length + 1) cap)).heap[gl]? = some (.cells #[.slice (some ⟨g, 0, none⟩) (rows.length + 1) cap] 60 (0, 0)) := blk_put (cs := #[.slice A rows.length c]) hblk 0 _ rfl
  have q2 : (w1.setCell ⟨gl, 0, none⟩ (.slice (some ⟨g, 0, none⟩) (rows.length + 1) cap)).heap[gv]? = some (.cells #[.slice A2 pt.length c2] kpN.T (0, 0)) := (Below.heap_setCell _ _ _ _ (fun e => hneT e.symm)).trans hblkv
  have q3 : (w1.setCell ⟨gl, 0, none⟩ (.slice (some ⟨g, 0, none⟩) (rows.length + 1) cap)).heap[g]? = w1.heap[g]? := Below.heap_setCell _ _ _ _ hnl
  have q4 : (w1.setCell ⟨gl, 0, none⟩ (.slice (some ⟨g, 0, none⟩) (rows.length + 1) cap)).heap.size = w1.heap.size := by simp
  have HQ := Aside0.mk (show (w1.setCell ⟨gl, 0, none⟩ (.slice (some ⟨g, 0, none⟩) (rows.length + 1) cap)).os = w1.os ∧ (w1.setCell ⟨gl, 0, none⟩ (.slice (some ⟨g, 0, none⟩) (rows.length + 1) cap)).tape = w1.tape ∧ (w1.setCell ⟨gl, 0, none⟩ (.slice (some ⟨g, 0, none⟩) (rows.length + 1) cap)).output = w1.output ∧ (∀ k, k ≠ gl → (w1.setCell ⟨gl, 0, none⟩ (.slice (some ⟨g, 0, none⟩) (rows.length + 1) cap)).heap[k]? = w1.heap[k]?) from ⟨rfl, rfl, rfl, fun k hk => Below.heap_setCell _ _ _ _ hk⟩)
  generalize w1.setCell ⟨gl, 0, none⟩ (.slice (some ⟨g, 0, none⟩) (rows.length + 1) cap) = W2 at q1 q2 q3 q4 HQ ⊢
  obtain ⟨cur, hcur⟩ := hcur
  have hgW : W2.heap[g]? = some (.cells cur 68 (0, 0)) := q3.trans hcur
  have c1 : W2.cell? ⟨gl, 0, none⟩ = some (.slice (some ⟨g, 0, none⟩) (rows.length + 1) cap) := (blk_cell q1 0).trans rfl
  have c3 : W2.cell? ⟨gv, 0, none⟩ = some (.slice A2 pt.length c2) := (blk_cell q2 0).trans rfl
  have c4 : W2.cell? ⟨g, rows.length, none⟩ = some (.slice none 0 0) := by rw [World.cell?_of_block q3]; exact hcn
  have f4 : W2.frozen? ⟨g, rows.length, none⟩ = false := blk_frozen hgW _
  have hLW : lo ≤ W2.heap.size := by omega
  have hgl3 := blk_lt q1
  have hgv3 := blk_lt q2
  have hg3 := blk_lt hgW
  have HV := Aside0.mk (show W2.ownsRow lo 72 1 (.slice A2 pt.length c2) pt.length (nodeVs pt) from own_of_heap (show w.ownsRow lo 72 1 (.slice A2 pt.length c2) pt.length (nodeVs pt) from HG.out.own) fun k hk => by
    obtain ⟨cc, hcc⟩ := own_block (show w.ownsRow lo 72 1 (.slice A2 pt.length c2) pt.length (nodeVs pt) from HG.out.own) hk
    have hb := own_base (show w.ownsRow lo 72 1 (.slice A2 pt.length c2) pt.length (nodeVs pt) from HG.out.own) k hk
    rw [HQ.out.2.2.2 k (by omega)]
    refine HX.out.2.1.block k (blk_lt hcc) (fun e => ?_)
    obtain ⟨c9, hc9⟩ := own_block HR.out.own e.symm
    exact absurd (blk_type hcc hc9) (by decide))
  have HK := Aside0.mk (And.intro q1 (And.intro q2 hgW))
  clear q1 q2 q3 hcn hc2 hf2 hblk hblkv hcur hgW
  obtain ⟨j0, gi, gz0, gz1, gz2⟩ := info_parts Tryz.info72
  have HJ := Aside0.mk (And.intro gi (And.intro gz0 (And.intro gz1 gz2)))
  clear gi gz0 gz1 gz2
  obtain ⟨m, hm⟩ : ∃ m, rows.length + 1 = m := ⟨_, rfl⟩
  rw [hm] at c1 hcap
  have hwm : IntKind.i64.wrap ((m : Int) - 1) = (rows.length : Int) := by rw [IntKind.wrap_i64]; omega
  have hi1 : (0 : Int) ≤ (rows.length : Int) := by omega
  have hi2 : (rows.length : Int) < (m : Int) := by omega
  refine wp_region_held_drew (S := (fun w' => w'.cell? ⟨gl, 0, none⟩ = some (.slice (some ⟨g, 0, none⟩) m cap) ∧ w'.cell? ⟨gv, 0, none⟩ = some (.slice A2 pt.length c2) ∧ w'.frozen? ⟨g, rows.length, none⟩ = false)) (by kernel_rfl) ?_ (fun hHeld => ?_)
  · (try dsimp only); first | done | go_keep
  refine wpAnyH_take (i := 0) (oi := _) (v := ?_) rfl (by kernel_rfl) (by kernel_rfl) (by kernel_rfl) (fun _ _ _ h => h) (Or.inl ⟨by rfl, ?_⟩) (by assumption) ?_
  rotate_left
  · intro w hSw; (try dsimp only at hSw); go_simp; with_reducible rfl
  (try dsimp only); try simp only [Act.put, List.setIfInBounds_toArray, List.set_cons_zero, List.set_cons_succ]
  refine wpAnyH_take (i := 1) (oi := _) (v := ?_) rfl (by kernel_rfl) (by kernel_rfl) (by kernel_rfl) (fun _ _ _ h => h) (Or.inl ⟨by rfl, ?_⟩) (by assumption) ?_
  rotate_left
  · intro w hSw; (try dsimp only at hSw); go_simp; with_reducible rfl
  (try dsimp only); try simp only [Act.put, List.setIfInBounds_toArray, List.set_cons_zero, List.set_cons_succ]
  refine wpAnyH_take (i := 2) (oi := _) (v := ?_) rfl (by kernel_rfl) (by kernel_rfl) (by kernel_rfl) (fun _ _ _ h => h) (Or.inl ⟨by rfl, ?_⟩) (by assumption) ?_
  rotate_left
  · intro w hSw; (try dsimp only at hSw); go_simp; with_reducible rfl
  (try dsimp only); try simp only [Act.put, List.setIfInBounds_toArray, List.set_cons_zero, List.set_cons_succ]
  refine wpAnyH_take (i := 3) (oi := _) (v := ?_) rfl (by kernel_rfl) (by kernel_rfl) (by kernel_rfl) (fun _ _ _ h => h) (Or.inl ⟨by rfl, ?_⟩) (by assumption) ?_
  rotate_left
  · intro w hSw; (try dsimp only at hSw); go_simp; with_reducible rfl
  (try dsimp only); try simp only [Act.put, List.setIfInBounds_toArray, List.set_cons_zero, List.set_cons_succ]
  refine wpAnyH_take (i := 4) (oi := _) (v := ?_) rfl (by kernel_rfl) (by kernel_rfl) (by kernel_rfl) (fun _ _ _ h => h) (Or.inl ⟨by rfl, ?_⟩) (by assumption) ?_
  rotate_left
  · intro w hSw; (try dsimp only at hSw); go_simp; with_reducible rfl
  (try dsimp only); try simp only [Act.put, List.setIfInBounds_toArray, List.set_cons_zero, List.set_cons_succ]
  refine wpAnyH_take (i := 5) (oi := _) (v := ?_) rfl (by kernel_rfl) (by kernel_rfl) (by kernel_rfl) (fun _ _ _ h => h) (Or.inl ⟨by rfl, ?_⟩) (by assumption) ?_
  rotate_left
  · intro w hSw; (try dsimp only at hSw); go_simp; with_reducible rfl
  (try dsimp only); try simp only [Act.put, List.setIfInBounds_toArray, List.set_cons_zero, List.set_cons_succ]
  refine wpAnyH_take (i := 6) (oi := _) (v := ?_) rfl (by kernel_rfl) (by kernel_rfl) (by kernel_rfl) (fun _ _ _ h => h) (Or.inl ⟨by rfl, ?_⟩) (by assumption) ?_
  rotate_left
  · intro w hSw; (try dsimp only at hSw); go_simp; with_reducible rfl
  (try dsimp only); try simp only [Act.put, List.setIfInBounds_toArray, List.set_cons_zero, List.set_cons_succ]
  refine wpAnyH_take (i := 7) (oi := _) (v := ?_) rfl (by kernel_rfl) (by kernel_rfl) (by kernel_rfl) (fun _ _ _ h => h) (Or.inl ⟨by rfl, ?_⟩) (by assumption) ?_
  rotate_left
  · intro w hSw; (try dsimp only at hSw); go_simp; with_reducible rfl
  (try dsimp only); try simp only [Act.put, List.setIfInBounds_toArray, List.set_cons_zero, List.set_cons_succ]
  refine wpAnyH_take (i := 8) (oi := _) (v := ?_) rfl (by kernel_rfl) (by kernel_rfl) (by kernel_rfl) (fun _ _ _ h => h) (Or.inl ⟨by rfl, ?_⟩) (by assumption) ?_
  rotate_left
  · intro w hSw; (try dsimp only at hSw); go_simp; with_reducible rfl
  (try dsimp only); try simp only [Act.put, List.setIfInBounds_toArray, List.set_cons_zero, List.set_cons_succ]
  refine wpAnyH_take (i := 10) (oi := _) (v := ?_) rfl (by kernel_rfl) (by kernel_rfl) (by kernel_rfl) (fun _ _ _ h => h) (Or.inl ⟨by rfl, ?_⟩) (by assumption) ?_
  rotate_left
  · intro w hSw; (try dsimp only at hSw); go_simp; with_reducible rfl
  (try dsimp only); try simp only [Act.put, List.setIfInBounds_toArray, List.set_cons_zero, List.set_cons_succ]
  refine wpAnyH_ready (rs := [9]) (by kernel_rfl) (by simp) ?_
  refine AllReadyH.cons rfl (fun K hK => ?_) AllReadyH.nil
  go_simp
  refine hK.out _ _ (by (try dsimp only); first | done | go_keep) (fun hHeld2 => ?_)
  clear hK K; clear hHeld; have hHeld := hHeld2; clear hHeld2; try simp only [Act.put, List.setIfInBounds_toArray, List.set_cons_zero, List.set_cons_succ]
  refine wpAnyH_ready (rs := [11]) (by kernel_rfl) (by simp) ?_
  refine AllReadyH.cons rfl (fun K hK => ?_) AllReadyH.nil
  refine step_append_src (by rfl) _ _ _ (by rfl) lo 72 j0 _ 1 16 Tryz.underlying68 HJ.out.1 HJ.out.2.1 HJ.out.2.2.1 HJ.out.2.2.2 rfl (by omega) (.slice none 0 0) 0 [] (by rfl) (by exact World.ownsRow_nil _ _ _ _) A2 pt.length c2 (nodeVs pt) (by rfl) (by rw [nodeVs_len, Nat.mul_one]) (by exact src_own (HV.out.drew)) (by exact nodeVs_one pt) (by unfold maxLen; omega) (by omega) (by simp; omega) ?_; intro v4 w4 hown4 hgr4 hat4; rw [Nat.zero_add, List.nil_append] at hown4; obtain ⟨A4, C4, rfl⟩ := own_slice hown4; have c5 := (World.cell?_of_block (hgr4.block g (by simp; omega) (by simp [Value.ownBlock]))).trans c4
  refine hK.out _ _ (by (try dsimp only); exact ⟨(World.cell?_of_block (hgr4.block gl (by simp; omega) (by simp [Value.ownBlock]))).trans c1, (World.cell?_of_block (hgr4.block gv (by simp; omega) (by simp [Value.ownBlock]))).trans c3, blk_frozen ((hgr4.block g (by simp; omega) (by simp [Value.ownBlock])).trans HK.out.2.2) _⟩) (fun hHeld2 => ?_)
  clear hK K; clear hHeld; have hHeld := hHeld2; clear hHeld2; try simp only [Act.put, List.setIfInBounds_toArray, List.set_cons_zero, List.set_cons_succ]
  refine wpAnyH_take (i := 12) (oi := _) (v := ?_) rfl (by kernel_rfl) (by kernel_rfl) (by kernel_rfl) (fun _ _ _ h => h) (Or.inl ⟨by rfl, ?_⟩) (by assumption) ?_
  rotate_left
  · intro w hSw; (try dsimp only at hSw); go_simp; with_reducible rfl
  (try dsimp only); try simp only [Act.put, List.setIfInBounds_toArray, List.set_cons_zero, List.set_cons_succ]
  refine wpAnyH_ready (rs := [13]) (by kernel_rfl) (by simp) ?_
  refine AllReadyH.cons rfl (fun K hK => ?_) AllReadyH.nil
  go_simp
  refine hK.out _ _ (by (try dsimp only); first | done | go_keep) (fun hHeld2 => ?_)
  clear hK K; clear hHeld; clear hHeld2; try simp only [Act.put, List.setIfInBounds_toArray, List.set_cons_zero, List.set_cons_succ]
  refine wpAnyH_done (by kernel_rfl) ?_ _
  have e1 : W2.grownBy w4 none := (grownBy_drew W2 none).trans hgr4
  have b1 : w4.heap[gv]? = some (.cells #[.slice A2 pt.length c2] kpN.T (0, 0)) := (e1.block gv hgv3 (by simp)).trans HK.out.2.1
  have b2 : (w4.setCell ⟨g, rows.length, none⟩ (.slice A4 pt.length C4)).heap[gv]? = some (.cells #[.slice A2 pt.length c2] kpN.T (0, 0)) := (Below.heap_setCell _ _ _ _ (fun e => hnv e.symm)).trans b1
  have c6 : (w4.setCell ⟨g, rows.length, none⟩ (.slice A4 pt.length C4)).cell? ⟨gv, 0, none⟩ = some (.slice A2 pt.length c2) := (blk_cell b2 0).trans rfl
  have f6 := blk_frozen b2 0
  have H4 := Aside0.mk (And.intro hown4 (And.intro e1 (And.intro hat4 b2)))
  clear hown4 hgr4 hat4 e1 b1 b2 c5
  have hform : (A2 = none ∧ pt.length = 0 ∧ c2 = 0) ∨ ∃ g2, A2 = some ⟨g2, 0, none⟩ := by
    rcases HG.out.own.2 with ⟨e, e0⟩ | ⟨g2, cap2, cur2, e, _⟩
    · simp only [Value.slice.injEq] at e
      exact .inl ⟨e.1, e0, e.2.2⟩
    · simp only [Value.slice.injEq] at e
      exact .inr ⟨g2, e.1⟩
  have fin : ∀ W6 : World, W6.heap = ((w4.setCell ⟨g, rows.length, none⟩ (.slice A4 pt.length C4)).setCell ⟨gv, 0, none⟩ (.slice A2 0 c2)).heap → W6.os = w4.os → W6.tape = w4.tape → W6.output = w4.output →
      ∃ vv' lv' rows', Gat kpN lo W6 gv vv' [] ∧ Rws kpN 60 lo W6 gl lv' rows' (ps ++ [pt]) ∧ KeepF (fun k => k = gv ∨ k = gl ∨ (Value.slice A rows.length c).ownBlock = some k) w W6 ∧
        (∀ k, vv'.ownBlock = some k → (Value.slice A2 pt.length c2).ownBlock = some k ∨ w.heap.size ≤ k) ∧ (∀ k, lv'.ownBlock = some k → (Value.slice A rows.length c).ownBlock = some k ∨ w.heap.size ≤ k) ∧
        (∀ v ∈ rows', ∀ k, v.ownBlock = some k → (∃ u ∈ rows, u.ownBlock = some k) ∨ (Value.slice A2 pt.length c2).ownBlock = some k ∨ w.heap.size ≤ k) ∧ (∀ v ∈ rows', ∀ k, v.ownBlock = some k → vv'.ownBlock ≠ some k) := by
    intro W6 hh ho1 ho2 ho3
    obtain ⟨hown4, e1, hat4, b2⟩ := H4.out
    obtain ⟨hown, hg0, hat, hblk, hblkv⟩ := HX.out
    obtain ⟨hq1, hq2, hq3, hq4⟩ := HQ.out
    have hr := HR.out
    have hg := HG.out
    have vvf : (Value.slice A2 0 c2).ownBlock = (Value.slice A2 pt.length c2).ownBlock := by
      rcases hform with ⟨rfl, _, _⟩ | ⟨g2, rfl⟩ <;> rfl
    have step : ∀ k, k ≠ gv → k ≠ g → W6.heap[k]? = w4.heap[k]? := fun k a b => by
      rw [hh]; exact (Below.heap_setCell _ _ _ _ a).trans (Below.heap_setCell _ _ _ _ b)
    have hw12 : w.heap.size ≤ w1.heap.size := hg0.size
    have hw24 : W2.heap.size ≤ w4.heap.size := e1.size
    have keep : ∀ k, k < w.heap.size → k ≠ gv → k ≠ gl → (Value.slice A rows.length c).ownBlock ≠ some k → W6.heap[k]? = w.heap[k]? := fun k a b c d => by
      have hkg : k ≠ g := fun e => by
        subst e
        rcases hat with e | e
        · exact d (by rw [← e]; rfl)
        · have := Option.some.inj (show some k = some _ from e)
          first | omega | (simp at this; omega)
      exact (step k b hkg).trans ((e1.block k (by omega) (by simp)).trans ((hq4 k c).trans (hg0.block k a (fun e => d e.symm))))
    have typed : ∀ {e : TypeId} {u : Value} {n : Nat} {ys : List Value}, w.ownsRow lo e 1 u n ys → e ≠ 68 → W6.ownsRow lo e 1 u n ys := fun h hne => own_of_heap h fun k hk => by
      obtain ⟨c1, hc1⟩ := own_block h hk
      have hb := own_base h k hk
      refine keep k (blk_lt hc1) (by omega) (by omega) (fun e => ?_)
      obtain ⟨c2, hc2⟩ := own_block hr.own e
      exact hne (blk_type hc1 hc2)
    have hgb2 : W6.heap[gv]? = some (.cells #[.slice A2 0 c2] kpN.T (0, 0)) := by rw [hh]; exact blk_put (cs := #[.slice A2 pt.length c2]) b2 0 _ rfl
    have o4 : ∀ {e : TypeId} {u : Value} {n : Nat} {ys : List Value}, w4.ownsRow lo e 1 u n ys → e ≠ 68 → W6.ownsRow lo e 1 u n ys := fun h hne => own_of_heap h fun k hk => by
      obtain ⟨c1, hc1⟩ := own_block h hk
      have hb := own_base h k hk
      refine step k (by omega) (fun e => ?_)
      subst e
      have h9 := (e1.block k hg3 (by simp)).trans HK.out.2.2
      exact hne (blk_type hc1 h9)
    have olv : W6.ownsRow lo 68 1 (.slice (some ⟨g, 0, none⟩) (rows.length + 1) cap) (rows.length + 1) (rows ++ [.slice A4 pt.length C4]) := by
      have h1 : w4.ownsRow lo 68 1 (.slice (some ⟨g, 0, none⟩) (rows.length + 1) cap) (rows.length + 1) (rows ++ [.slice none 0 0]) := own_of_heap hown fun k hk => by
        have : k = g := by simpa [Value.ownBlock] using hk.symm
        subst this
        exact (e1.block k hg3 (by simp)).trans (hq4 k hnl)
      have h2 := own_put h1 rows.length (.slice A4 pt.length C4)
      have h3 : (rows ++ [Value.slice none 0 0]).set rows.length (.slice A4 pt.length C4) = rows ++ [.slice A4 pt.length C4] := by simp
      rw [h3] at h2
      refine own_of_heap h2 fun k hk => ?_
      have : k = g := by simpa [Value.ownBlock] using hk.symm
      subst this
      rw [hh]
      exact Below.heap_setCell _ _ _ _ hnv
    have hgl6 : W6.heap[gl]? = some (.cells #[.slice (some ⟨g, 0, none⟩) (rows.length + 1) cap] 60 (0, 0)) := by
      rw [step gl hneT (fun e => hnl e.symm), e1.block gl hgl3 (by simp)]
      exact HK.out.1
    refine ⟨.slice A2 0 c2, .slice (some ⟨g, 0, none⟩) (rows.length + 1) cap, rows ++ [.slice A4 pt.length C4], ⟨hgb2, ?_⟩, ?_, ?_, fun k hk => .inl (vvf ▸ hk), fun k hk => ?_, fun v hv k hk => ?_, fun v hv k hk => ?_⟩
    · rcases hform with ⟨rfl, _, rfl⟩ | ⟨g2, rfl⟩
      · exact World.ownsRow_nil _ _ _ _
      · have := own_cut (show W6.ownsRow lo 72 1 _ pt.length (nodeVs pt) from typed hg.own (by decide)) (m := 0) (Nat.zero_le _)
        show W6.ownsRow lo 72 1 _ 0 []
        simpa using this
    · refine Rws.snoc hgl6 (by rw [List.length_append]; exact olv) hr.len (fun i hi => typed (hr.each i hi) (by decide)) (o4 hown4 (by decide))
    · exact ⟨ho1.trans (e1.os.trans (hq1.trans hg0.os)), ho2.trans (e1.tape.trans (hq2.trans hg0.tape)), ho3.trans (e1.output.trans (hq3.trans hg0.output)), by rw [hh]; simp; omega, fun k hk hn => keep k hk (fun e => hn (.inl e)) (fun e => hn (.inr (.inl e))) (fun e => hn (.inr (.inr e)))⟩
    · rcases hat with e | e
      · exact .inl (e ▸ hk)
      · rw [e] at hk
        have := Option.some.inj hk
        exact .inr (by first | omega | (simp at this; omega))
    · rcases List.mem_append.1 hv with h | h
      · exact .inl ⟨v, h, hk⟩
      · rw [List.mem_singleton] at h
        subst h
        rcases hat4 with e | e
        · rw [e] at hk; simp [Value.ownBlock] at hk
        · rw [e] at hk
          have := Option.some.inj hk
          exact .inr (.inr (by first | omega | (simp at this; omega)))
    · rw [vvf]
      rcases List.mem_append.1 hv with h | h
      · exact hsep v h k hk
      · rw [List.mem_singleton] at h
        subst h
        intro e2
        have hlt : k < w.heap.size := by obtain ⟨cc, hcc⟩ := own_block hg.own e2; exact blk_lt hcc
        rcases hat4 with e | e
        · rw [e] at hk; simp [Value.ownBlock] at hk
        · rw [e] at hk
          have := Option.some.inj hk
          first | omega | (simp at this; omega)
  have HF := Aside0.mk fin
  clear fin
  rcases hform with ⟨rfl, h0, rfl⟩ | ⟨g2, rfl⟩
  · omega
  · go_wp2
    go_end0
    exact ⟨rfl, HF.out _ rfl rfl rfl rfl⟩
end Go.Proofs.YtolbfjjgdheikaaGreat.R
