import Derived.Test.YtolbfjjgdheikaaGreatEK4
import Derived.Test.YtolbfjjgdheikaaGreatEB2
import Derived.Test.YtolbfjjgdheikaaGreatEK5
set_option linter.unusedVariables false
set_option linter.unusedSimpArgs false
/- What is done behind each walk: the part is laid down. -/
namespace Go.Proofs.YtolbfjjgdheikaaGreat.R
open Go.RowKit Go.Lab Go.Maps Go.Proofs.YtolbfjjgdheikaaGreatW.PrintWords Go.Proofs.YtolbfjjgdheikaaGreatW.PrintLast Go.Proofs.YtolbfjjgdheikaaGreatW.PrintMore PL

theorem Tryz.info22 : (Tryz.prog.info? 22).map (fun i => (i.zero, i.size, i.bytes)) = some (some (.slice none 0 0), 1, 24) := by kernel_rfl
theorem Tryz.info68 : (Tryz.prog.info? 68).map (fun i => (i.zero, i.size, i.bytes)) = some (some (.slice none 0 0), 1, 24) := by kernel_rfl

theorem src_own {w : World} {lo : Nat} {e : TypeId} {A : Option Addr} {n c : Nat} {xs : List Value} (h : w.ownsRow lo e 1 (.slice A n c) n xs) : 0 < n → ∃ ad, A = some ad ∧ ∀ j u, xs[j]? = some u → w.cell? (ad.add j) = some u := fun h0 => by
  rcases h.2 with ⟨_, h2⟩ | ⟨g, cap, cur, hv, _⟩
  · omega
  · simp only [Value.slice.injEq] at hv
    obtain ⟨rfl, _, rfl⟩ := hv
    exact ⟨_, rfl, h.cells rfl⟩
theorem nodeVs_one (xs : List Int) : ∀ u ∈ nodeVs xs, u.oneCell' = true := by
  intro u hu
  unfold nodeVs at hu
  obtain ⟨x, _, rfl⟩ := List.mem_map.1 hu
  rfl

set_option maxHeartbeats 8000000 in
set_option maxRecDepth 100000 in
theorem after56 (lo gv gl : Nat) : AfterOk kpN 60 lo gv gl 56 := by
  intro w vv lv rows ps pt hg hr hsep hpt0 hpt hps hlo hgv hgl
  obtain ⟨A, c, rfl⟩ := own_slice hr.own
  have hneT : gl ≠ gv := fun e => by subst e; exact absurd (blk_type hr.blk hg.blk) (by decide)
  have h2 : w.cell? ⟨gl, 0, none⟩ = some (.slice A rows.length c) := (blk_cell hr.blk 0).trans rfl
  have h3 : w.cell? ⟨gv, 0, none⟩ = some vv := (blk_cell hg.blk 0).trans rfl
  obtain ⟨A2, c2, rfl⟩ := own_slice hg.own
  have hgl2 := blk_lt hr.blk
  have hgv2 := blk_lt hg.blk
  have hlvne : ∀ k, (Value.slice A rows.length c).ownBlock = some k → lo ≤ k := fun k hk => own_base hr.own k hk
  have HR := Aside0.mk hr
  have HG := Aside0.mk hg
  have HB := Aside0.mk hlvne
  have hrl : rows.length ≤ 10000000 := by rw [hr.len]; exact hps
  obtain ⟨i0, hi, hz0, hz1, hz2⟩ := info_parts Tryz.info68
  have HI := Aside0.mk (And.intro hi (And.intro hz0 (And.intro hz1 hz2)))
  clear hr hg hi hz0 hz1 hz2 hlvne
  go_enter Tryz.func56, Tryz.ntmps56
  go_wp2_with (at_builtin; refine wpList_append_own_at _ rfl _ _ 60 rfl lo 68 i0 (.slice none 0 0) 1 24 Tryz.underlying60 HI.out.1 HI.out.2.1 HI.out.2.2.1 HI.out.2.2.2 rfl (by decide) _ rows.length rows rfl (World.ownsRow.alloc HR.out.own _) ⟨w.heap.size, 0, none⟩ 1 1 [.slice none 0 0] rfl rfl (cell_one_new _ _ _) ?q2 ?q3 ?q4 ?q5 ?_)
  case q2 => intro u hu; simp at hu; subst hu; rfl
  case q3 => unfold maxLen; omega
  case q4 => omega
  case q5 => simp; omega
  intro v' w1 hown hgr _ hat
  obtain ⟨g, cap, rfl, hcap, hcell, hcur⟩ := own_cells hown (by omega)
  have hg0 := (World.grownBy_alloc w (.cells #[.slice none 0 0] 68) (Value.slice A rows.length c).ownBlock).trans hgr
  have hblk := (hg0.block gl hgl2 (fun e => by have := HB.out gl e.symm; omega)).trans HR.out.blk
  have hblkv := (hg0.block gv hgv2 (fun e => by have := HB.out gv e.symm; omega)).trans HG.out.blk
  have hc2 : w1.cell? ⟨gl, 0, none⟩ = some (.slice A rows.length c) := (blk_cell hblk 0).trans rfl
  have hf2 := blk_frozen hblk 0
  have HX := Aside0.mk (And.intro hown (And.intro hg0 (And.intro hat (And.intro hblk hblkv))))
  have gb := own_base hown g rfl
  have glt := own_lt hown g rfl
  have hlast : (rows ++ [Value.slice none 0 0])[rows.length]? = some (.slice none 0 0) := by simp
  have hcn := hcell rows.length _ hlast
  have hnl : g ≠ gl := by omega
  have hnv : g ≠ gv := by omega
  have hwl := hg0.size
  clear hown hgr hg0 hat hcell hlast
  go_wp2_with fail
  have q1 : (w1.setCell ⟨gl, 0, none⟩ (.slice (some ⟨g, 0, none⟩) (rows.length + 1) cap)).heap[gl]? = some (.cells #[.slice (some ⟨g, 0, none⟩) (rows.length + 1) cap] 60 (0, 0)) := blk_put (cs := #[.slice A rows.length c]) hblk 0 _ rfl
  have q2 : (w1.setCell ⟨gl, 0, none⟩ (.slice (some ⟨g, 0, none⟩) (rows.length + 1) cap)).heap[gv]? = some (.cells #[.slice A2 pt.length c2] kpN.T (0, 0)) := (Below.heap_setCell _ _ _ _ (fun e => hneT e.symm)).trans hblkv
  have q3 : (w1.setCell ⟨gl, 0, none⟩ (.slice (some ⟨g, 0, none⟩) (rows.length + 1) cap)).heap[g]? = w1.heap[g]? := Below.heap_setCell _ _ _ _ hnl
  have q4 : (w1.setCell ⟨gl, 0, none⟩ (.slice (some ⟨g, 0, none⟩) (rows.length + 1) cap)).heap.size = w1.heap.size := by simp
  have HQ := Aside0.mk (show (w1.setCell ⟨gl, 0, none⟩ (.slice (some ⟨g, 0, none⟩) (rows.length + 1) cap)).os = w1.os ∧ (w1.setCell ⟨gl, 0, none⟩ (.slice (some ⟨g, 0, none⟩) (rows.length + 1) cap)).tape = w1.tape ∧ (w1.setCell ⟨gl, 0, none⟩ (.slice (some ⟨g, 0, none⟩) (rows.length + 1) cap)).output = w1.output ∧ (∀ k, k ≠ gl → (w1.setCell ⟨gl, 0, none⟩ (.slice (some ⟨g, 0, none⟩) (rows.length + 1) cap)).heap[k]? = w1.heap[k]?) from ⟨rfl, rfl, rfl, fun k hk => Below.heap_setCell _ _ _ _ hk⟩)
  generalize w1.setCell ⟨gl, 0, none⟩ (.slice (some ⟨g, 0, none⟩) (rows.length + 1) cap) = W2 at q1 q2 q3 q4 HQ ⊢
  obtain ⟨cur, hcur⟩ := hcur
  have hgW : W2.heap[g]? = some (.cells cur 68 (0, 0)) := q3.trans hcur
  have c1 : W2.cell? ⟨gl, 0, none⟩ = some (.slice (some ⟨g, 0, none⟩) (rows.length + 1) cap) := (blk_cell q1 0).trans rfl
  have c3 : W2.cell? ⟨gv, 0, none⟩ = some (.slice A2 pt.length c2) := (blk_cell q2 0).trans rfl
  have c4 : W2.cell? ⟨g, rows.length, none⟩ = some (.slice none 0 0) := by rw [World.cell?_of_block q3]; exact hcn
  have f4 : W2.frozen? ⟨g, rows.length, none⟩ = false := blk_frozen hgW _
  have hLW : lo ≤ W2.heap.size := by omega
  have hgl3 := blk_lt q1
  have hgv3 := blk_lt q2
  have hg3 := blk_lt hgW
  have HV := Aside0.mk (show W2.ownsRow lo 72 1 (.slice A2 pt.length c2) pt.length (nodeVs pt) from own_of_heap (show w.ownsRow lo 72 1 (.slice A2 pt.length c2) pt.length (nodeVs pt) from HG.out.own) fun k hk => by
    obtain ⟨cc, hcc⟩ := own_block (show w.ownsRow lo 72 1 (.slice A2 pt.length c2) pt.length (nodeVs pt) from HG.out.own) hk
    have hb := own_base (show w.ownsRow lo 72 1 (.slice A2 pt.length c2) pt.length (nodeVs pt) from HG.out.own) k hk
    rw [HQ.out.2.2.2 k (by omega)]
    refine HX.out.2.1.block k (blk_lt hcc) (fun e => ?_)
    obtain ⟨c9, hc9⟩ := own_block HR.out.own e.symm
    exact absurd (blk_type hcc hc9) (by decide))
  have HK := Aside0.mk (And.intro q1 (And.intro q2 hgW))
  clear q1 q2 q3 hcn hc2 hf2 hblk hblkv hcur hgW
  obtain ⟨j0, gi, gz0, gz1, gz2⟩ := info_parts Tryz.info72
  have HJ := Aside0.mk (And.intro gi (And.intro gz0 (And.intro gz1 gz2)))
  clear gi gz0 gz1 gz2
  obtain ⟨m, hm⟩ : ∃ m, rows.length + 1 = m := ⟨_, rfl⟩
  rw [hm] at c1 hcap
  have hwm : IntKind.i64.wrap ((m : Int) - 1) = (rows.length : Int) := by rw [IntKind.wrap_i64]; omega
  have hi1 : (0 : Int) ≤ (rows.length : Int) := by omega
  have hi2 : (rows.length : Int) < (m : Int) := by omega
  refine wp_region_held_drew (S := (fun w' => w'.cell? ⟨gl, 0, none⟩ = some (.slice (some ⟨g, 0, none⟩) m cap) ∧ w'.cell? ⟨gv, 0, none⟩ = some (.slice A2 pt.length c2) ∧ w'.frozen? ⟨g, rows.length, none⟩ = false)) (by kernel_rfl) ?_ (fun hHeld => ?_)
  · (try dsimp only); first | done | go_keep
  refine wpAnyH_take (i := 0) (oi := _) (v := ?_) rfl (by kernel_rfl) (by kernel_rfl) (by kernel_rfl) (fun _ _ _ h => h) (Or.inl ⟨by rfl, ?_⟩) (by assumption) ?_
  rotate_left
  · intro w hSw; (try dsimp only at hSw); go_simp; with_reducible rfl
  (try dsimp only); try simp only [Act.put, List.setIfInBounds_toArray, List.set_cons_zero, List.set_cons_succ]
  refine wpAnyH_take (i := 1) (oi := _) (v := ?_) rfl (by kernel_rfl) (by kernel_rfl) (by kernel_rfl) (fun _ _ _ h => h) (Or.inl ⟨by rfl, ?_⟩) (by assumption) ?_
  rotate_left
  · intro w hSw; (try dsimp only at hSw); go_simp; with_reducible rfl
  (try dsimp only); try simp only [Act.put, List.setIfInBounds_toArray, List.set_cons_zero, List.set_cons_succ]
  refine wpAnyH_take (i := 2) (oi := _) (v := ?_) rfl (by kernel_rfl) (by kernel_rfl) (by kernel_rfl) (fun _ _ _ h => h) (Or.inl ⟨by rfl, ?_⟩) (by assumption) ?_
  rotate_left
  · intro w hSw; (try dsimp only at hSw); go_simp; with_reducible rfl
  (try dsimp only); try simp only [Act.put, List.setIfInBounds_toArray, List.set_cons_zero, List.set_cons_succ]
  refine wpAnyH_take (i := 3) (oi := _) (v := ?_) rfl (by kernel_rfl) (by kernel_rfl) (by kernel_rfl) (fun _ _ _ h => h) (Or.inl ⟨by rfl, ?_⟩) (by assumption) ?_
  rotate_left
  · intro w hSw; (try dsimp only at hSw); go_simp; with_reducible rfl
  (try dsimp only); try simp only [Act.put, List.setIfInBounds_toArray, List.set_cons_zero, List.set_cons_succ]
  refine wpAnyH_take (i := 4) (oi := _) (v := ?_) rfl (by kernel_rfl) (by kernel_rfl) (by kernel_rfl) (fun _ _ _ h => h) (Or.inl ⟨by rfl, ?_⟩) (by assumption) ?_
  rotate_left
  · intro w hSw; (try dsimp only at hSw); go_simp; with_reducible rfl
  (try dsimp only); try simp only [Act.put, List.setIfInBounds_toArray, List.set_cons_zero, List.set_cons_succ]
  refine wpAnyH_take (i := 5) (oi := _) (v := ?_) rfl (by kernel_rfl) (by kernel_rfl) (by kernel_rfl) (fun _ _ _ h => h) (Or.inl ⟨by rfl, ?_⟩) (by assumption) ?_
  rotate_left
  · intro w hSw; (try dsimp only at hSw); go_simp; with_reducible rfl
  (try dsimp only); try simp only [Act.put, List.setIfInBounds_toArray, List.set_cons_zero, List.set_cons_succ]
  refine wpAnyH_take (i := 6) (oi := _) (v := ?_) rfl (by kernel_rfl) (by kernel_rfl) (by kernel_rfl) (fun _ _ _ h => h) (Or.inl ⟨by rfl, ?_⟩) (by assumption) ?_
  rotate_left
  · intro w hSw; (try dsimp only at hSw); go_simp; with_reducible rfl
  (try dsimp only); try simp only [Act.put, List.setIfInBounds_toArray, List.set_cons_zero, List.set_cons_succ]
  refine wpAnyH_take (i := 7) (oi := _) (v := ?_) rfl (by kernel_rfl) (by kernel_rfl) (by kernel_rfl) (fun _ _ _ h => h) (Or.inl ⟨by rfl, ?_⟩) (by assumption) ?_
  rotate_left
  · intro w hSw; (try dsimp only at hSw); go_simp; with_reducible rfl
  (try dsimp only); try simp only [Act.put, List.setIfInBounds_toArray, List.set_cons_zero, List.set_cons_succ]
  refine wpAnyH_take (i := 8) (oi := _) (v := ?_) rfl (by kernel_rfl) (by kernel_rfl) (by kernel_rfl) (fun _ _ _ h => h) (Or.inl ⟨by rfl, ?_⟩) (by assumption) ?_
  rotate_left
  · intro w hSw; (try dsimp only at hSw); go_simp; with_reducible rfl
  (try dsimp only); try simp only [Act.put, List.setIfInBounds_toArray, List.set_cons_zero, List.set_cons_succ]
  refine wpAnyH_take (i := 10) (oi := _) (v := ?_) rfl (by kernel_rfl) (by kernel_rfl) (by kernel_rfl) (fun _ _ _ h => h) (Or.inl ⟨by rfl, ?_⟩) (by assumption) ?_
  rotate_left
  · intro w hSw; (try dsimp only at hSw); go_simp; with_reducible rfl
  (try dsimp only); try simp only [Act.put, List.setIfInBounds_toArray, List.set_cons_zero, List.set_cons_succ]
  refine wpAnyH_ready (rs := [9]) (by kernel_rfl) (by simp) ?_
  refine AllReadyH.cons rfl (fun K hK => ?_) AllReadyH.nil
  go_simp
  refine hK.out _ _ (by (try dsimp only); first | done | go_keep) (fun hHeld2 => ?_)
  clear hK K; clear hHeld; have hHeld := hHeld2; clear hHeld2; try simp only [Act.put, List.setIfInBounds_toArray, List.set_cons_zero, List.set_cons_succ]
  refine wpAnyH_ready (rs := [11]) (by kernel_rfl) (by simp) ?_
  refine AllReadyH.cons rfl (fun K hK => ?_) AllReadyH.nil
  refine step_append_src (by rfl) _ _ _ (by rfl) lo 72 j0 _ 1 16 Tryz.underlying68 HJ.out.1 HJ.out.2.1 HJ.out.2.2.1 HJ.out.2.2.2 rfl (by omega) (.slice none 0 0) 0 [] (by rfl) (by exact World.ownsRow_nil _ _ _ _) A2 pt.length c2 (nodeVs pt) (by rfl) (by rw [nodeVs_len, Nat.mul_one]) (by exact src_own (HV.out.drew)) (by exact nodeVs_one pt) (by unfold maxLen; omega) (by omega) (by simp; omega) ?_; intro v4 w4 hown4 hgr4 hat4; rw [Nat.zero_add, List.nil_append] at hown4; obtain ⟨A4, C4, rfl⟩ := own_slice hown4; have c5 := (World.cell?_of_block (hgr4.block g (by simp; omega) (by simp [Value.ownBlock]))).trans c4
  refine hK.out _ _ (by (try dsimp only); exact ⟨(World.cell?_of_block (hgr4.block gl (by simp; omega) (by simp [Value.ownBlock]))).trans c1, (World.cell?_of_block (hgr4.block gv (by simp; omega) (by simp [Value.ownBlock]))).trans c3, blk_frozen ((hgr4.block g (by simp; omega) (by simp [Value.ownBlock])).trans HK.out.2.2) _⟩) (fun hHeld2 => ?_)
  clear hK K; clear hHeld; have hHeld := hHeld2; clear hHeld2; try simp only [Act.put, List.setIfInBounds_toArray, List.set_cons_zero, List.set_cons_succ]
  refine wpAnyH_take (i := 12) (oi := _) (v := ?_) rfl (by kernel_rfl) (by kernel_rfl) (by kernel_rfl) (fun _ _ _ h => h) (Or.inl ⟨by rfl, ?_⟩) (by assumption) ?_
  rotate_left
  · intro w hSw; (try dsimp only at hSw); go_simp; with_reducible rfl
  (try dsimp only); try simp only [Act.put, List.setIfInBounds_toArray, List.set_cons_zero, List.set_cons_succ]
  refine wpAnyH_ready (rs := [13]) (by kernel_rfl) (by simp) ?_
  refine AllReadyH.cons rfl (fun K hK => ?_) AllReadyH.nil
  go_simp
  refine hK.out _ _ (by (try dsimp only); first | done | go_keep) (fun hHeld2 => ?_)
  clear hK K; clear hHeld; clear hHeld2; try simp only [Act.put, List.setIfInBounds_toArray, List.set_cons_zero, List.set_cons_succ]
  refine wpAnyH_done (by kernel_rfl) ?_ _
  have e1 : W2.grownBy w4 none := (grownBy_drew W2 none).trans hgr4
  have b1 : w4.heap[gv]? = some (.cells #[.slice A2 pt.length c2] kpN.T (0, 0)) := (e1.block gv hgv3 (by simp)).trans HK.out.2.1
  have b2 : (w4.setCell ⟨g, rows.length, none⟩ (.slice A4 pt.length C4)).heap[gv]? = some (.cells #[.slice A2 pt.length c2] kpN.T (0, 0)) := (Below.heap_setCell _ _ _ _ (fun e => hnv e.symm)).trans b1
  have c6 : (w4.setCell ⟨g, rows.length, none⟩ (.slice A4 pt.length C4)).cell? ⟨gv, 0, none⟩ = some (.slice A2 pt.length c2) := (blk_cell b2 0).trans rfl
  have f6 := blk_frozen b2 0
  have H4 := Aside0.mk (And.intro hown4 (And.intro e1 (And.intro hat4 b2)))
  clear hown4 hgr4 hat4 e1 b1 b2 c5
  have hform : (A2 = none ∧ pt.length = 0 ∧ c2 = 0) ∨ ∃ g2, A2 = some ⟨g2, 0, none⟩ := by
    rcases HG.out.own.2 with ⟨e, e0⟩ | ⟨g2, cap2, cur2, e, _⟩
    · simp only [Value.slice.injEq] at e
      exact .inl ⟨e.1, e0, e.2.2⟩
    · simp only [Value.slice.injEq] at e
      exact .inr ⟨g2, e.1⟩
  have fin : ∀ W6 : World, W6.heap = ((w4.setCell ⟨g, rows.length, none⟩ (.slice A4 pt.length C4)).setCell ⟨gv, 0, none⟩ (.slice A2 0 c2)).heap → W6.os = w4.os → W6.tape = w4.tape → W6.output = w4.output →
      ∃ vv' lv' rows', Gat kpN lo W6 gv vv' [] ∧ Rws kpN 60 lo W6 gl lv' rows' (ps ++ [pt]) ∧ KeepF (fun k => k = gv ∨ k = gl ∨ (Value.slice A rows.length c).ownBlock = some k) w W6 ∧
        (∀ k, vv'.ownBlock = some k → (Value.slice A2 pt.length c2).ownBlock = some k ∨ w.heap.size ≤ k) ∧ (∀ k, lv'.ownBlock = some k → (Value.slice A rows.length c).ownBlock = some k ∨ w.heap.size ≤ k) ∧
        (∀ v ∈ rows', ∀ k, v.ownBlock = some k → (∃ u ∈ rows, u.ownBlock = some k) ∨ (Value.slice A2 pt.length c2).ownBlock = some k ∨ w.heap.size ≤ k) ∧ (∀ v ∈ rows', ∀ k, v.ownBlock = some k → vv'.ownBlock ≠ some k) := by
    intro W6 hh ho1 ho2 ho3
    obtain ⟨hown4, e1, hat4, b2⟩ := H4.out
    obtain ⟨hown, hg0, hat, hblk, hblkv⟩ := HX.out
    obtain ⟨hq1, hq2, hq3, hq4⟩ := HQ.out
    have hr := HR.out
    have hg := HG.out
    have vvf : (Value.slice A2 0 c2).ownBlock = (Value.slice A2 pt.length c2).ownBlock := by
      rcases hform with ⟨rfl, _, _⟩ | ⟨g2, rfl⟩ <;> rfl
    have step : ∀ k, k ≠ gv → k ≠ g → W6.heap[k]? = w4.heap[k]? := fun k a b => by
      rw [hh]; exact (Below.heap_setCell _ _ _ _ a).trans (Below.heap_setCell _ _ _ _ b)
    have hw12 : w.heap.size ≤ w1.heap.size := hg0.size
    have hw24 : W2.heap.size ≤ w4.heap.size := e1.size
    have keep : ∀ k, k < w.heap.size → k ≠ gv → k ≠ gl → (Value.slice A rows.length c).ownBlock ≠ some k → W6.heap[k]? = w.heap[k]? := fun k a b c d => by
      have hkg : k ≠ g := fun e => by
        subst e
        rcases hat with e | e
        · exact d (by rw [← e]; rfl)
        · have := Option.some.inj (show some k = some _ from e)
          first | omega | (simp at this; omega)
      exact (step k b hkg).trans ((e1.block k (by omega) (by simp)).trans ((hq4 k c).trans (hg0.block k a (fun e => d e.symm))))
    have typed : ∀ {e : TypeId} {u : Value} {n : Nat} {ys : List Value}, w.ownsRow lo e 1 u n ys → e ≠ 68 → W6.ownsRow lo e 1 u n ys := fun h hne => own_of_heap h fun k hk => by
      obtain ⟨c1, hc1⟩ := own_block h hk
      have hb := own_base h k hk
      refine keep k (blk_lt hc1) (by omega) (by omega) (fun e => ?_)
      obtain ⟨c2, hc2⟩ := own_block hr.own e
      exact hne (blk_type hc1 hc2)
    have hgb2 : W6.heap[gv]? = some (.cells #[.slice A2 0 c2] kpN.T (0, 0)) := by rw [hh]; exact blk_put (cs := #[.slice A2 pt.length c2]) b2 0 _ rfl
    have o4 : ∀ {e : TypeId} {u : Value} {n : Nat} {ys : List Value}, w4.ownsRow lo e 1 u n ys → e ≠ 68 → W6.ownsRow lo e 1 u n ys := fun h hne => own_of_heap h fun k hk => by
      obtain ⟨c1, hc1⟩ := own_block h hk
      have hb := own_base h k hk
      refine step k (by omega) (fun e => ?_)
      subst e
      have h9 := (e1.block k hg3 (by simp)).trans HK.out.2.2
      exact hne (blk_type hc1 h9)
    have olv : W6.ownsRow lo 68 1 (.slice (some ⟨g, 0, none⟩) (rows.length + 1) cap) (rows.length + 1) (rows ++ [.slice A4 pt.length C4]) := by
      have h1 : w4.ownsRow lo 68 1 (.slice (some ⟨g, 0, none⟩) (rows.length + 1) cap) (rows.length + 1) (rows ++ [.slice none 0 0]) := own_of_heap hown fun k hk => by
        have : k = g := by simpa [Value.ownBlock] using hk.symm
        subst this
        exact (e1.block k hg3 (by simp)).trans (hq4 k hnl)
      have h2 := own_put h1 rows.length (.slice A4 pt.length C4)
      have h3 : (rows ++ [Value.slice none 0 0]).set rows.length (.slice A4 pt.length C4) = rows ++ [.slice A4 pt.length C4] := by simp
      rw [h3] at h2
      refine own_of_heap h2 fun k hk => ?_
      have : k = g := by simpa [Value.ownBlock] using hk.symm
      subst this
      rw [hh]
      exact Below.heap_setCell _ _ _ _ hnv
    have hgl6 : W6.heap[gl]? = some (.cells #[.slice (some ⟨g, 0, none⟩) (rows.length + 1) cap] 60 (0, 0)) := by
      rw [step gl hneT (fun e => hnl e.symm), e1.block gl hgl3 (by simp)]
      exact HK.out.1
    refine ⟨.slice A2 0 c2, .slice (some ⟨g, 0, none⟩) (rows.length + 1) cap, rows ++ [.slice A4 pt.length C4], ⟨hgb2, ?_⟩, ?_, ?_, fun k hk => .inl (vvf ▸ hk), fun k hk => ?_, fun v hv k hk => ?_, fun v hv k hk => ?_⟩
    · rcases hform with ⟨rfl, _, rfl⟩ | ⟨g2, rfl⟩
      · exact World.ownsRow_nil _ _ _ _
      · have := own_cut (show W6.ownsRow lo 72 1 _ pt.length (nodeVs pt) from typed hg.own (by decide)) (m := 0) (Nat.zero_le _)
        show W6.ownsRow lo 72 1 _ 0 []
        simpa using this
    · refine Rws.snoc hgl6 (by rw [List.length_append]; exact olv) hr.len (fun i hi => typed (hr.each i hi) (by decide)) (o4 hown4 (by decide))
    · exact ⟨ho1.trans (e1.os.trans (hq1.trans hg0.os)), ho2.trans (e1.tape.trans (hq2.trans hg0.tape)), ho3.trans (e1.output.trans (hq3.trans hg0.output)), by rw [hh]; simp; omega, fun k hk hn => keep k hk (fun e => hn (.inl e)) (fun e => hn (.inr (.inl e))) (fun e => hn (.inr (.inr e)))⟩
    · rcases hat with e | e
      · exact .inl (e ▸ hk)
      · rw [e] at hk
        have := Option.some.inj hk
        exact .inr (by first | omega | (simp at this; omega))
    · rcases List.mem_append.1 hv with h | h
      · exact .inl ⟨v, h, hk⟩
      · rw [List.mem_singleton] at h
        subst h
        rcases hat4 with e | e
        · rw [e] at hk; simp [Value.ownBlock] at hk
        · rw [e] at hk
          have := Option.some.inj hk
          exact .inr (.inr (by first | omega | (simp at this; omega)))
    · rw [vvf]
      rcases List.mem_append.1 hv with h | h
      · exact hsep v h k hk
      · rw [List.mem_singleton] at h
        subst h
        intro e2
        have hlt : k < w.heap.size := by obtain ⟨cc, hcc⟩ := own_block hg.own e2; exact blk_lt hcc
        rcases hat4 with e | e
        · rw [e] at hk; simp [Value.ownBlock] at hk
        · rw [e] at hk
          have := Option.some.inj hk
          first | omega | (simp at this; omega)
  have HF := Aside0.mk fin
  clear fin
  rcases hform with ⟨rfl, h0, rfl⟩ | ⟨g2, rfl⟩
  · omega
  · go_wp2
    go_end0
    exact ⟨rfl, HF.out _ rfl rfl rfl rfl⟩
end Go.Proofs.YtolbfjjgdheikaaGreat.R

/- bothWays: an undirected graph is opened. -/
namespace Go.Proofs.YtolbfjjgdheikaaGreat.R
open Go.RowKit Go.Lab Go.Maps Go.Proofs.YtolbfjjgdheikaaGreatW.PrintWords Go.Proofs.YtolbfjjgdheikaaGreatW.PrintLast Go.Proofs.YtolbfjjgdheikaaGreatW.PrintMore PL

set_option maxHeartbeats 2000000 in
theorem bothWays_any (d : Bool) (A1 A2 : Option Addr) (c1 c2 : Nat) (zs : List Int) (es : List S34) (w : World)
    (hN : Kd.C (Kd.int .i64) w A1 zs.length zs) (hE : Kd.C k34 w A2 es.length es) (hn : zs.length ≤ 1000) (he : es.length ≤ 1000000) :
    Calls Tryz.prog 27 #[.agg #[.bool d, .slice A1 zs.length c1, .slice A2 es.length c2]] w fun e w' => ∃ base bp, e = .returned (.tuple #[.agg #[.pointer (some ⟨bp, 0, none⟩)], .bool (readOk zs es && !d)]) ∧ Below w.heap.size w w' ∧ (readOk zs es = true → PlOk w' base bp (plOf d zs es)) := by
  have hb1 : Below w.heap.size w ((w.alloc (.cells #[.bool d, .slice A1 zs.length c1, .slice A2 es.length c2] 25)).alloc (.cells #[.pointer none] 56)) := ((Below.refl _ _).alloc (Nat.le_refl _) _).alloc (by simp) _
  have HN := Aside0.mk (Kd.C_below hN hb1)
  have HE := Aside0.mk (Kd.C_below hE hb1)
  have HB := Aside0.mk hb1
  clear hN hE hb1
  obtain ⟨rb, hrb⟩ : ∃ rb, readOk zs es = rb := ⟨_, rfl⟩
  rw [hrb]
  have HRB := Aside0.mk hrb
  clear hrb
  go_enter Tryz.func27, Tryz.ntmps27
  go_wp2_with (go_at_call 52; refine (read_any2 d A1 A2 c1 c2 zs es _ HN.out HE.out hn he).mono ?_; rintro e w1 ⟨rfl, hbel, _, hpl⟩; rw [HRB.out] at hpl ⊢; have HR := Aside0.mk (And.intro hbel hpl); have HRO := Aside0.mk hpl; clear hpl)
  have hz : ((w.alloc (.cells #[.bool d, .slice A1 zs.length c1, .slice A2 es.length c2] 25)).alloc (.cells #[.pointer none] 56)).heap.size = w.heap.size + 2 := by simp
  have hk0 : ((w.alloc (.cells #[.bool d, .slice A1 zs.length c1, .slice A2 es.length c2] 25)).alloc (.cells #[.pointer none] 56)).heap[w.heap.size]? = some (.cells #[.bool d, .slice A1 zs.length c1, .slice A2 es.length c2] 25 (0, 0)) :=
    (((Below.refl _ (w.alloc (.cells #[.bool d, .slice A1 zs.length c1, .slice A2 es.length c2] 25))).alloc (Nat.le_refl _) _).block _ (by simp)).trans (heap_alloc_new _ _)
  have hk1 : ((w.alloc (.cells #[.bool d, .slice A1 zs.length c1, .slice A2 es.length c2] 25)).alloc (.cells #[.pointer none] 56)).heap[w.heap.size + 1]? = some (.cells #[.pointer none] 56 (0, 0)) := by
    have := heap_alloc_new (w.alloc (.cells #[.bool d, .slice A1 zs.length c1, .slice A2 es.length c2] 25)) (.cells #[.pointer none] 56)
    simpa using this
  replace hk0 := (hbel.block w.heap.size (by simp; omega)).trans hk0
  replace hk1 := (hbel.block (w.heap.size + 1) (by simp)).trans hk1
  have hc0 : w1.cell? ⟨w.heap.size, 0, none⟩ = some (.bool d) := (blk_cell hk0 0).trans rfl
  have hc1 : w1.cell? ⟨w.heap.size + 1, 0, none⟩ = some (.pointer none) := (blk_cell hk1 0).trans rfl
  have hf1 : w1.frozen? ⟨w.heap.size + 1, 0, none⟩ = false := blk_frozen hk1 0
  have hlt := hbel.size
  rw [hz] at hlt HRO
  have hBB : Below w.heap.size w w1 := HB.out.trans (hbel.mono (by rw [hz]; omega))
  have HX := Aside0.mk (And.intro hBB (And.intro hk1 HRO.out))
  clear hbel hk0 hk1 hz HR HRO hBB
  have hfin : ∀ W : World, W.heap = (w1.setCell ⟨w.heap.size + 1, 0, none⟩ (.pointer (some ⟨w.heap.size + 1 + 1 + 1, 0, none⟩))).heap → W.os = w1.os → W.tape = w1.tape → W.output = w1.output → Below w.heap.size w W ∧ (rb = true → PlOk W (w.heap.size + 2) (w.heap.size + 3) (plOf d zs es)) ∧ W.cell? ⟨w.heap.size + 1, 0, none⟩ = some (.pointer (some ⟨w.heap.size + 1 + 1 + 1, 0, none⟩)) := by
    intro W h1 h2 h3 h4
    have hb2 : Below (w.heap.size + 1) w1 W := ⟨h2, h3, h4, by rw [h1]; simp [World.setCell], fun k hk => by rw [h1]; exact Below.heap_setCell _ _ _ _ (by simp; omega)⟩
    refine ⟨HX.out.1.trans (hb2.mono (by omega)), fun hr => ?_, ?_⟩
    · obtain ⟨ro, ri, vi, vo, vn, hp⟩ := HX.out.2.2 hr
      have hkk : ∀ k, w.heap.size + 2 ≤ k → W.heap[k]? = w1.heap[k]? := fun k hk => by rw [h1]; exact Below.heap_setCell _ _ _ _ (by simp; omega)
      have hoo : ∀ {e : TypeId} {size n : Nat} {v : Value} {xs : List Value}, w1.ownsRow (w.heap.size + 2) e size v n xs → W.ownsRow (w.heap.size + 2) e size v n xs := fun h => own_move h fun k hk => hkk k (own_base h k hk)
      exact ⟨ro, ri, vi, vo, vn, ⟨(hkk _ hp.hb).trans hp.blk, hp.hb, hoo hp.ids, ⟨hoo hp.rows.a, hoo hp.rows.b, hp.rows.la, hp.rows.lb, fun i hi => hoo (hp.rows.rowA i hi), fun i hi => hoo (hp.rows.rowB i hi), hp.rows.sepT, hp.rows.sepA, hp.rows.sepB, hp.rows.sepAB⟩, hp.po, hp.pi⟩⟩
    · have := blk_set HX.out.2.1 0 (.pointer (some ⟨w.heap.size + 1 + 1 + 1, 0, none⟩))
      rw [World.cell?_of_block (w := w1.setCell ⟨w.heap.size + 1, 0, none⟩ (.pointer (some ⟨w.heap.size + 1 + 1 + 1, 0, none⟩))) (by rw [h1]), blk_cell this]
      rfl
  have HFIN := Aside0.mk hfin
  clear hfin
  cases rb <;> cases d
  all_goals
    go_region
  all_goals
    go_wp2
    obtain ⟨hf1, hf2, hf3⟩ := HFIN.out (World.drew (w1.setCell ⟨w.heap.size + 1, 0, none⟩ (.pointer (some ⟨w.heap.size + 1 + 1 + 1, 0, none⟩)))) rfl rfl rfl rfl
    refine bodyPost_ret (v := .tuple #[.agg #[.pointer (some ⟨w.heap.size + 1 + 1 + 1, 0, none⟩)], .bool _]) (by simp [results, Tryz.results27, go_sem, *]) rfl ⟨w.heap.size + 2, w.heap.size + 3, rfl, hf1, by first | exact hf2 | exact hf2 trivial | exact hf2 rfl | trivial | simp⟩
end Go.Proofs.YtolbfjjgdheikaaGreat.R

/- ConnectedComponents, numbers, slices.Sort of ints. -/
namespace Go.Proofs.YtolbfjjgdheikaaGreat.R
open Go.RowKit Go.Lab Go.Maps Go.Proofs.YtolbfjjgdheikaaGreatW.PrintWords Go.Proofs.YtolbfjjgdheikaaGreatW.PrintLast Go.Proofs.YtolbfjjgdheikaaGreatW.PrintMore PL

/-- a row of rows, as a value -/
structure RwsV (K : Kp) (lo : Nat) (w : World) (lv : Value) (rows : List Value) (ps : List (List Int)) : Prop where
  own : w.ownsRow lo K.T 1 lv rows.length rows
  len : rows.length = ps.length
  each : ∀ (i : Nat) (h : i < rows.length), w.ownsRow lo K.E 1 rows[i] (ps.getD i []).length (K.val (ps.getD i []))
theorem Rws.toV {K : Kp} {TL : TypeId} {lo : Nat} {w : World} {gl : Nat} {lv : Value} {rows : List Value} {ps : List (List Int)} (h : Rws K TL lo w gl lv rows ps) : RwsV K lo w lv rows ps := ⟨h.own, h.len, h.each⟩
theorem RwsV.mono {K : Kp} {lo lo' : Nat} {w : World} {lv : Value} {rows : List Value} {ps : List (List Int)} (h : RwsV K lo w lv rows ps) (hl : lo' ≤ lo) : RwsV K lo' w lv rows ps := ⟨own_weaken h.own hl, h.len, fun i hi => own_weaken (h.each i hi) hl⟩
theorem RwsV.keep {K : Kp} {lo : Nat} {w w1 : World} {lv : Value} {rows : List Value} {ps : List (List Int)} (h : RwsV K lo w lv rows ps) (hk : ∀ k, k < w.heap.size → w1.heap[k]? = w.heap[k]?) : RwsV K lo w1 lv rows ps :=
  ⟨own_of_heap h.own (fun k hk2 => hk k (by obtain ⟨c, hc⟩ := own_block h.own hk2; exact blk_lt hc)), h.len, fun i hi => own_of_heap (h.each i hi) (fun k hk2 => hk k (by obtain ⟨c, hc⟩ := own_block (h.each i hi) hk2; exact blk_lt hc))⟩

/-- enough rounds for any part -/
def walkD (zs : List Int) (es : List S34) (vis : List Int) (u : Int) : Option (List Int) := dfsV (outN zs es) vis 9000 [u] []
def PartsD (zs : List Int) (es : List S34) : Prop := ∀ vis u pt, vis.Nodup → u ∉ vis → u ∈ srt zs → (∀ x ∈ vis, x ∈ srt zs) → dfsV (outN zs es) vis 9000 [u] [] = some pt → (vis ++ pt).Nodup ∧ (∀ x ∈ pt, x ∈ srt zs) ∧ 0 < pt.length
theorem partsD (zs : List Int) (es : List S34) : PartsD zs es := by
  intro vis u pt hnd hu huz _ h
  have hok := dfsV_ok (outN zs es) vis u 9000 [u] [] pt (by simpa using hnd) (.inl ⟨rfl, rfl, hu⟩) (fun x hx => by simp at hx; subst hx; exact RchW.here) (by simp) (by simp) h
  refine ⟨hok.nd, fun x hx => hok.rch x hx (fun y => y ∈ srt zs) huz fun y _ z hz => (mem_srt _ _).2 (outN_mem hz).1, by obtain ⟨l, rfl⟩ := hok.first; simp⟩

set_option maxHeartbeats 4000000 in
set_option maxRecDepth 100000 in
theorem conn_any (base bp : Nat) (zs : List Int) (es : List S34) (p : Pl) (w : World) (h : GrOk w base bp zs es p) (wf : ∀ x ∈ zs, (Lit.int .i64 x).wf = true) (out : List (List Int)) (hr : allV (walkD zs es) (srt zs) [] [] = some out) :
    Calls Tryz.prog 29 #[.iface 56 (.agg #[.pointer (some ⟨bp, 0, none⟩)])] w fun e w' => ∃ lv rows, e = .returned lv ∧ RwsV kpN w.heap.size w' lv rows out ∧ Below w.heap.size w w' := by
  have hb1 : Below w.heap.size w (((w.alloc (.cells #[.nilFunc, .nilFunc, .slice none 0 0, .map none] 80)).alloc (.cells #[.slice none 0 0] 68)).alloc (.cells #[.slice none 0 0] 60)) := (((Below.refl _ _).alloc (Nat.le_refl _) _).alloc (by simp) _).alloc (by simp; omega) _
  have k0 : (((w.alloc (.cells #[.nilFunc, .nilFunc, .slice none 0 0, .map none] 80)).alloc (.cells #[.slice none 0 0] 68)).alloc (.cells #[.slice none 0 0] 60)).heap[w.heap.size]? = some (.cells #[.nilFunc, .nilFunc, .slice none 0 0, .map none] 80 (0, 0)) :=
    (Below.heap_alloc _ _ _ (by simp; omega)).trans ((Below.heap_alloc _ _ _ (by simp)).trans (heap_alloc_new _ _))
  have k1 : (((w.alloc (.cells #[.nilFunc, .nilFunc, .slice none 0 0, .map none] 80)).alloc (.cells #[.slice none 0 0] 68)).alloc (.cells #[.slice none 0 0] 60)).heap[w.heap.size + 1]? = some (.cells #[.slice none 0 0] 68 (0, 0)) := by
    refine (Below.heap_alloc _ _ _ (by simp)).trans ?_
    have := heap_alloc_new (w.alloc (.cells #[.nilFunc, .nilFunc, .slice none 0 0, .map none] 80)) (.cells #[.slice none 0 0] 68)
    simpa using this
  have k2 : (((w.alloc (.cells #[.nilFunc, .nilFunc, .slice none 0 0, .map none] 80)).alloc (.cells #[.slice none 0 0] 68)).alloc (.cells #[.slice none 0 0] 60)).heap[w.heap.size + 1 + 1]? = some (.cells #[.slice none 0 0] 60 (0, 0)) := by
    have := heap_alloc_new ((w.alloc (.cells #[.nilFunc, .nilFunc, .slice none 0 0, .map none] 80)).alloc (.cells #[.slice none 0 0] 68)) (.cells #[.slice none 0 0] 60)
    simpa using this
  have hsz : (((w.alloc (.cells #[.nilFunc, .nilFunc, .slice none 0 0, .map none] 80)).alloc (.cells #[.slice none 0 0] 68)).alloc (.cells #[.slice none 0 0] 60)).heap.size = w.heap.size + 3 := by simp
  have HG := Aside0.mk (h.below hb1)
  have HX := Aside0.mk (And.intro hb1 (And.intro k0 (And.intro k1 (And.intro k2 (And.intro hsz wf)))))
  have HR := Aside0.mk hr
  clear h hb1 k0 k1 k2 hr wf hsz
  go_enter Tryz.func29, Tryz.ntmps29
  go_wp2_with (go_at_call 42; refine (walkAllN _ w.heap.size (w.heap.size + 1) (w.heap.size + 1 + 1) base bp 55 #[.pointer (some ⟨w.heap.size + 1, 0, none⟩)] zs es p 9000 (Nat.le_refl _) out ⟨HG.out, kpN_ok, ⟨_, HX.out.2.1⟩, ⟨_, HX.out.2.2.1⟩, HX.out.2.2.2.2.2⟩ (fun gu => untilN _ _ gu) (after56 _ _ _) (partsD zs es) HX.out.2.1 HX.out.2.2.1 HX.out.2.2.2.1 HR.out).mono ?_; rintro e w1 ⟨rfl, lv, rows, hrw, hkp⟩; have hcc : w1.cell? ⟨w.heap.size + 1 + 1, 0, none⟩ = some lv := (blk_cell hrw.blk 0).trans rfl; have HW := Aside0.mk (And.intro hrw hkp); clear hrw hkp)
  go_ret
  refine ⟨lv, rows, rfl, HW.out.1.toV.mono (by rw [HX.out.2.2.2.2.1]; omega), HX.out.1.trans ?_⟩
  refine HW.out.2.below (by rw [HX.out.2.2.2.2.1]; omega) fun k hk => ?_
  have hs := HX.out.2.2.2.2.1
  rw [hs] at hk
  simp only [WM] at hk
  omega

set_option maxHeartbeats 2000000 in
set_option maxRecDepth 100000 in
theorem numbers_any (base : Nat) (v : Value) (xs : List Int) (w : World) (h : w.ownsRow base 72 1 v xs.length (nodeVs xs)) (hn : xs.length ≤ 100000) :
    Calls Tryz.prog 37 #[v] w fun e w' => ∃ v', e = .returned v' ∧ w'.ownsRow w.heap.size 3 1 v' xs.length (nums .i64 xs) ∧ Below w.heap.size w w' := by
  obtain ⟨A, c, rfl⟩ := own_slice h
  have HO := Aside0.mk h
  obtain ⟨i0, hi, hz0, hz1, hz2⟩ := info_parts Q.Tryz.info3
  have HI := Aside0.mk (And.intro hi (And.intro hz0 (And.intro hz1 hz2)))
  clear h hi hz0 hz1 hz2
  go_enter Tryz.func37, Tryz.ntmps37
  go_wp2
  go_loopw [3, 8] (fun v i wr => ∃ k : Nat, k ≤ xs.length ∧ i = .int .i64 k ∧ Aside0 (wr.ownsRow w.heap.size 3 1 v k (nums .i64 (xs.take k)) ∧ Below w.heap.size w wr)) (fun _ i _ => xs.length - (intOf i).toNat)
  case atStart => exact ⟨0, Nat.zero_le _, rfl, ⟨World.ownsRow_nil _ _ _ _, Below.refl _ _⟩⟩
  case round =>
    obtain ⟨k, hk, rfl, HR⟩ := hrel
    by_cases hlt : k < xs.length
    · have hbw := HR.out.2.size
      obtain ⟨g, c', he, hc', hcell, hcur⟩ := own_cells HO.out (by omega)
      obtain ⟨cur, hcur⟩ := hcur
      simp only [Value.slice.injEq] at he
      obtain ⟨rfl, _, rfl⟩ := he
      have hgl := blk_lt hcur
      have hce : wr.cell? ⟨g, k, none⟩ = some (nodeV xs[k]) := by
        rw [World.cell?_of_block (HR.out.2.block g hgl)]
        exact hcell k _ (by simp [nodeVs, hlt])
      have hts := nums_step (r := xs) hlt
      have HTS := Aside0.mk hts
      clear hts hcell hcur
      generalize xs[k] = x at hce HTS
      unfold nodeV at hce
      obtain ⟨V, C, rfl⟩ := own_slice HR.out.1
      go_wp2_with (first
        | (go_at_call 40; refine (number_any _ _).mono ?_; rintro e w1 ⟨rfl, rfl⟩)
        | (at_builtin; refine wpList_append_own _ rfl _ _ 22 rfl w.heap.size 3 i0 (.int .i64 0) 1 8 Tryz.underlying22 HI.out.1 HI.out.2.1 HI.out.2.2.1 HI.out.2.2.2 rfl (by decide) _ k (nums .i64 (xs.take k)) rfl (World.ownsRow.alloc HR.out.1 _) ⟨wr.heap.size, 0, none⟩ 1 1 [.int .i64 x] rfl rfl (cell_one_new _ _ _) ?q2 ?q3 ?q4 ?q5 ?_))
      case q2 => intro u hu; simp at hu; subst hu; rfl
      case q3 => unfold maxLen; omega
      case q4 => omega
      case q5 => simp; omega
      intro v' w1 hown hgr _
      have HOw := Aside0.mk hown
      have HGR := Aside0.mk hgr
      clear hown hgr
      go_wp2
      go_roundw
      case rel => exact ⟨k + 1, by omega, by go_num, ⟨by rw [HTS.out]; exact HOw.out, (HR.out.2.alloc hbw _).grown HGR.out (by simp; omega) (fun q hq => own_base HR.out.1 q hq)⟩⟩
      case measure => simp [intOf]; omega
    · have hk' : k = xs.length := by omega
      have hts : xs.take k = xs := by rw [hk', List.take_length]
      have h1 := HR.out
      rw [hts, hk'] at h1
      have H1 := Aside0.mk h1
      clear h1 hts HR
      go_wp2
      go_ret
      exact ⟨_, rfl, H1.out.1, H1.out.2⟩
end Go.Proofs.YtolbfjjgdheikaaGreat.R
