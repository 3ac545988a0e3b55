import Derived.Test.YtolbfjjgdheikaaGreatCB2
import Derived.Deep.RegionHeld3
import Derived.Laws.MakeOwn
import Derived.Laws.Cover2
import Derived.BigRegion
import Derived.Deep.Cut
import Derived.OwnWalk
set_option linter.unusedVariables false
set_option linter.unusedSimpArgs false
/- impl.read once more: also what is read of a bad graph can be searched. -/
namespace Go.Proofs.YtolbfjjgdheikaaGreat.R
open Go.RowKit Go.Lab Go.Proofs.YtolbfjjgdheikaaGreatW.PrintWords Go.Proofs.YtolbfjjgdheikaaGreatW.PrintLast Go.Proofs.YtolbfjjgdheikaaGreatW.PrintMore Go.Proofs.YtolbfjjgdheikaaGreat.PL

/-- the row of nodes is there, whatever is in it -/
def IdsAt (w : World) (base bp : Nat) : Prop := ∃ vi ids, w.cell? ⟨bp, 0, none⟩ = some vi ∧ w.ownsRow base 2 1 vi ids.length (nums .i64 ids) ∧ ids.length ≤ 1000
theorem ids_of_pl {w : World} {base bp : Nat} {p : Pl} (h : PlOk w base bp p) (hn : p.ids.length ≤ 1000) : IdsAt w base bp := by
  obtain ⟨ro, ri, vi, vo, vn, hp⟩ := h
  exact ⟨vi, p.ids, by rw [blk_cell hp.blk]; rfl, hp.ids, hn⟩
theorem ids_of_rd {w W : World} {d : Bool} {v1 v2 vi : Value} {ids : List Int} (h : Rd1 w W d v1 v2 ids vi) (hn : ids.length ≤ 1000) : IdsAt W w.heap.size (w.heap.size + 1) :=
  ⟨vi, ids, by rw [blk_cell h.p]; rfl, h.own, hn⟩

set_option maxHeartbeats 4000000 in
set_option maxRecDepth 100000 in
theorem read_any2 (d : Bool) (A1 A2 : Option Addr) (c1 c2 : Nat) (zs : List Int) (es : List S34) (w : World)
    (hN : Kd.C (Kd.int .i64) w A1 zs.length zs) (hE : Kd.C k34 w A2 es.length es) (hn : zs.length ≤ 1000) (he : es.length ≤ 1000000) :
    Calls Tryz.prog 52 #[.agg #[.bool d, .slice A1 zs.length c1, .slice A2 es.length c2]] w fun e w' => e = .returned (.tuple #[.pointer (some ⟨w.heap.size + 1, 0, none⟩), .bool (readOk zs es)]) ∧ Below w.heap.size w w' ∧ IdsAt w' w.heap.size (w.heap.size + 1) ∧ (readOk zs es = true → PlOk w' w.heap.size (w.heap.size + 1) (plOf d zs es)) := by
  have HN := Aside0.mk hN
  have HE := Aside0.mk hE
  obtain ⟨i0, hi, hz0, hz1, hz2⟩ := info_parts Tryz.info2
  have HI := Aside0.mk (And.intro hi (And.intro hz0 (And.intro hz1 hz2)))
  clear hN hE hi hz0 hz1 hz2
  go_enter Tryz.func52, Tryz.ntmps52
  go_wp2
  go_loopw [18] (fun i wr => ∃ k : Nat, k ≤ zs.length ∧ i = .int .i64 k ∧ Aside0 (Rd1Ok w wr d (.slice A1 zs.length c1) (.slice A2 es.length c2) (zs.take k))) (fun i _ => zs.length - (intOf i).toNat)
  case atStart =>
    refine ⟨0, Nat.zero_le _, rfl, ⟨.slice none 0 0, ?_, ?_, World.ownsRow_nil _ _ _ _, ?_⟩⟩
    · rw [Below.heap_alloc _ _ _ (by simp)]; exact heap_alloc_new _ _
    · have := heap_alloc_new (w.alloc (Obj.cells #[Value.bool d, Value.slice A1 zs.length c1, Value.slice A2 es.length c2] 25)) (Obj.cells #[Value.slice none 0 0, Value.slice none 0 0, Value.slice none 0 0] 140)
      simpa using this
    · exact ((Below.refl _ w).alloc (Nat.le_refl _) _).alloc (by simp) _
  case round =>
    obtain ⟨k, hk, rfl, hR⟩ := hrel
    obtain ⟨vi, hR⟩ := hR.out
    have hp0 : wr.cell? ⟨w.heap.size + 1, 0, none⟩ = some vi := by rw [blk_cell hR.p]; rfl
    obtain ⟨V, c, hvi⟩ := own_slice hR.own
    have hl : (zs.take k).length = k := by rw [List.length_take]; omega
    have HR := Aside0.mk hR
    have HL := Aside0.mk hl
    by_cases hlt : k < zs.length
    · obtain ⟨ad, rfl, hc⟩ := C_int_at (Kd.C_below HN.out ⟨hR.bel.os, hR.bel.tape, hR.bel.output, hR.bel.size, hR.bel.block⟩) k hlt
      have hbz := hR.bel.size
      have hzz := blk_lt hR.p
      have hts : zs.take (k + 1) = zs.take k ++ [zs.getD k 0] := by
        rw [List.take_succ_eq_append_getElem hlt]; simp [List.getD_eq_getElem?_getD, hlt]
      have HTS := Aside0.mk hts
      clear hts hl hR hvi
      generalize zs.getD k 0 = x at hc HTS
      go_wp2_with (at_builtin; refine wpList_append_own _ rfl _ _ 137 rfl w.heap.size 2 i0 (.int .i64 0) 1 8 Tryz.underlying137 HI.out.1 HI.out.2.1 HI.out.2.2.1 HI.out.2.2.2 rfl (by decide) _ k (nums .i64 (zs.take k)) rfl (World.ownsRow.alloc (by have := HR.out.own; rwa [HL.out] at this) _) ⟨wr.heap.size, 0, none⟩ 1 1 [.int .i64 x] rfl rfl (cell_one_new _ _ _) ?q2 ?q3 ?q4 ?q5 ?_)
      case q2 => intro u hu; simp at hu; subst hu; rfl
      case q3 => unfold maxLen; omega
      case q4 => omega
      case q5 => simp; omega
      intro v' w1 hown hgr _
      obtain ⟨V', c', hv'⟩ := own_slice hown
      subst hv'
      have hstep := HR.out.step (by rw [HL.out]; exact hown) ((World.grownBy_alloc _ _ _).trans hgr)
      have HSTEP := Aside0.mk hstep
      have hq := ((World.grownBy_alloc wr _ _).trans hgr).block (w.heap.size + 1) hzz (fun hc => by
        obtain ⟨c', hc'⟩ := own_block HR.out.own hc.symm
        exact absurd (blk_type HR.out.p hc') (by decide))
      have hp1 : w1.cell? ⟨w.heap.size + 1, 0, none⟩ = some vi := by rw [World.cell?_of_block (a := ⟨w.heap.size + 1, 0, none⟩) hq]; exact hp0
      have hp2 : w1.frozen? ⟨w.heap.size + 1, 0, none⟩ = false := by rw [World.frozen?_of_block (a := ⟨w.heap.size + 1, 0, none⟩) hq]; exact blk_frozen HR.out.p _
      clear hown hgr hstep hq hp0
      go_wp2
      go_roundw
      case rel => exact ⟨k + 1, by omega, by go_num, ⟨_, by rw [HTS.out]; exact HSTEP.out⟩⟩
      case measure => simp [intOf]; omega
    · have hk' : k = zs.length := by omega
      have hz : zs.take k = zs := by rw [hk', List.take_length]
      rw [hz] at hR HR hvi
      subst hvi
      have hbz := hR.bel.size
      have hzz := blk_lt hR.p
      clear hz hl hR HL
      go_wp2_with (go_at_call 73; refine (sort_own w.heap.size _ zs _ HR.out.own (by omega)).mono ?_; rintro e w1 ⟨rfl, hown, hgr⟩; have HR1 := Aside0.mk (HR.out.sorted (srt_length zs) hown hgr); clear hown hgr)
      have hp1 : w1.cell? ⟨w.heap.size + 1, 0, none⟩ = some (.slice V zs.length c) := by rw [blk_cell HR1.out.p]; rfl
      have hz1 := blk_lt HR1.out.p
      have hle := srt_le zs
      have HLE := Aside0.mk hle
      have HSL := Aside0.mk (srt_length zs)
      clear hle
      go_region_held3 (fun w' => w'.cell? ⟨w.heap.size + 1, 0, none⟩ = some (.slice V zs.length c))
        (first
          | (rw [hbc.cell (p := ⟨w.heap.size + 1, 0, none⟩) hz1]; assumption)
          | (rw [hgc.cell_far ⟨w.heap.size + 1, 0, none⟩ hz2 hnec]; assumption)
          | go_keep)
        (first
          | (go_at_call 75; refine (clone64_own w.heap.size _ (srt zs) _ (by have := HR1.out.own; rw [HSL.out] at this ⊢; exact this) (by rw [HSL.out]; omega)).mono ?_; rintro e w2 ⟨v2, rfl, hown2, hbc⟩; have hz2 := Nat.lt_of_lt_of_le hz1 hbc.size; have hnec : some (w.heap.size + 1) ≠ v2.ownBlock := (fun e => by have h1 := own_base hown2 _ e.symm; have h2 : w1.heap.size ≤ w.heap.size + 1 := h1; omega))
          | (go_at_call 74; refine (compact_own _ v2 (srt zs) _ hown2 HLE.out (by rw [HSL.out]; omega)).mono ?_; rintro e w3 ⟨A3, m3, c3, rfl, hm3, hm4, hgc⟩))
      have hbb : Below w1.heap.size w1 w3 := by
        have h1 : Below w1.heap.size w1 w2 := ⟨hbc.os, hbc.tape, hbc.output, hbc.size, hbc.block⟩
        exact h1.grown hgc h1.size (fun k hk => own_base hown2 k hk)
      have HR3 := Aside0.mk (HR1.out.below hbb)
      rw [srt_length] at hm3 hm4
      have HM := Aside0.mk hm4
      clear hm4 hbb hbc hgc hown2 hz2 hnec
      by_cases hnd : (srt zs).Pairwise (· < ·)
      · have hm3' : m3 = zs.length := HM.out.2 hnd
        have hmm : ((m3 : Int) != (zs.length : Int)) = false := by simp [hm3']
        have HND := Aside0.mk hnd
        clear hm3' hnd
        go_upto_region 10 with fail
        go_cut [] from 33 (fun w' => Aside0 (PlOk w' w.heap.size (w.heap.size + 1) (pl0 (srt zs)) ∧ w'.heap[w.heap.size]? = some (.cells #[.bool d, .slice A1 zs.length c1, .slice A2 es.length c2] 25 (0, 0)) ∧ Below w.heap.size w w'))
        case first =>
          have hq0 : w3.cell? ⟨w.heap.size + 1, 0, none⟩ = some (.slice V zs.length c) := by rw [blk_cell HR3.out.p]; rfl
          have hq1 : w3.cell? ⟨w.heap.size + 1, 1, none⟩ = some (.slice none 0 0) := by rw [blk_cell HR3.out.p]; rfl
          have hq2 : w3.cell? ⟨w.heap.size + 1, 2, none⟩ = some (.slice none 0 0) := by rw [blk_cell HR3.out.p]; rfl
          have hf1 := blk_frozen HR3.out.p 1
          have hf2 := blk_frozen HR3.out.p 2
          have hz3 := blk_lt HR3.out.p
          have hz4 : w.heap.size < w3.heap.size := by omega
          obtain ⟨NC, hNC⟩ : ∃ NC, NC = madeCells #[Value.slice none 0 0] zs.length := ⟨_, rfl⟩
          have hmk : ∀ W : World, (Instr.makeSlice 138 (.int .i64 (zs.length : Int)) (.int .i64 (zs.length : Int))).run Tryz.prog W = .ok (.slice (some ⟨W.heap.size, 0, none⟩) zs.length zs.length) (W.alloc (.cells NC 176)) := fun W => by
            rw [hNC]; exact run_make_row' 138 176 _ 24 Tryz.underlying138 Tryz.info176 rfl .i64 .i64 zs.length (by omega) (by omega) W
          have HNC := Aside0.mk hNC
          clear hNC
          go_region
          all_goals
            go_wp2
            go_meet
            case rel => first | exact ⟨two_tables HR3.out (by rw [srt_length]; exact hn) _ (srt_length zs).symm NC HNC.out _ _ (.inl ⟨rfl, rfl⟩)⟩ | exact ⟨two_tables HR3.out (by rw [srt_length]; exact hn) _ (srt_length zs).symm NC HNC.out _ _ (.inr ⟨rfl, rfl⟩)⟩
        case rest =>
          obtain ⟨hq1, hq2, hq3⟩ := hcut
          have hg1 : wc.cell? ⟨w.heap.size, 2, none⟩ = some (.slice A2 es.length c2) := by rw [blk_cell hq2]; rfl
          have HQ := Aside0.mk (show Rd2 w wc d (.slice A1 zs.length c1) (.slice A2 es.length c2) zs (es.take 0) from ⟨rfl, hq1, hq2, hq3⟩)
          clear hq1 hq2 hq3
          go_wp2
          go_loopw [73] (fun i wr => ∃ k : Nat, k ≤ es.length ∧ i = .int .i64 k ∧ Aside0 (Rd2 w wr d (.slice A1 zs.length c1) (.slice A2 es.length c2) zs (es.take k))) (fun i _ => es.length - (intOf i).toNat)
          case atStart => exact ⟨0, Nat.zero_le _, rfl, HQ⟩
          case round =>
            clear HQ hg1
            obtain ⟨k, hk, rfl, hQ⟩ := hrel
            by_cases hlt : k < es.length
            · obtain ⟨ad, rfl, hc0, hc1, hc2⟩ := at_T38 (Kd.C_below HE.out ⟨hQ.out.bel.os, hQ.out.bel.tape, hQ.out.bel.output, hQ.out.bel.size, hQ.out.bel.block⟩) (k : Int) (by omega) (by omega)
              rw [Int.toNat_natCast] at hc0 hc1 hc2
              have hrd : rd_T38 es (k : Int) = es[k] := by unfold rd_T38; simp [List.getD_eq_getElem?_getD, hlt]
              have hts : es.take (k + 1) = es.take k ++ [rd_T38 es (k : Int)] := by rw [hrd]; exact List.take_succ_eq_append_getElem hlt
              have hal : es.all (goodE zs) = true → goodE zs (rd_T38 es (k : Int)) = true := fun h => by rw [hrd]; exact (List.all_eq_true.1 h) _ (List.getElem_mem _)
              have HTS := Aside0.mk hts
              have HAL := Aside0.mk hal
              clear hrd hts hal
              generalize rd_T38 es (k : Int) = e at hc0 hc1 hc2 HTS HAL
              have hw8 : Below wr.heap.size wr (wr.alloc (.cells #[.int .i64 e.f0, .int .i64 e.f1, .int .i64 e.f2] 34)) := (Below.refl _ _).alloc (Nat.le_refl _) _
              have HP8 := Aside0.mk (hQ.out.ok.below hw8)
              have HID := Aside0.mk (plOf_ids d zs (es.take k))
              have HSO := Aside0.mk (show (plOf d zs (es.take k)).ids.Pairwise (· < ·) by rw [HID.out]; exact HND.out)
              have HLE2 := Aside0.mk (show (plOf d zs (es.take k)).ids.length ≤ 1000 by rw [HID.out, srt_length]; exact hn)
              clear hw8
              have hgd : wr.cell? ⟨w.heap.size, 0, none⟩ = some (.bool d) := by rw [blk_cell hQ.out.g]; rfl
              have hbz := blk_lt hQ.out.g
              rcases edge_ways HND.out e with ⟨hgo, m0, m1, m2, m3, m4⟩ | ⟨hbad, hways⟩
              · have HGO := Aside0.mk hgo
                clear hgo
                have hr := goodE_rank HND.out HGO.out
                have HRK := Aside0.mk hr
                clear hr
                have hpg := plOf_good d zs hn HND.out (es.take k) hQ.out.all
                have HPG := Aside0.mk hpg
                clear hpg
                go_wp2_with (first | (go_at_call 70; refine (pl_index w.heap.size (w.heap.size + 1) (plOf d zs (es.take k)) _ _ HP8.out HSO.out HLE2.out).mono ?_; rintro e' w' ⟨rfl, rfl⟩; rw [HID.out]) | (go_at_call 76; refine (lay_any w.heap.size (w.heap.size + 1) (plOf d zs (es.take k)) (rank (srt zs) e.f0) (rank (srt zs) e.f1) _ d _ HP8.out HPG.out (by rw [HID.out]; exact HRK.out.1) (by rw [HID.out]; exact HRK.out.2) (by simp; omega)).mono ?_; rintro e' w4 ⟨rfl, hok4, hbl4, hkt4⟩))
                go_roundw
                case rel =>
                  refine ⟨k + 1, by omega, by go_num, ⟨?_, ?_, ?_, ?_⟩⟩
                  · rw [HTS.out, List.all_append, hQ.out.all]; simp [HGO.out]
                  · rw [HTS.out, plOf_snoc]; unfold layE; rw [HID.out]; exact hok4
                  · exact (hkt4 _ _ _ ((Below.heap_alloc _ _ _ hbz).trans hQ.out.g) (by decide) (by decide)).trans ((Below.heap_alloc _ _ _ hbz).trans hQ.out.g)
                  · exact (hQ.out.bel.alloc hQ.out.bel.size _).trans hbl4
                case measure => simp [intOf]; omega
              · have HBAD := Aside0.mk hbad
                clear hbad
                rcases hways with m0 | ⟨m0, m1⟩ | ⟨m0, m1, m2⟩ | ⟨m0, m1, m2, m3⟩ | ⟨m0, m1, m2, m3, m4⟩
                all_goals
                  have hro : readOk zs es = false := by
                    cases h : readOk zs es with
                    | false => rfl
                    | true =>
                      unfold readOk at h
                      rw [Bool.and_eq_true] at h
                      have := HAL.out h.2
                      rw [HBAD.out] at this; cases this
                  have HRO := Aside0.mk hro
                  clear hro
                  go_wp2_with (go_at_call 70; refine (pl_index w.heap.size (w.heap.size + 1) (plOf d zs (es.take k)) _ _ HP8.out HSO.out HLE2.out).mono ?_; rintro e' w' ⟨rfl, rfl⟩; rw [HID.out])
                  go_ret2
                  exact ⟨by rw [HRO.out]; rfl, hQ.out.bel.alloc hQ.out.bel.size _, ids_of_pl HP8.out HLE2.out, fun h => by rw [HRO.out] at h; cases h⟩
            · have hk' : k = es.length := by omega
              have hts : es.take k = es := by rw [hk', List.take_length]
              have h1 := hQ.out
              rw [hts] at h1
              have hro : readOk zs es = true := by unfold readOk; rw [decide_eq_true HND.out, h1.all]; rfl
              have HRO := Aside0.mk hro
              have H1 := Aside0.mk h1
              clear hro h1 hts hQ
              go_wp2
              go_ret2
              exact ⟨by rw [HRO.out]; rfl, H1.out.bel, ids_of_pl H1.out.ok (by rw [plOf_ids, srt_length]; exact hn), fun _ => H1.out.ok⟩
      · have hmm : ((m3 : Int) != (zs.length : Int)) = true := by
          simp
          intro e
          exact hnd (HM.out.1 (by omega))
        have hro : readOk zs es = false := by unfold readOk; rw [decide_eq_false hnd]; rfl
        have HRO := Aside0.mk hro
        clear hro hnd
        go_wp2
        go_ret2
        exact ⟨by rw [HRO.out]; rfl, HR3.out.bel, ids_of_rd HR3.out (by rw [srt_length]; exact hn), fun h => by rw [HRO.out] at h; cases h⟩
end Go.Proofs.YtolbfjjgdheikaaGreat.R


/- impl.open and impl.from. -/
namespace Go.Proofs.YtolbfjjgdheikaaGreat.R
open Go.RowKit Go.Lab Go.Proofs.YtolbfjjgdheikaaGreatW.PrintWords Go.Proofs.YtolbfjjgdheikaaGreatW.PrintLast Go.Proofs.YtolbfjjgdheikaaGreatW.PrintMore PL

theorem IdsAt.below {w w1 : World} {base bp : Nat} (h : IdsAt w base bp) (hb : Below w.heap.size w w1) : IdsAt w1 base bp := by
  obtain ⟨vi, ids, hc, ho, hn⟩ := h
  refine ⟨vi, ids, ?_, pw_own_below ho hb, hn⟩
  rw [hb.cell (p := ⟨bp, 0, none⟩) (World.block_lt_of_cell? w ⟨bp, 0, none⟩ hc)]; exact hc

end Go.Proofs.YtolbfjjgdheikaaGreat.R


/- The iterator over nodes in order. -/
namespace Go.Proofs.YtolbfjjgdheikaaGreat.R
open Go.RowKit Go.Lab Go.Proofs.YtolbfjjgdheikaaGreatW.PrintWords Go.Proofs.YtolbfjjgdheikaaGreatW.PrintLast Go.Proofs.YtolbfjjgdheikaaGreatW.PrintMore PL

theorem OIt.cells {lo B : Nat} {w : World} {b : Nat} {xs : List Int} {k : Nat} (h : OIt lo B w b xs k) : ∃ A c, w.cell? ⟨b, 0, none⟩ = some (.int .i64 ((k : Int) - 1)) ∧ w.cell? ⟨b, 1, none⟩ = some (.slice A xs.length c) ∧ w.frozen? ⟨b, 0, none⟩ = false ∧
    (∀ i (hi : i < xs.length), ∃ g, A = some ⟨g, 0, none⟩ ∧ w.cell? ⟨g, i, none⟩ = some (nodeV xs[i]) ∧ g < w.heap.size ∧ xs.length ≤ c) := by
  obtain ⟨v, h1, h2, h3⟩ := h.ex
  obtain ⟨A, c, rfl⟩ := own_slice h2
  refine ⟨A, c, by rw [blk_cell h1]; rfl, by rw [blk_cell h1]; rfl, blk_frozen h1 _, fun i hi => ?_⟩
  obtain ⟨g, c', e1, hvb, hgl⟩ := h2.form (by omega)
  injection e1 with e1 _ e3
  subst e1 e3
  refine ⟨g, rfl, ?_, hgl, own_le h2⟩
  have := h2.cells (g := g) rfl i (nodeV xs[i]) (by simp [nodeVs, hi])
  rw [add_plain] at this
  exact this

theorem Mid.drew (lo B : Nat) (w : World) : Mid lo B w w.drew := ⟨rfl, rfl, rfl, Nat.le_refl _, fun _ _ _ => rfl⟩
theorem OIt.drew {lo B : Nat} {w : World} {b : Nat} {xs : List Int} {k : Nat} (h : OIt lo B w b xs k) : OIt lo B w.drew b xs k := h.far fun _ _ _ => rfl

theorem OIt.to' {lo B : Nat} {w : World} {b : Nat} {xs : List Int} {k : Nat} (h : OIt lo B w b xs k) (k' : Nat) (hk : k' ≤ xs.length + 1) (v : Int) (hv : v = (k' : Int) - 1) : OIt lo B (w.setCell ⟨b, 0, none⟩ (.int .i64 v)) b xs k' := by
  subst hv; exact h.to k' hk

set_option maxHeartbeats 4000000 in
set_option maxRecDepth 100000 in
theorem next_any (lo B b k : Nat) (xs : List Int) (w : World) (h : OIt lo B w b xs k) (hl : xs.length ≤ 100000) :
    Calls Tryz.prog 217 #[.pointer (some ⟨b, 0, none⟩)] w fun e w' => e = .returned (.bool (decide (k < xs.length))) ∧ OIt lo B w' b xs (if k < xs.length then k + 1 else xs.length + 1) ∧ Mid lo B w w' := by
  have HO := Aside0.mk h
  obtain ⟨A, c, h0, h1, hf, hx⟩ := h.cells
  have hk := h.hk
  have hb := h.lt
  have hb2 := h.hb
  have hwr : IntKind.u64.wrap (IntKind.u64.wrap ((k : Int) - 1) + 1) = (k : Int) := by
    simp only [IntKind.wrap_u64]; omega
  clear h hx
  by_cases hlt : k < xs.length
  · rw [if_pos hlt]
    have hd : decide (k < xs.length) = true := by simpa using hlt
    have hdd : decide ((k : Int) < (xs.length : Int)) = true := by simpa using hlt
    rw [hd]
    have HE := Aside0.mk (HO.out.to' (k + 1) (by omega) (k : Int) (by omega)).drew
    go_enter Tryz.func217, Tryz.ntmps217
    go_wp2_with fail
    go_region
    all_goals
      go_wp2
      go_ret
      exact ⟨rfl, HE.out, (Mid.set _ _ _ hb2.1 hb2.2).trans (Mid.drew lo B _)⟩
  · rw [if_neg hlt]
    have hd : decide (k < xs.length) = false := by simpa using hlt
    have hdd : decide ((k : Int) < (xs.length : Int)) = false := by simpa using hlt
    rw [hd]
    have HE := Aside0.mk (HO.out.to' (xs.length + 1) (by omega) (xs.length : Int) (by omega)).drew
    go_enter Tryz.func217, Tryz.ntmps217
    go_wp2_with fail
    go_region
    all_goals
      go_wp2
      go_ret
      exact ⟨rfl, HE.out, (Mid.set _ _ _ hb2.1 hb2.2).trans (Mid.drew lo B _)⟩
end Go.Proofs.YtolbfjjgdheikaaGreat.R


/- Node, Reset, NewOrderedNodes, and the iterator over all nodes of a plain graph. -/
namespace Go.Proofs.YtolbfjjgdheikaaGreat.R
open Go.RowKit Go.Lab Go.Proofs.YtolbfjjgdheikaaGreatW.PrintWords Go.Proofs.YtolbfjjgdheikaaGreatW.PrintLast Go.Proofs.YtolbfjjgdheikaaGreatW.PrintMore PL

set_option maxHeartbeats 4000000 in
set_option maxRecDepth 100000 in
theorem nodeI_any (lo B b k : Nat) (xs : List Int) (w : World) (h : OIt lo B w b xs (k + 1)) (hk : k < xs.length) (hl : xs.length ≤ 100000) :
    Calls Tryz.prog 218 #[.pointer (some ⟨b, 0, none⟩)] w fun e w' => e = .returned (nodeV xs[k]) ∧ Drawn0 w w' := by
  obtain ⟨A, c, h0, h1, hf, hx⟩ := h.cells
  obtain ⟨g, rfl, hg, hgl, hc⟩ := hx k hk
  have hb := h.lt
  rw [show (((k + 1 : Nat) : Int) - 1) = (k : Int) by omega] at h0
  clear h hx
  have hi1 : (0 : Int) ≤ (k : Int) := by omega
  have hi2 : (k : Int) < (xs.length : Int) := by omega
  have hd1 : decide ((xs.length : Int) ≤ (k : Int)) = false := by simp; omega
  have hd2 : decide ((k : Int) < 0) = false := by simp
  generalize xs[k] = x at hg
  go_enter Tryz.func218, Tryz.ntmps218
  go_wp2_with fail
  go_quiet (fail)
  go_wp2_with fail
  go_quiet (fail)
  go_wp2
  go_ret
  exact ⟨rfl, by repeat (first | exact Drawn0.refl _ | apply Drawn0.step)⟩

set_option maxHeartbeats 400000 in
theorem new_any (A : Option Addr) (n c : Nat) (w : World) :
    Calls Tryz.prog 194 #[.slice A n c] w fun e w' => e = .returned (.pointer (some ⟨w.heap.size, 0, none⟩)) ∧ w.alloc (.cells #[.int .i64 (-1), .slice A n c] 258) = w' := by
  go_enter Tryz.func194, Tryz.ntmps194
  go_wp2
  go_ret
  exact ⟨rfl, rfl⟩

/-- a row of nodes with a new iterator -/
theorem OIt.made {w wr : World} {v : Value} {xs : List Int} (ho : wr.ownsRow w.heap.size 72 1 v xs.length (nodeVs xs)) (hw : w.heap.size ≤ wr.heap.size) :
    OIt w.heap.size (wr.heap.size + 1) (wr.alloc (.cells #[.int .i64 (-1), v] 258)) wr.heap.size xs 0 :=
  ⟨⟨v, heap_alloc_new _ _, ho.alloc _, fun q hq => Nat.lt_succ_of_lt (ho.lt q hq).2⟩, ⟨hw, Nat.lt_succ_self _⟩, Nat.zero_le _⟩

theorem PlOk.idsC {w : World} {base bp : Nat} {p : Pl} (h : PlOk w base bp p) : ∃ A c, w.cell? ⟨bp, 0, none⟩ = some (.slice A p.ids.length c) ∧ Kd.C (Kd.int .i64) w A p.ids.length p.ids ∧ bp < w.heap.size := by
  obtain ⟨ro, ri, vi, vo, vn, hp⟩ := h
  obtain ⟨A, c, rfl, hr⟩ := own_reads hp.ids
  exact ⟨A, c, by rw [blk_cell hp.blk]; rfl, Kd.C_of_reads hr, blk_lt hp.blk⟩

theorem make_nodes (n : Nat) (hn : n ≤ 1000) (W : World) : (Instr.makeSlice 68 (.int .i64 0) (.int .i64 (n : Int))).run Tryz.prog W = .ok (.slice (some ⟨W.heap.size, 0, none⟩) 0 n) (W.alloc (.cells (madeCells #[.nilIface] n) 72)) := by
  obtain ⟨i0, hi, hz0, hz1, hz2⟩ := info_parts Tryz.info72
  have := run_make (P := Tryz.prog) W 68 72 i0 .nilIface Tryz.underlying68 hi hz0 .i64 .i64 0 n (by omega) (by omega) (by rw [hz2]; omega) (by omega)
  simpa [hz1, Value.cells] using this

set_option maxHeartbeats 2000000 in
set_option maxRecDepth 100000 in
theorem all_any (base bp : Nat) (p : Pl) (w : World) (h : PlOk w base bp p) (hn : p.ids.length ≤ 1000) :
    Calls Tryz.prog 193 #[.pointer (some ⟨bp, 0, none⟩)] w fun e w' => ∃ b, e = .returned (.iface 255 (.pointer (some ⟨b, 0, none⟩))) ∧ OIt w.heap.size w'.heap.size w' b p.ids 0 ∧ Below w.heap.size w w' := by
  obtain ⟨A, c, hcell, hC, hbl⟩ := h.idsC
  have HC := Aside0.mk hC
  obtain ⟨i0, hi, hz0, hz1, hz2⟩ := info_parts Tryz.info72
  have HI := Aside0.mk (And.intro hi (And.intro hz0 (And.intro hz1 hz2)))
  have hmk := make_nodes p.ids.length hn
  clear h hC hi hz0 hz1 hz2
  generalize p.ids = xs at *
  go_enter Tryz.func193, Tryz.ntmps193
  go_wp2
  go_loopw [3, 17] (fun v i wr => ∃ k : Nat, k ≤ xs.length ∧ i = .int .i64 k ∧ Aside0 (wr.ownsRow w.heap.size 72 1 v k (nodeVs (xs.take k)) ∧ Below w.heap.size w wr)) (fun _ i _ => xs.length - (intOf i).toNat)
  case atStart => exact ⟨0, Nat.zero_le _, rfl, ⟨World.ownsRow_made w _ xs.length (Nat.le_refl _) (by unfold maxLen; omega) (by rw [size_madeCells, Nat.mul_one]), (Below.refl _ _).alloc (Nat.le_refl _) _⟩⟩
  case round =>
    obtain ⟨k, hk, rfl, HR⟩ := hrel
    by_cases hlt : k < xs.length
    · have hbw := HR.out.2.size
      obtain ⟨ad, rfl, hc⟩ := C_int_at (Kd.C_below HC.out HR.out.2) k hlt
      have hts : nodeVs (xs.take (k + 1)) = nodeVs (xs.take k) ++ [nodeV (xs.getD k 0)] := by
        have hge : xs.getD k 0 = xs[k] := by simp [List.getD_eq_getElem?_getD, hlt]
        rw [hge, List.take_succ_eq_append_getElem hlt]; unfold nodeVs; rw [List.map_append]; rfl
      have HTS := Aside0.mk hts
      clear hts
      generalize xs.getD k 0 = x at hc HTS
      go_wp2_with (at_builtin; refine wpList_append_own _ rfl _ _ 68 rfl w.heap.size 72 i0 .nilIface 1 16 Tryz.underlying68 HI.out.1 HI.out.2.1 HI.out.2.2.1 HI.out.2.2.2 rfl (by decide) _ k (nodeVs (xs.take k)) rfl (World.ownsRow.alloc HR.out.1 _) ⟨wr.heap.size, 0, none⟩ 1 1 [nodeV x] rfl rfl (cell_one_new _ _ _) ?q2 ?q3 ?q4 ?q5 ?_)
      case q2 => intro u hu; simp at hu; subst hu; rfl
      case q3 => unfold maxLen; omega
      case q4 => omega
      case q5 => simp; omega
      intro v' w1 hown hgr _
      have HO := Aside0.mk hown
      have HGR := Aside0.mk hgr
      clear hown hgr
      go_wp2
      go_roundw
      case rel => exact ⟨k + 1, by omega, by go_num, ⟨by rw [HTS.out]; exact HO.out, (HR.out.2.alloc hbw _).grown HGR.out (by simp; omega) (fun q hq => own_base HR.out.1 q hq)⟩⟩
      case measure => simp [intOf]; omega
    · have hk' : k = xs.length := by omega
      have hts : xs.take k = xs := by rw [hk', List.take_length]
      have h1 := HR.out
      rw [hts, hk'] at h1
      obtain ⟨V, C, rfl⟩ := own_slice h1.1
      have H1 := Aside0.mk h1
      clear h1 hts HR
      go_wp2_with (go_at_call 194; refine (new_any _ _ _ _).mono ?_; rintro e w1 ⟨rfl, rfl⟩)
      go_ret
      exact ⟨wr.heap.size, rfl, by simpa using OIt.made H1.out.1 H1.out.2.size, H1.out.2.alloc H1.out.2.size _⟩
end Go.Proofs.YtolbfjjgdheikaaGreat.R

