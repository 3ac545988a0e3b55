import Derived.Test.YtddklkgcodjijaaGreatAG1
import Derived.Deep.RegionHeld3
import Derived.Laws.MakeOwn
import Derived.Laws.Cover2
import Derived.BigRegion
import Derived.Deep.Cut
import Derived.OwnWalk
import Derived.Test.YtddklkgcodjijaaGreatAG2
import Derived.Maps.OwnSet
import Derived.Maps.AppendAt
import Derived.KernelRfl
set_option linter.unusedVariables false
set_option linter.unusedSimpArgs false
/- impl.read once more: also what is read of a bad graph can be searched. -/
namespace Go.Proofs.YtddklkgcodjijaaGreat.R
open Go.RowKit Go.Lab Go.Proofs.YtddklkgcodjijaaGreatW.PrintWords Go.Proofs.YtddklkgcodjijaaGreatW.PrintLast Go.Proofs.YtddklkgcodjijaaGreatW.PrintMore Go.Proofs.YtddklkgcodjijaaGreat.PL

/-- the row of nodes is there, whatever is in it -/
def IdsAt (w : World) (base bp : Nat) : Prop := ∃ vi ids, w.cell? ⟨bp, 0, none⟩ = some vi ∧ w.ownsRow base 2 1 vi ids.length (nums .i64 ids) ∧ ids.length ≤ 1000
theorem ids_of_pl {w : World} {base bp : Nat} {p : Pl} (h : PlOk w base bp p) (hn : p.ids.length ≤ 1000) : IdsAt w base bp := by
  obtain ⟨ro, ri, vi, vo, vn, hp⟩ := h
  exact ⟨vi, p.ids, by rw [blk_cell hp.blk]; rfl, hp.ids, hn⟩
theorem ids_of_rd {w W : World} {d : Bool} {v1 v2 vi : Value} {ids : List Int} (h : Rd1 w W d v1 v2 ids vi) (hn : ids.length ≤ 1000) : IdsAt W w.heap.size (w.heap.size + 1) :=
  ⟨vi, ids, by rw [blk_cell h.p]; rfl, h.own, hn⟩

set_option maxHeartbeats 4000000 in
set_option maxRecDepth 100000 in
theorem read_any2 (d : Bool) (A1 A2 : Option Addr) (c1 c2 : Nat) (zs : List Int) (es : List S95) (w : World)
    (hN : Kd.C (Kd.int .i64) w A1 zs.length zs) (hE : Kd.C k95 w A2 es.length es) (hn : zs.length ≤ 1000) (he : es.length ≤ 1000000) :
    Calls Tryz.prog 66 #[.agg #[.bool d, .slice A1 zs.length c1, .slice A2 es.length c2]] w fun e w' => e = .returned (.tuple #[.pointer (some ⟨w.heap.size + 1, 0, none⟩), .bool (readOk zs es)]) ∧ Below w.heap.size w w' ∧ IdsAt w' w.heap.size (w.heap.size + 1) ∧ (readOk zs es = true → PlOk w' w.heap.size (w.heap.size + 1) (plOf d zs es)) := by
  have HN := Aside0.mk hN
  have HE := Aside0.mk hE
  obtain ⟨i0, hi, hz0, hz1, hz2⟩ := info_parts Tryz.info2
  have HI := Aside0.mk (And.intro hi (And.intro hz0 (And.intro hz1 hz2)))
  clear hN hE hi hz0 hz1 hz2
  go_enter Tryz.func66, Tryz.ntmps66
  go_wp2
  go_loopw [18] (fun i wr => ∃ k : Nat, k ≤ zs.length ∧ i = .int .i64 k ∧ Aside0 (Rd1Ok w wr d (.slice A1 zs.length c1) (.slice A2 es.length c2) (zs.take k))) (fun i _ => zs.length - (intOf i).toNat)
  case atStart =>
    refine ⟨0, Nat.zero_le _, rfl, ⟨.slice none 0 0, ?_, ?_, World.ownsRow_nil _ _ _ _, ?_⟩⟩
    · rw [Below.heap_alloc _ _ _ (by simp)]; exact heap_alloc_new _ _
    · have := heap_alloc_new (w.alloc (Obj.cells #[Value.bool d, Value.slice A1 zs.length c1, Value.slice A2 es.length c2] 25)) (Obj.cells #[Value.slice none 0 0, Value.slice none 0 0, Value.slice none 0 0] 83)
      simpa using this
    · exact ((Below.refl _ w).alloc (Nat.le_refl _) _).alloc (by simp) _
  case round =>
    obtain ⟨k, hk, rfl, hR⟩ := hrel
    obtain ⟨vi, hR⟩ := hR.out
    have hp0 : wr.cell? ⟨w.heap.size + 1, 0, none⟩ = some vi := by rw [blk_cell hR.p]; rfl
    obtain ⟨V, c, hvi⟩ := own_slice hR.own
    have hl : (zs.take k).length = k := by rw [List.length_take]; omega
    have HR := Aside0.mk hR
    have HL := Aside0.mk hl
    by_cases hlt : k < zs.length
    · obtain ⟨ad, rfl, hc⟩ := C_int_at (Kd.C_below HN.out ⟨hR.bel.os, hR.bel.tape, hR.bel.output, hR.bel.size, hR.bel.block⟩) k hlt
      have hbz := hR.bel.size
      have hzz := blk_lt hR.p
      have hts : zs.take (k + 1) = zs.take k ++ [zs.getD k 0] := by
        rw [List.take_succ_eq_append_getElem hlt]; simp [List.getD_eq_getElem?_getD, hlt]
      have HTS := Aside0.mk hts
      clear hts hl hR hvi
      generalize zs.getD k 0 = x at hc HTS
      go_wp2_with (at_builtin; refine wpList_append_own _ rfl _ _ 80 rfl w.heap.size 2 i0 (.int .i64 0) 1 8 Tryz.underlying80 HI.out.1 HI.out.2.1 HI.out.2.2.1 HI.out.2.2.2 rfl (by decide) _ k (nums .i64 (zs.take k)) rfl (World.ownsRow.alloc (by have := HR.out.own; rwa [HL.out] at this) _) ⟨wr.heap.size, 0, none⟩ 1 1 [.int .i64 x] rfl rfl (cell_one_new _ _ _) ?q2 ?q3 ?q4 ?q5 ?_)
      case q2 => intro u hu; simp at hu; subst hu; rfl
      case q3 => unfold maxLen; omega
      case q4 => omega
      case q5 => simp; omega
      intro v' w1 hown hgr _
      obtain ⟨V', c', hv'⟩ := own_slice hown
      subst hv'
      have hstep := HR.out.step (by rw [HL.out]; exact hown) ((World.grownBy_alloc _ _ _).trans hgr)
      have HSTEP := Aside0.mk hstep
      have hq := ((World.grownBy_alloc wr _ _).trans hgr).block (w.heap.size + 1) hzz (fun hc => by
        obtain ⟨c', hc'⟩ := own_block HR.out.own hc.symm
        exact absurd (blk_type HR.out.p hc') (by decide))
      have hp1 : w1.cell? ⟨w.heap.size + 1, 0, none⟩ = some vi := by rw [World.cell?_of_block (a := ⟨w.heap.size + 1, 0, none⟩) hq]; exact hp0
      have hp2 : w1.frozen? ⟨w.heap.size + 1, 0, none⟩ = false := by rw [World.frozen?_of_block (a := ⟨w.heap.size + 1, 0, none⟩) hq]; exact blk_frozen HR.out.p _
      clear hown hgr hstep hq hp0
      go_wp2
      go_roundw
      case rel => exact ⟨k + 1, by omega, by go_num, ⟨_, by rw [HTS.out]; exact HSTEP.out⟩⟩
      case measure => simp [intOf]; omega
    · have hk' : k = zs.length := by omega
      have hz : zs.take k = zs := by rw [hk', List.take_length]
      rw [hz] at hR HR hvi
      subst hvi
      have hbz := hR.bel.size
      have hzz := blk_lt hR.p
      clear hz hl hR HL
      go_wp2_with (go_at_call 91; refine (sort_own w.heap.size _ zs _ HR.out.own (by omega)).mono ?_; rintro e w1 ⟨rfl, hown, hgr⟩; have HR1 := Aside0.mk (HR.out.sorted (srt_length zs) hown hgr); clear hown hgr)
      have hp1 : w1.cell? ⟨w.heap.size + 1, 0, none⟩ = some (.slice V zs.length c) := by rw [blk_cell HR1.out.p]; rfl
      have hz1 := blk_lt HR1.out.p
      have hle := srt_le zs
      have HLE := Aside0.mk hle
      have HSL := Aside0.mk (srt_length zs)
      clear hle
      go_region_held3 (fun w' => w'.cell? ⟨w.heap.size + 1, 0, none⟩ = some (.slice V zs.length c))
        (first
          | (rw [hbc.cell (p := ⟨w.heap.size + 1, 0, none⟩) hz1]; assumption)
          | (rw [hgc.cell_far ⟨w.heap.size + 1, 0, none⟩ hz2 hnec]; assumption)
          | go_keep)
        (first
          | (go_at_call 93; refine (clone64_own w.heap.size _ (srt zs) _ (by have := HR1.out.own; rw [HSL.out] at this ⊢; exact this) (by rw [HSL.out]; omega)).mono ?_; rintro e w2 ⟨v2, rfl, hown2, hbc⟩; have hz2 := Nat.lt_of_lt_of_le hz1 hbc.size; have hnec : some (w.heap.size + 1) ≠ v2.ownBlock := (fun e => by have h1 := own_base hown2 _ e.symm; have h2 : w1.heap.size ≤ w.heap.size + 1 := h1; omega))
          | (go_at_call 92; refine (compact_own _ v2 (srt zs) _ hown2 HLE.out (by rw [HSL.out]; omega)).mono ?_; rintro e w3 ⟨A3, m3, c3, rfl, hm3, hm4, hgc⟩))
      have hbb : Below w1.heap.size w1 w3 := by
        have h1 : Below w1.heap.size w1 w2 := ⟨hbc.os, hbc.tape, hbc.output, hbc.size, hbc.block⟩
        exact h1.grown hgc h1.size (fun k hk => own_base hown2 k hk)
      have HR3 := Aside0.mk (HR1.out.below hbb)
      rw [srt_length] at hm3 hm4
      have HM := Aside0.mk hm4
      clear hm4 hbb hbc hgc hown2 hz2 hnec
      by_cases hnd : (srt zs).Pairwise (· < ·)
      · have hm3' : m3 = zs.length := HM.out.2 hnd
        have hmm : ((m3 : Int) != (zs.length : Int)) = false := by simp [hm3']
        have HND := Aside0.mk hnd
        clear hm3' hnd
        go_upto_region 10 with fail
        go_cut [] from 33 (fun w' => Aside0 (PlOk w' w.heap.size (w.heap.size + 1) (pl0 (srt zs)) ∧ w'.heap[w.heap.size]? = some (.cells #[.bool d, .slice A1 zs.length c1, .slice A2 es.length c2] 25 (0, 0)) ∧ Below w.heap.size w w'))
        case first =>
          have hq0 : w3.cell? ⟨w.heap.size + 1, 0, none⟩ = some (.slice V zs.length c) := by rw [blk_cell HR3.out.p]; rfl
          have hq1 : w3.cell? ⟨w.heap.size + 1, 1, none⟩ = some (.slice none 0 0) := by rw [blk_cell HR3.out.p]; rfl
          have hq2 : w3.cell? ⟨w.heap.size + 1, 2, none⟩ = some (.slice none 0 0) := by rw [blk_cell HR3.out.p]; rfl
          have hf1 := blk_frozen HR3.out.p 1
          have hf2 := blk_frozen HR3.out.p 2
          have hz3 := blk_lt HR3.out.p
          have hz4 : w.heap.size < w3.heap.size := by omega
          obtain ⟨NC, hNC⟩ : ∃ NC, NC = madeCells #[Value.slice none 0 0] zs.length := ⟨_, rfl⟩
          have hmk : ∀ W : World, (Instr.makeSlice 81 (.int .i64 (zs.length : Int)) (.int .i64 (zs.length : Int))).run Tryz.prog W = .ok (.slice (some ⟨W.heap.size, 0, none⟩) zs.length zs.length) (W.alloc (.cells NC 195)) := fun W => by
            rw [hNC]; exact run_make_row' 81 195 _ 24 Tryz.underlying81 Tryz.info195 rfl .i64 .i64 zs.length (by omega) (by omega) W
          have HNC := Aside0.mk hNC
          clear hNC
          go_region
          all_goals
            go_wp2
            go_meet
            case rel => first | exact ⟨two_tables HR3.out (by rw [srt_length]; exact hn) _ (srt_length zs).symm NC HNC.out _ _ (.inl ⟨rfl, rfl⟩)⟩ | exact ⟨two_tables HR3.out (by rw [srt_length]; exact hn) _ (srt_length zs).symm NC HNC.out _ _ (.inr ⟨rfl, rfl⟩)⟩
        case rest =>
          obtain ⟨hq1, hq2, hq3⟩ := hcut
          have hg1 : wc.cell? ⟨w.heap.size, 2, none⟩ = some (.slice A2 es.length c2) := by rw [blk_cell hq2]; rfl
          have HQ := Aside0.mk (show Rd2 w wc d (.slice A1 zs.length c1) (.slice A2 es.length c2) zs (es.take 0) from ⟨rfl, hq1, hq2, hq3⟩)
          clear hq1 hq2 hq3
          go_wp2
          go_loopw [73] (fun i wr => ∃ k : Nat, k ≤ es.length ∧ i = .int .i64 k ∧ Aside0 (Rd2 w wr d (.slice A1 zs.length c1) (.slice A2 es.length c2) zs (es.take k))) (fun i _ => es.length - (intOf i).toNat)
          case atStart => exact ⟨0, Nat.zero_le _, rfl, HQ⟩
          case round =>
            clear HQ hg1
            obtain ⟨k, hk, rfl, hQ⟩ := hrel
            by_cases hlt : k < es.length
            · obtain ⟨ad, rfl, hc0, hc1, hc2⟩ := at_T38 (Kd.C_below HE.out ⟨hQ.out.bel.os, hQ.out.bel.tape, hQ.out.bel.output, hQ.out.bel.size, hQ.out.bel.block⟩) (k : Int) (by omega) (by omega)
              rw [Int.toNat_natCast] at hc0 hc1 hc2
              have hrd : rd_T38 es (k : Int) = es[k] := by unfold rd_T38; simp [List.getD_eq_getElem?_getD, hlt]
              have hts : es.take (k + 1) = es.take k ++ [rd_T38 es (k : Int)] := by rw [hrd]; exact List.take_succ_eq_append_getElem hlt
              have hal : es.all (goodE zs) = true → goodE zs (rd_T38 es (k : Int)) = true := fun h => by rw [hrd]; exact (List.all_eq_true.1 h) _ (List.getElem_mem _)
              have HTS := Aside0.mk hts
              have HAL := Aside0.mk hal
              clear hrd hts hal
              generalize rd_T38 es (k : Int) = e at hc0 hc1 hc2 HTS HAL
              have hw8 : Below wr.heap.size wr (wr.alloc (.cells #[.int .i64 e.f0, .int .i64 e.f1, .int .i64 e.f2] 95)) := (Below.refl _ _).alloc (Nat.le_refl _) _
              have HP8 := Aside0.mk (hQ.out.ok.below hw8)
              have HID := Aside0.mk (plOf_ids d zs (es.take k))
              have HSO := Aside0.mk (show (plOf d zs (es.take k)).ids.Pairwise (· < ·) by rw [HID.out]; exact HND.out)
              have HLE2 := Aside0.mk (show (plOf d zs (es.take k)).ids.length ≤ 1000 by rw [HID.out, srt_length]; exact hn)
              clear hw8
              have hgd : wr.cell? ⟨w.heap.size, 0, none⟩ = some (.bool d) := by rw [blk_cell hQ.out.g]; rfl
              have hbz := blk_lt hQ.out.g
              rcases edge_ways HND.out e with ⟨hgo, m0, m1, m2, m3, m4⟩ | ⟨hbad, hways⟩
              · have HGO := Aside0.mk hgo
                clear hgo
                have hr := goodE_rank HND.out HGO.out
                have HRK := Aside0.mk hr
                clear hr
                have hpg := plOf_good d zs hn HND.out (es.take k) hQ.out.all
                have HPG := Aside0.mk hpg
                clear hpg
                go_wp2_with (first | (go_at_call 42; refine (pl_index w.heap.size (w.heap.size + 1) (plOf d zs (es.take k)) _ _ HP8.out HSO.out HLE2.out).mono ?_; rintro e' w' ⟨rfl, rfl⟩; rw [HID.out]) | (go_at_call 94; refine (lay_any w.heap.size (w.heap.size + 1) (plOf d zs (es.take k)) (rank (srt zs) e.f0) (rank (srt zs) e.f1) _ d _ HP8.out HPG.out (by rw [HID.out]; exact HRK.out.1) (by rw [HID.out]; exact HRK.out.2) (by simp; omega)).mono ?_; rintro e' w4 ⟨rfl, hok4, hbl4, hkt4⟩))
                go_roundw
                case rel =>
                  refine ⟨k + 1, by omega, by go_num, ⟨?_, ?_, ?_, ?_⟩⟩
                  · rw [HTS.out, List.all_append, hQ.out.all]; simp [HGO.out]
                  · rw [HTS.out, plOf_snoc]; unfold layE; rw [HID.out]; exact hok4
                  · exact (hkt4 _ _ _ ((Below.heap_alloc _ _ _ hbz).trans hQ.out.g) (by decide) (by decide)).trans ((Below.heap_alloc _ _ _ hbz).trans hQ.out.g)
                  · exact (hQ.out.bel.alloc hQ.out.bel.size _).trans hbl4
                case measure => simp [intOf]; omega
              · have HBAD := Aside0.mk hbad
                clear hbad
                rcases hways with m0 | ⟨m0, m1⟩ | ⟨m0, m1, m2⟩ | ⟨m0, m1, m2, m3⟩ | ⟨m0, m1, m2, m3, m4⟩
                all_goals
                  have hro : readOk zs es = false := by
                    cases h : readOk zs es with
                    | false => rfl
                    | true =>
                      unfold readOk at h
                      rw [Bool.and_eq_true] at h
                      have := HAL.out h.2
                      rw [HBAD.out] at this; cases this
                  have HRO := Aside0.mk hro
                  clear hro
                  go_wp2_with (go_at_call 42; refine (pl_index w.heap.size (w.heap.size + 1) (plOf d zs (es.take k)) _ _ HP8.out HSO.out HLE2.out).mono ?_; rintro e' w' ⟨rfl, rfl⟩; rw [HID.out])
                  go_ret2
                  exact ⟨by rw [HRO.out]; rfl, hQ.out.bel.alloc hQ.out.bel.size _, ids_of_pl HP8.out HLE2.out, fun h => by rw [HRO.out] at h; cases h⟩
            · have hk' : k = es.length := by omega
              have hts : es.take k = es := by rw [hk', List.take_length]
              have h1 := hQ.out
              rw [hts] at h1
              have hro : readOk zs es = true := by unfold readOk; rw [decide_eq_true HND.out, h1.all]; rfl
              have HRO := Aside0.mk hro
              have H1 := Aside0.mk h1
              clear hro h1 hts hQ
              go_wp2
              go_ret2
              exact ⟨by rw [HRO.out]; rfl, H1.out.bel, ids_of_pl H1.out.ok (by rw [plOf_ids, srt_length]; exact hn), fun _ => H1.out.ok⟩
      · have hmm : ((m3 : Int) != (zs.length : Int)) = true := by
          simp
          intro e
          exact hnd (HM.out.1 (by omega))
        have hro : readOk zs es = false := by unfold readOk; rw [decide_eq_false hnd]; rfl
        have HRO := Aside0.mk hro
        clear hro hnd
        go_wp2
        go_ret2
        exact ⟨by rw [HRO.out]; rfl, HR3.out.bel, ids_of_rd HR3.out (by rw [srt_length]; exact hn), fun h => by rw [HRO.out] at h; cases h⟩
end Go.Proofs.YtddklkgcodjijaaGreat.R


/- impl.open and impl.from. -/
namespace Go.Proofs.YtddklkgcodjijaaGreat.R
open Go.RowKit Go.Lab Go.Proofs.YtddklkgcodjijaaGreatW.PrintWords Go.Proofs.YtddklkgcodjijaaGreatW.PrintLast Go.Proofs.YtddklkgcodjijaaGreatW.PrintMore PL

theorem IdsAt.below {w w1 : World} {base bp : Nat} (h : IdsAt w base bp) (hb : Below w.heap.size w w1) : IdsAt w1 base bp := by
  obtain ⟨vi, ids, hc, ho, hn⟩ := h
  refine ⟨vi, ids, ?_, pw_own_below ho hb, hn⟩
  rw [hb.cell (p := ⟨bp, 0, none⟩) (World.block_lt_of_cell? w ⟨bp, 0, none⟩ hc)]; exact hc

end Go.Proofs.YtddklkgcodjijaaGreat.R


/- From and Edge of a plain graph of either kind, exactly. -/
namespace Go.Proofs.YtddklkgcodjijaaGreat.R
open Go.RowKit Go.Lab Go.Maps Go.Proofs.YtddklkgcodjijaaGreatW.PrintWords Go.Proofs.YtddklkgcodjijaaGreatW.PrintLast Go.Proofs.YtddklkgcodjijaaGreatW.PrintMore PL

/-- the arcs of a graph: those of an undirected one both ways -/
def dbl (d : Bool) (es : List S95) : List S95 := if d = true then es else es.flatMap fun e => [e, ⟨e.f1, e.f0, e.f2⟩]
/-- a plain graph in memory, by its arcs -/
structure GrOk (w : World) (base bp : Nat) (zs : List Int) (es : List S95) (p : Pl) : Prop where
  ok : PlOk w base bp p
  good : p.Good
  adj : Adj zs es p
  hs : (srt zs).Pairwise (· < ·)
  hn : zs.length ≤ 1000
theorem GrOk.below {w w1 : World} {base bp : Nat} {zs : List Int} {es : List S95} {p : Pl} (h : GrOk w base bp zs es p) (hb : Below w.heap.size w w1) : GrOk w1 base bp zs es p := ⟨h.ok.below hb, h.good, h.adj, h.hs, h.hn⟩
theorem GrOk.sorted {w : World} {base bp : Nat} {zs : List Int} {es : List S95} {p : Pl} (h : GrOk w base bp zs es p) : p.ids.Pairwise (· < ·) := by rw [h.adj.ids]; exact h.hs

set_option maxHeartbeats 4000000 in
set_option maxRecDepth 100000 in
theorem fromU_any (base bp : Nat) (p : Pl) (u : Int) (w : World) (h : PlOk w base bp p) (hs : p.ids.Pairwise (· < ·)) (hg : p.Good) (hu : u ∈ p.ids) :
    Calls Tryz.prog 222 #[.agg #[.pointer (some ⟨bp, 0, none⟩)], .int .i64 u] w fun e w' => ∃ b, e = .returned (.iface 275 (.pointer (some ⟨b, 0, none⟩))) ∧ OIt w.heap.size w'.heap.size w' b (endsN p.ids (p.out.getD (rank p.ids u) [])) 0 ∧ Below w.heap.size w w' := by
  have hb1 : Below w.heap.size w (w.alloc (.cells #[.pointer (some ⟨bp, 0, none⟩)] 108)) := (Below.refl _ _).alloc (Nat.le_refl _) _
  have hP1 : PlOk (w.alloc (.cells #[.pointer (some ⟨bp, 0, none⟩)] 108)) base bp p := h.below hb1
  have hd : decide (u ∈ p.ids) = true := decide_eq_true hu
  obtain ⟨hr, _⟩ := (rank_mem hs u).1 hu
  obtain ⟨ro, ri, vi, vn, g, cap, hi', hp, hcb, hce, hfr, hbw, hgw, hbg, hrl⟩ := hP1.open_out (rank p.ids u) hr
  have hn := hg.n
  have HP := Aside0.mk hP1
  have HP2 := Aside0.mk (show PlOk (World.drew (w.alloc (.cells #[.pointer (some ⟨bp, 0, none⟩)] 108))) base bp p from hP1.below ((Below.refl _ _).drew))
  have HROW := Aside0.mk (show (World.drew (w.alloc (.cells #[.pointer (some ⟨bp, 0, none⟩)] 108))).ownsRow base 231 2 ro[rank p.ids u] (p.out.getD (rank p.ids u) []).length (fl (p.out.getD (rank p.ids u) [])) from hp.rows.rowA _ hi')
  obtain ⟨VA, vc, hve⟩ := own_slice HROW.out
  rw [hve] at HROW hce
  have HS := Aside0.mk hs
  have HG := Aside0.mk (hg.out (rank p.ids u))
  have hc1 : (w.alloc (.cells #[.pointer (some ⟨bp, 0, none⟩)] 108)).cell? ⟨w.heap.size, 0, none⟩ = some (.pointer (some ⟨bp, 0, none⟩)) := (blk_cell (heap_alloc_new _ _) 0).trans rfl
  have hx1 : (0 : Int) ≤ ((rank p.ids u : Nat) : Int) := by omega
  have hx2 : ((rank p.ids u : Nat) : Int) < (ro.length : Int) := by omega
  clear h hs hg hu hP1 hp hve
  go_enter Tryz.func222, Tryz.ntmps222
  go_wp2_with (go_at_call 42; refine (pl_index base bp p _ _ HP.out HS.out hn).mono ?_; rintro e w1 ⟨rfl, rfl⟩; rw [hd])
  go_region_held3 (fun w' => w'.cell? ⟨w.heap.size, 0, none⟩ = some (.pointer (some ⟨bp, 0, none⟩)) ∧ w'.cell? ⟨bp, 1, none⟩ = some (.slice (some ⟨g, 0, none⟩) ro.length cap) ∧ w'.cell? ⟨g, rank p.ids u, none⟩ = some (.slice VA (p.out.getD (rank p.ids u) []).length vc))
    (first | (exact ⟨(hbel.cell (p := ⟨w.heap.size, 0, none⟩) (by simp)).trans hc1, (hbel.cell (p := ⟨bp, 1, none⟩) hbw).trans hcb, (hbel.cell (p := ⟨g, rank p.ids u, none⟩) hgw).trans hce⟩) | go_keep)
    (first
      | (go_at_call 208; refine (ends_any base bp base p _ (p.out.getD (rank p.ids u) []) _ HP2.out HROW.out hn (Nat.le_trans HG.out.len hn) HG.out.2).mono ?_; rintro e w2 ⟨b, rfl, hit, hbel⟩; have HIT := Aside0.mk hit; have HBEL := Aside0.mk hbel; clear hit))
  all_goals
    go_wp2
    go_ret
    have hz : w.heap.size ≤ (World.drew (w.alloc (.cells #[.pointer (some ⟨bp, 0, none⟩)] 108))).heap.size := by simp
    exact ⟨b, rfl, HIT.out.wide hz (Nat.le_refl _), (show Below w.heap.size w (World.drew (w.alloc (.cells #[.pointer (some ⟨bp, 0, none⟩)] 108))) from hb1.drew).trans (HBEL.out.mono hz)⟩


theorem gFromD (base bp : Nat) (zs : List Int) (es : List S95) (p : Pl) (u : Int) (w : World) (h : GrOk w base bp zs es p) (hu : u ∈ zs) :
    Calls Tryz.prog 203 #[.agg #[.pointer (some ⟨bp, 0, none⟩)], .int .i64 u] w fun e w' => ∃ b, e = .returned (.iface 275 (.pointer (some ⟨b, 0, none⟩))) ∧ OIt w.heap.size w'.heap.size w' b (outN zs es u) 0 ∧ Below w.heap.size w w' := by
  have hu' : u ∈ srt zs := (mem_srt _ _).2 hu
  refine (from_any base bp p u w h.ok h.sorted h.good (by rw [h.adj.ids]; exact hu')).mono ?_
  rintro e w' ⟨b, rfl, h1, h2⟩
  refine ⟨b, rfl, ?_, h2⟩
  have := h.adj.outN h.good h.hs hu'
  unfold endsN at h1
  rw [this] at h1
  exact h1
theorem gFromU (base bp : Nat) (zs : List Int) (es : List S95) (p : Pl) (u : Int) (w : World) (h : GrOk w base bp zs es p) (hu : u ∈ zs) :
    Calls Tryz.prog 222 #[.agg #[.pointer (some ⟨bp, 0, none⟩)], .int .i64 u] w fun e w' => ∃ b, e = .returned (.iface 275 (.pointer (some ⟨b, 0, none⟩))) ∧ OIt w.heap.size w'.heap.size w' b (outN zs es u) 0 ∧ Below w.heap.size w w' := by
  have hu' : u ∈ srt zs := (mem_srt _ _).2 hu
  refine (fromU_any base bp p u w h.ok h.sorted h.good (by rw [h.adj.ids]; exact hu')).mono ?_
  rintro e w' ⟨b, rfl, h1, h2⟩
  refine ⟨b, rfl, ?_, h2⟩
  have := h.adj.outN h.good h.hs hu'
  unfold endsN at h1
  rw [this] at h1
  exact h1

end Go.Proofs.YtddklkgcodjijaaGreat.R


/- ordered (as the printer printed it for an elder seat). -/
namespace Go.Proofs.YtddklkgcodjijaaGreat.PL
open Go.RowKit Go.Proofs.YtddklkgcodjijaaGreatW.PrintWords Go.Proofs.YtddklkgcodjijaaGreatW.PrintLast Go.Proofs.YtddklkgcodjijaaGreatW.PrintMore
/-! ### impl_ordered: function 111 -/
end Go.Proofs.YtddklkgcodjijaaGreat.PL


/- What free makes: whether an edge may be gone. -/
namespace Go.Proofs.YtddklkgcodjijaaGreat.R
open Go.RowKit Go.Lab Go.Maps Go.Proofs.YtddklkgcodjijaaGreatW.PrintWords Go.Proofs.YtddklkgcodjijaaGreatW.PrintLast Go.Proofs.YtddklkgcodjijaaGreatW.PrintMore PL

theorem below_cellOf {w w' : World} {a : Addr} {v : Value} (h : Below w.heap.size w w') (hc : w.cell? a = some v) : w'.cell? a = some v := by
  rw [h.cell (World.block_lt_of_cell? w a hc)]; exact hc
end Go.Proofs.YtddklkgcodjijaaGreat.R


/- A set of nodes, a stack of nodes. -/
namespace Go.Proofs.YtddklkgcodjijaaGreat.R
open Go.RowKit Go.Lab Go.Maps Go.Proofs.YtddklkgcodjijaaGreatW.PrintWords Go.Proofs.YtddklkgcodjijaaGreatW.PrintLast Go.Proofs.YtddklkgcodjijaaGreatW.PrintMore PL

theorem lawS2 : Keyed Tryz.prog 2 := int_keyed Tryz.underlying2
theorem zero234 (w : World) : (zeroValue 234).run Tryz.prog w = .ok (.agg #[]) w := by kernel_rfl

/-- block gm is a set of just these numbers -/
structure SetOk (w : World) (gm : Nat) (vis : List Int) : Prop where
  ex : ∃ (n : Nat) (D : DataW Unit), w.ownsMap Tryz.prog 2 unitElem gm n D ∧ n ≤ vis.length ∧ ∀ x, Maps.has D (.int .i64 x) = decide (x ∈ vis)
theorem SetOk.lt {w : World} {gm : Nat} {vis : List Int} (h : SetOk w gm vis) : gm < w.heap.size := by
  obtain ⟨n, D, h1, _, _⟩ := h.ex
  exact h1.lt
theorem SetOk.stay {w w1 : World} {gm : Nat} {vis : List Int} (h : SetOk w gm vis) (hm : w1.heap[gm]? = w.heap[gm]?) : SetOk w1 gm vis := by
  obtain ⟨n, D, ⟨es, clock, hb, hr⟩, h2, h3⟩ := h.ex
  exact ⟨n, D, ⟨es, clock, hm.trans hb, hr⟩, h2, h3⟩
theorem SetOk.made (w : World) : SetOk (w.alloc (.map #[] 0)) w.heap.size [] :=
  ⟨0, .map [], World.ownsMap_made _ _ _ _, Nat.le_refl _, fun x => by simp [Maps.has]⟩

set_option maxHeartbeats 1000000 in
theorem has_any (gm : Nat) (vis : List Int) (x : Int) (w : World) (h : SetOk w gm vis) (hw : (Lit.int .i64 x).wf = true) :
    Calls Tryz.prog 136 #[.map (some gm), .int .i64 x] w fun e w' => e = .returned (.bool (decide (x ∈ vis))) ∧ Below w.heap.size w w' := by
  obtain ⟨n, D, hown, hn, hh⟩ := h.ex
  have hkey : keyOf Tryz.prog 2 (.int .i64 x) = some (.int .i64 x) := keyOf_int_mk Tryz.underlying2 hw
  have HH := Aside0.mk (hh x)
  clear hh
  go_enter Tryz.func136, Tryz.ntmps136
  go_wp2_with (at_lookup; refine wpList_lookup_own_unit _ rfl _ _ 154 rfl 2 234 lawS2 Tryz.underlying154 (zero234 _) gm n D rfl hown _ _ rfl hkey ?_)
  go_ret
  exact ⟨by rw [← HH.out]; rfl, (Below.refl _ _).alloc (Nat.le_refl _) _⟩

set_option maxHeartbeats 1000000 in
theorem add_any (gm : Nat) (vis : List Int) (x : Int) (w : World) (h : SetOk w gm vis) (hw : (Lit.int .i64 x).wf = true) (hl : vis.length ≤ 10000000) :
    Calls Tryz.prog 135 #[.map (some gm), .int .i64 x] w fun e w' => e = .returned (.tuple #[]) ∧ SetOk w' gm (vis ++ [x]) ∧ w.grownBy w' (some gm) := by
  obtain ⟨n, D, hown, hn, hh⟩ := h.ex
  have hkey : keyOf Tryz.prog 2 (.int .i64 x) = some (.int .i64 x) := keyOf_int_mk Tryz.underlying2 hw
  have HH := Aside0.mk hh
  have HM := Aside0.mk hown.isMap
  clear hh
  go_enter Tryz.func135, Tryz.ntmps135
  go_wp2_with (at_mapUpdate; refine wpList_mapUpdate_own _ rfl _ _ _ 154 rfl 2 234 lawS2 Tryz.underlying154 (unitElem (H := Unit)) gm n D rfl hown (by unfold maxLen; omega) _ _ _ rfl rfl hkey _ [] unitElem_mk ?_; intro w1 hown1 hgrow1; have HG := Aside0.mk (And.intro hown1 hgrow1); clear hown1 hgrow1)
  go_end0
  refine ⟨rfl, ⟨n + 1, _, HG.out.1, by simp; omega, fun y => ?_⟩, HG.out.2⟩
  by_cases hy : y = x
  · subst hy
    rw [Maps.has_put_same HM.out (show WideAt.IsKeyLit (.int .i64 y) from trivial)]; simp
  · rw [Maps.has_put_other (fun e => hy (by injection e)), HH.out y]
    simp [hy]

theorem nodeVs_append (a b : List Int) : nodeVs (a ++ b) = nodeVs a ++ nodeVs b := by unfold nodeVs; simp
theorem nodeVs_len (a : List Int) : (nodeVs a).length = a.length := by unfold nodeVs; simp
theorem grown_set (w : World) (g i : Nat) (v : Value) : w.grownBy (w.setCell ⟨g, i, none⟩ v) (some g) :=
  ⟨rfl, rfl, rfl, by simp, fun k hk hn => Below.heap_setCell _ _ _ _ (fun e => hn (by rw [e]))⟩
/-- the beginning of a row -/
theorem own_cut {w : World} {base : Nat} {e : TypeId} {g n cap m : Nat} {xs : List Value} (h : w.ownsRow base e 1 (.slice (some ⟨g, 0, none⟩) n cap) n xs) (hm : m ≤ n) : w.ownsRow base e 1 (.slice (some ⟨g, 0, none⟩) m cap) m (xs.take m) := by
  obtain ⟨h1, h2⟩ := h
  rcases h2 with ⟨hv, _⟩ | ⟨g', cap', cur, hv, h3, h4, h5, h6, h7, h8⟩
  · cases hv
  · simp only [Value.slice.injEq, Option.some.injEq, Addr.mk.injEq] at hv
    obtain ⟨⟨rfl, _⟩, _, rfl⟩ := hv
    refine ⟨by rw [List.length_take]; omega, .inr ⟨g, cap, cur, rfl, h3, h4, by omega, h6, h7, ?_⟩⟩
    rw [← h8, List.take_take]
    congr 1
    omega
theorem own_cells {w : World} {base : Nat} {e : TypeId} {v : Value} {n : Nat} {xs : List Value} (h : w.ownsRow base e 1 v n xs) (h0 : 0 < n) : ∃ g c, v = .slice (some ⟨g, 0, none⟩) n c ∧ n ≤ c ∧ (∀ j u, xs[j]? = some u → w.cell? ⟨g, j, none⟩ = some u) ∧ (∃ cur, w.heap[g]? = some (.cells cur e (0, 0))) := by
  have hc := h
  rcases h.2 with ⟨_, h2⟩ | ⟨g, cap, cur, rfl, h3, h4, h5, h6, h7, h8⟩
  · omega
  · refine ⟨g, cap, rfl, h5, fun j u hu => ?_, cur, h4⟩
    have := hc.cells (g := g) rfl j u hu
    have hadd : (⟨g, 0, none⟩ : Addr).add j = ⟨g, j, none⟩ := by unfold Addr.add; split <;> simp_all
    rwa [hadd] at this

/-- a walk's object in block gd with its stack -/
structure Stk (lo : Nat) (w : World) (gd : Nat) (vf tf mp st : Value) (xs : List Int) : Prop where
  blk : w.heap[gd]? = some (.cells #[vf, tf, st, mp] 156 (0, 0))
  own : w.ownsRow lo 88 1 st xs.length (nodeVs xs)
theorem Stk.ne {lo : Nat} {w : World} {gd : Nat} {vf tf mp st : Value} {xs : List Int} (h : Stk lo w gd vf tf mp st xs) : st.ownBlock ≠ some gd := fun e => by
  obtain ⟨c, hc⟩ := own_block h.own e
  exact absurd (blk_type h.blk hc) (by decide)
theorem Stk.put {lo : Nat} {w : World} {gd : Nat} {vf tf mp st st' : Value} {ys : List Int} (h : w.heap[gd]? = some (.cells #[vf, tf, st, mp] 156 (0, 0))) (ho : w.ownsRow lo 88 1 st' ys.length (nodeVs ys)) (hne : st'.ownBlock ≠ some gd) : Stk lo (w.setCell ⟨gd, 2, none⟩ st') gd vf tf mp st' ys :=
  ⟨blk_put (cs := #[vf, tf, st, mp]) h 2 _ rfl, own_of_heap ho fun k hk => Below.heap_setCell _ _ _ _ (fun e => hne (by rw [hk, e]))⟩

set_option maxHeartbeats 1000000 in
theorem slen_any (lo gd : Nat) (vf tf mp st : Value) (xs : List Int) (w : World) (h : Stk lo w gd vf tf mp st xs) :
    Calls Tryz.prog 155 #[.pointer (some ⟨gd, 2, none⟩)] w fun e w' => e = .returned (.int .i64 xs.length) ∧ w = w' := by
  obtain ⟨A, c, rfl⟩ := own_slice h.own
  have h2 : w.cell? ⟨gd, 2, none⟩ = some (.slice A xs.length c) := (blk_cell h.blk 2).trans rfl
  clear h
  go_enter Tryz.func155, Tryz.ntmps155
  go_wp2
  go_ret
  exact ⟨rfl, rfl⟩

set_option maxHeartbeats 2000000 in
set_option maxRecDepth 100000 in
theorem spop_any (lo gd : Nat) (vf tf mp st : Value) (s : List Int) (u : Int) (w : World) (h : Stk lo w gd vf tf mp st (s ++ [u])) (hn : s.length ≤ 10000000) :
    Calls Tryz.prog 156 #[.pointer (some ⟨gd, 2, none⟩)] w fun e w' => e = .returned (.iface 272 (.int .i64 u)) ∧ ∃ st', Stk lo w' gd vf tf mp st' s ∧ st'.ownBlock = st.ownBlock ∧ w.grownBy w' (some gd) := by
  have hl : (s ++ [u]).length = s.length + 1 := by simp
  obtain ⟨g, c, rfl, hc, hcell, _⟩ := own_cells h.own (by omega)
  have h2 : w.cell? ⟨gd, 2, none⟩ = some (.slice (some ⟨g, 0, none⟩) (s.length + 1) c) := (blk_cell h.blk 2).trans (by rw [hl]; rfl)
  have hf := blk_frozen h.blk 2
  have hu : w.cell? ⟨g, s.length, none⟩ = some (.iface 272 (.int .i64 u)) := hcell s.length _ (by rw [nodeVs_append, List.getElem?_append_right (by rw [nodeVs_len]; exact Nat.le_refl _), nodeVs_len]; simp [nodeVs, nodeV])
  have hcut := own_cut h.own (m := s.length) (by omega)
  rw [nodeVs_append, List.take_left' (nodeVs_len s)] at hcut
  have hne := h.ne
  have HS := Aside0.mk (show Stk lo (w.setCell ⟨gd, 2, none⟩ (.slice (some ⟨g, 0, none⟩) s.length c)) gd vf tf mp (.slice (some ⟨g, 0, none⟩) s.length c) s from Stk.put h.blk hcut hne)
  rw [hl] at hc
  clear h hcell hcut hne hl
  go_enter Tryz.func156, Tryz.ntmps156
  go_wp2
  go_region
  all_goals
    go_wp2
    go_ret
    exact ⟨rfl, _, ⟨HS.out.blk, HS.out.own⟩, rfl, (grown_set w gd 2 _).trans (grownBy_drew _ _)⟩
end Go.Proofs.YtddklkgcodjijaaGreat.R


/- What stays through a walk; Push; what the walk's functions do. -/
namespace Go.Proofs.YtddklkgcodjijaaGreat.R
open Go.RowKit Go.Lab Go.Maps Go.Proofs.YtddklkgcodjijaaGreatW.PrintWords Go.Proofs.YtddklkgcodjijaaGreatW.PrintLast Go.Proofs.YtddklkgcodjijaaGreatW.PrintMore PL

/-- all blocks but some stay -/
structure KeepF (M : Nat → Prop) (w w' : World) : Prop where
  os : w'.os = w.os
  tape : w'.tape = w.tape
  output : w'.output = w.output
  size : w.heap.size ≤ w'.heap.size
  block : ∀ k, k < w.heap.size → ¬ M k → w'.heap[k]? = w.heap[k]?
theorem KeepF.refl (M : Nat → Prop) (w : World) : KeepF M w w := ⟨rfl, rfl, rfl, Nat.le_refl _, fun _ _ _ => rfl⟩
theorem KeepF.trans {M : Nat → Prop} {a b c : World} (h : KeepF M a b) (k : KeepF M b c) : KeepF M a c :=
  ⟨k.os.trans h.os, k.tape.trans h.tape, k.output.trans h.output, Nat.le_trans h.size k.size, fun i hi ho => (k.block i (Nat.lt_of_lt_of_le hi h.size) ho).trans (h.block i hi ho)⟩
theorem KeepF.of_grown {M : Nat → Prop} {w w' : World} {o : Option Nat} (h : w.grownBy w' o) (hm : ∀ k, o = some k → M k) : KeepF M w w' := by
  obtain ⟨h1, h2, h3, h4, h5⟩ := h
  exact ⟨h1, h2, h3, h4, fun k hk hn => h5 k hk (fun e => hn (hm k e.symm))⟩
theorem KeepF.of_below {M : Nat → Prop} {w w' : World} (h : Below w.heap.size w w') : KeepF M w w' := ⟨h.os, h.tape, h.output, h.size, fun k hk _ => h.block k hk⟩
theorem KeepF.below {M : Nat → Prop} {w w' : World} (h : KeepF M w w') {B : Nat} (hB : B ≤ w.heap.size) (hm : ∀ k, M k → B ≤ k) : Below B w w' :=
  ⟨h.os, h.tape, h.output, h.size, fun k hk => h.block k (Nat.lt_of_lt_of_le hk hB) (fun hM => by have := hm k hM; omega)⟩
theorem KeepF.cell {M : Nat → Prop} {w w' : World} (h : KeepF M w w') {a : Addr} {v : Value} (hc : w.cell? a = some v) (hm : ¬ M a.block) : w'.cell? a = some v := by
  rw [World.cell?_of_block (h.block a.block (World.block_lt_of_cell? w a hc) hm)]; exact hc

/-- a plain graph stays while its kinds of blocks do -/
theorem PlOk.kinds {w w1 : World} {base bp : Nat} {p : Pl} (h : PlOk w base bp p) (hk : ∀ (k : Nat) (c : Array Value) (t : TypeId), w.heap[k]? = some (Obj.cells c t (0, 0)) → t = 83 ∨ t = 2 ∨ t = 195 ∨ t = 231 → w1.heap[k]? = w.heap[k]?) : PlOk w1 base bp p := by
  obtain ⟨ro, ri, vi, vo, vn, hp⟩ := h
  have ho : ∀ {e : TypeId} {size n : Nat} {v : Value} {xs : List Value}, (e = 83 ∨ e = 2 ∨ e = 195 ∨ e = 231) → w.ownsRow base e size v n xs → w1.ownsRow base e size v n xs := fun he h => own_of_heap h fun k hk' => by
    obtain ⟨c, hc⟩ := own_block h hk'
    exact hk k c _ hc he
  refine ⟨ro, ri, vi, vo, vn, ⟨(hk bp _ _ hp.blk (by simp)).trans hp.blk, hp.hb, ho (by simp) hp.ids, ?_, hp.po, hp.pi⟩⟩
  have hr := hp.rows
  exact ⟨ho (by simp) hr.a, ho (by simp) hr.b, hr.la, hr.lb, fun i hi => ho (by simp) (hr.rowA i hi), fun i hi => ho (by simp) (hr.rowB i hi), hr.sepT, hr.sepA, hr.sepB, hr.sepAB⟩

set_option maxHeartbeats 2000000 in
set_option maxRecDepth 100000 in
theorem spush_any (lo gd : Nat) (vf tf mp st : Value) (xs : List Int) (x : Int) (w : World) (h : Stk lo w gd vf tf mp st xs) (hn : xs.length ≤ 10000000) (hlo : lo ≤ w.heap.size) :
    Calls Tryz.prog 154 #[.pointer (some ⟨gd, 2, none⟩), .iface 272 (.int .i64 x)] w fun e w' => e = .returned (.tuple #[]) ∧ ∃ st' w1, Stk lo w' gd vf tf mp st' (xs ++ [x]) ∧ w.grownBy w1 st.ownBlock ∧ w1.grownBy w' (some gd) ∧ (st'.ownBlock = st.ownBlock ∨ ∃ q, st'.ownBlock = some q ∧ w.heap.size ≤ q) := by
  obtain ⟨A, c, rfl⟩ := own_slice h.own
  have h2 : w.cell? ⟨gd, 2, none⟩ = some (.slice A xs.length c) := (blk_cell h.blk 2).trans rfl
  have hf := blk_frozen h.blk 2
  have HB := Aside0.mk h
  have hgl := blk_lt h.blk
  obtain ⟨i0, hi, hz0, hz1, hz2⟩ := info_parts Tryz.info88
  have HI := Aside0.mk (And.intro hi (And.intro hz0 (And.intro hz1 hz2)))
  clear h hi hz0 hz1 hz2
  go_enter Tryz.func154, Tryz.ntmps154
  go_wp2_with (at_builtin; refine wpList_append_own_at _ rfl _ _ 152 rfl lo 88 i0 .nilIface 1 16 Tryz.underlying152 HI.out.1 HI.out.2.1 HI.out.2.2.1 HI.out.2.2.2 rfl (by decide) _ xs.length (nodeVs xs) rfl (World.ownsRow.alloc HB.out.own _) ⟨w.heap.size, 0, none⟩ 1 1 [.iface 272 (.int .i64 x)] rfl rfl (cell_one_new _ _ _) ?q2 ?q3 ?q4 ?q5 ?_)
  case q2 => intro u hu; simp at hu; subst hu; rfl
  case q3 => unfold maxLen; omega
  case q4 => omega
  case q5 => simp; omega
  intro v' w1 hown hgr _ hat
  obtain ⟨A', c', rfl⟩ := own_slice hown
  have hg0 := (World.grownBy_alloc w (.cells #[.iface 272 (.int .i64 x)] 88) (Value.slice A xs.length c).ownBlock).trans hgr
  have hblk := (hg0.block gd hgl (fun e => HB.out.ne e.symm)).trans HB.out.blk
  have hc2 : w1.cell? ⟨gd, 2, none⟩ = some (.slice A xs.length c) := (blk_cell hblk 2).trans rfl
  have hf2 := blk_frozen hblk 2
  have hne : (Value.slice A' (xs.length + 1) c').ownBlock ≠ some gd := fun e => by
    obtain ⟨cc, hcc⟩ := own_block hown e
    exact absurd (blk_type hblk hcc) (by decide)
  have HS := Aside0.mk (show Stk lo (w1.setCell ⟨gd, 2, none⟩ (Value.slice A' (xs.length + 1) c')) gd vf tf mp (Value.slice A' (xs.length + 1) c') (xs ++ [x]) from Stk.put hblk (by rw [nodeVs_append, List.length_append]; exact hown) hne)
  have HG := Aside0.mk hg0
  clear hown hgr hg0 hblk hne
  go_wp2
  go_end0
  exact ⟨rfl, _, w1, HS.out, HG.out, grown_set _ _ _ _, hat.imp id (fun h => ⟨_, h, by simp⟩)⟩

/-- the nodes that were visited, in a variable -/
structure VisOk (lo : Nat) (w : World) (gv : Nat) (vv : Value) (vis : List Int) : Prop where
  blk : w.heap[gv]? = some (.cells #[vv] 22 (0, 0))
  own : w.ownsRow lo 3 1 vv vis.length (nums .i64 vis)
theorem VisOk.ne {lo : Nat} {w : World} {gv : Nat} {vv : Value} {vis : List Int} (h : VisOk lo w gv vv vis) : vv.ownBlock ≠ some gv := fun e => by
  obtain ⟨c, hc⟩ := own_block h.own e
  exact absurd (blk_type h.blk hc) (by decide)
theorem VisOk.put {lo : Nat} {w : World} {gv : Nat} {vv vv' : Value} {ys : List Int} (h : w.heap[gv]? = some (.cells #[vv] 22 (0, 0))) (ho : w.ownsRow lo 3 1 vv' ys.length (nums .i64 ys)) (hne : vv'.ownBlock ≠ some gv) : VisOk lo (w.setCell ⟨gv, 0, none⟩ vv') gv vv' ys :=
  ⟨blk_put (cs := #[vv]) h 0 _ rfl, own_of_heap ho fun k hk => Below.heap_setCell _ _ _ _ (fun e => hne (by rw [hk, e]))⟩

end Go.Proofs.YtddklkgcodjijaaGreat.R


/- The state of a walk depth first, and how it goes on. -/
namespace Go.Proofs.YtddklkgcodjijaaGreat.R
open Go.RowKit Go.Lab Go.Maps Go.Proofs.YtddklkgcodjijaaGreatW.PrintWords Go.Proofs.YtddklkgcodjijaaGreatW.PrintLast Go.Proofs.YtddklkgcodjijaaGreatW.PrintMore PL

/-- which blocks a walk turns -/
def WM (gd gv L : Nat) (k : Nat) : Prop := k = gd ∨ k = gv ∨ L ≤ k

/-- the state of a walk: its object in block gd, the visited nodes in the variable gv -/
structure DW (w0 w : World) (gd gv gm : Nat) (vf tf st vv : Value) (stk vis : List Int) : Prop where
  stk : Stk w0.heap.size w gd vf tf (.map (some gm)) st stk
  set : SetOk w gm vis
  gmL : w0.heap.size ≤ gm
  vis : VisOk w0.heap.size w gv vv vis
  gv0 : gv < w0.heap.size
  gd0 : gd < w0.heap.size
  kp : KeepF (WM gd gv w0.heap.size) w0 w

theorem Stk.stay {lo : Nat} {w w1 : World} {gd : Nat} {vf tf mp st : Value} {xs : List Int} (h : Stk lo w gd vf tf mp st xs) (h1 : w1.heap[gd]? = w.heap[gd]?) (h2 : ∀ k, st.ownBlock = some k → w1.heap[k]? = w.heap[k]?) : Stk lo w1 gd vf tf mp st xs :=
  ⟨h1.trans h.blk, own_of_heap h.own h2⟩
theorem VisOk.stay {lo : Nat} {w w1 : World} {gv : Nat} {vv : Value} {vis : List Int} (h : VisOk lo w gv vv vis) (h1 : w1.heap[gv]? = w.heap[gv]?) (h2 : ∀ k, vv.ownBlock = some k → w1.heap[k]? = w.heap[k]?) : VisOk lo w1 gv vv vis :=
  ⟨h1.trans h.blk, own_of_heap h.own h2⟩
theorem SetOk.cells_ne {w : World} {gm : Nat} {vis : List Int} (h : SetOk w gm vis) {k : Nat} {c : Array Value} {t : TypeId} {f : Nat × Nat} (hk : w.heap[k]? = some (Obj.cells c t f)) : k ≠ gm := fun e => by
  obtain ⟨n, D, ⟨es, clock, hb, _⟩, _, _⟩ := h.ex
  subst e
  rw [hk] at hb
  cases hb

section
variable {w0 w w1 : World} {gd gv gm : Nat} {vf tf st vv : Value} {stk vis : List Int}

theorem DW.L (h : DW w0 w gd gv gm vf tf st vv stk vis) : w0.heap.size ≤ w.heap.size := h.kp.size
theorem DW.stLt (h : DW w0 w gd gv gm vf tf st vv stk vis) {k : Nat} (hk : st.ownBlock = some k) : k < w.heap.size := by
  obtain ⟨c, hc⟩ := own_block h.stk.own hk; exact blk_lt hc
theorem DW.vvLt (h : DW w0 w gd gv gm vf tf st vv stk vis) {k : Nat} (hk : vv.ownBlock = some k) : k < w.heap.size := by
  obtain ⟨c, hc⟩ := own_block h.vis.own hk; exact blk_lt hc
theorem DW.apart (h : DW w0 w gd gv gm vf tf st vv stk vis) {k : Nat} (hk : st.ownBlock = some k) : k ≠ gd ∧ k ≠ gv ∧ k ≠ gm ∧ vv.ownBlock ≠ some k := by
  obtain ⟨c, hc⟩ := own_block h.stk.own hk
  refine ⟨fun e => ?_, fun e => ?_, h.set.cells_ne hc, fun e => ?_⟩
  · subst e; exact absurd (blk_type h.stk.blk hc) (by decide)
  · subst e; exact absurd (blk_type h.vis.blk hc) (by decide)
  · obtain ⟨c', hc'⟩ := own_block h.vis.own e; exact absurd (blk_type hc hc') (by decide)
theorem DW.apartV (h : DW w0 w gd gv gm vf tf st vv stk vis) {k : Nat} (hk : vv.ownBlock = some k) : k ≠ gd ∧ k ≠ gv ∧ k ≠ gm ∧ st.ownBlock ≠ some k := by
  obtain ⟨c, hc⟩ := own_block h.vis.own hk
  refine ⟨fun e => ?_, fun e => ?_, h.set.cells_ne hc, fun e => ?_⟩
  · subst e; exact absurd (blk_type h.stk.blk hc) (by decide)
  · subst e; exact absurd (blk_type h.vis.blk hc) (by decide)
  · obtain ⟨c', hc'⟩ := own_block h.stk.own e; exact absurd (blk_type hc hc') (by decide)
theorem DW.gdm (h : DW w0 w gd gv gm vf tf st vv stk vis) : gd ≠ gm ∧ gv ≠ gm ∧ gd ≠ gv :=
  ⟨h.set.cells_ne h.stk.blk, h.set.cells_ne h.vis.blk, fun e => by subst e; exact absurd (blk_type h.stk.blk h.vis.blk) (by decide)⟩

/-- nothing of it is turned -/
theorem DW.stay (h : DW w0 w gd gv gm vf tf st vv stk vis) (hk : KeepF (WM gd gv w0.heap.size) w w1) (hd : w1.heap[gd]? = w.heap[gd]?) (hv : w1.heap[gv]? = w.heap[gv]?) (hm : w1.heap[gm]? = w.heap[gm]?)
    (hs : ∀ k, st.ownBlock = some k → w1.heap[k]? = w.heap[k]?) (hvv : ∀ k, vv.ownBlock = some k → w1.heap[k]? = w.heap[k]?) : DW w0 w1 gd gv gm vf tf st vv stk vis :=
  ⟨h.stk.stay hd hs, h.set.stay hm, h.gmL, h.vis.stay hv hvv, h.gv0, h.gd0, h.kp.trans hk⟩
theorem DW.below (h : DW w0 w gd gv gm vf tf st vv stk vis) (hb : Below w.heap.size w w1) : DW w0 w1 gd gv gm vf tf st vv stk vis :=
  h.stay (KeepF.of_below hb) (hb.block _ (blk_lt h.stk.blk)) (hb.block _ (blk_lt h.vis.blk)) (hb.block _ h.set.lt) (fun k hk => hb.block k (h.stLt hk)) (fun k hk => hb.block k (h.vvLt hk))
/-- the iterator goes on -/
theorem DW.mid (h : DW w0 w gd gv gm vf tf st vv stk vis) {lo B : Nat} (hm : Mid lo B w w1) (hlo : w0.heap.size ≤ lo) (hgm : gm < lo) (hst : ∀ k, st.ownBlock = some k → k < lo ∨ B ≤ k) (hvv : ∀ k, vv.ownBlock = some k → k < lo) : DW w0 w1 gd gv gm vf tf st vv stk vis := by
  have hd := blk_lt h.stk.blk
  have hv := blk_lt h.vis.blk
  have h1 := h.gv0
  have h2 := h.gd0
  refine h.stay ⟨hm.os, hm.tape, hm.output, hm.size, fun k hk hn => hm.block k hk (.inl ?_)⟩ (hm.block _ hd (.inl (by omega))) (hm.block _ hv (.inl (by omega))) (hm.block _ h.set.lt (.inl hgm)) (fun k hk => hm.block k (h.stLt hk) (hst k hk)) (fun k hk => hm.block k (h.vvLt hk) (.inl (hvv k hk)))
  unfold WM at hn
  omega
/-- a node is marked -/
theorem DW.add (h : DW w0 w gd gv gm vf tf st vv stk vis) {vs : List Int} (hs : SetOk w1 gm vs) (hg : w.grownBy w1 (some gm)) : Stk w0.heap.size w1 gd vf tf (.map (some gm)) st stk ∧ SetOk w1 gm vs ∧ VisOk w0.heap.size w1 gv vv vis ∧ KeepF (WM gd gv w0.heap.size) w0 w1 := by
  have hne := h.gdm
  refine ⟨h.stk.stay (hg.block _ (blk_lt h.stk.blk) (fun e => hne.1 (Option.some.inj e))) (fun k hk => hg.block k (h.stLt hk) (fun e => (h.apart hk).2.2.1 (Option.some.inj e))), hs, h.vis.stay (hg.block _ (blk_lt h.vis.blk) (fun e => hne.2.1 (Option.some.inj e))) (fun k hk => hg.block k (h.vvLt hk) (fun e => (h.apartV hk).2.2.1 (Option.some.inj e))),
    h.kp.trans (KeepF.of_grown hg (fun k hk => .inr (.inr (by have := h.gmL; have := Option.some.inj hk; omega))))⟩
end

/-- two turns, one behind the other -/
theorem two_turns {w wa w1 : World} {o : Option Nat} {g k : Nat} (h1 : w.grownBy wa o) (h2 : wa.grownBy w1 (some g)) (hk : k < w.heap.size) (ho : o ≠ some k) (hg : k ≠ g) : w1.heap[k]? = w.heap[k]? :=
  (h2.block k (Nat.lt_of_lt_of_le hk h1.size) (fun e => hg (Option.some.inj e))).trans (h1.block k hk (fun e => ho e.symm))

section
variable {w0 w wa w1 : World} {gd gv gm : Nat} {vf tf st vv : Value} {stk vis : List Int}
/-- a node is put on the stack -/
theorem DW.push (h : DW w0 w gd gv gm vf tf st vv stk vis) {st' : Value} {ys : List Int} (hs : Stk w0.heap.size w1 gd vf tf (.map (some gm)) st' ys) (h1 : w.grownBy wa st.ownBlock) (h2 : wa.grownBy w1 (some gd)) : DW w0 w1 gd gv gm vf tf st' vv ys vis := by
  have hne := h.gdm
  refine ⟨hs, h.set.stay (two_turns h1 h2 h.set.lt (fun e => (h.apart e).2.2.1 rfl) (fun e => hne.1 e.symm)), h.gmL, h.vis.stay (two_turns h1 h2 (blk_lt h.vis.blk) (fun e => (h.apart e).2.1 rfl) (fun e => hne.2.2 e.symm)) (fun k hk => two_turns h1 h2 (h.vvLt hk) (fun e => (h.apart e).2.2.2 hk) (h.apartV hk).1), h.gv0, h.gd0, ?_⟩
  exact (h.kp.trans (KeepF.of_grown h1 (fun k hk => .inr (.inr (own_base h.stk.own k hk))))).trans (KeepF.of_grown h2 (fun k hk => .inl (Option.some.inj hk).symm))
end
end Go.Proofs.YtddklkgcodjijaaGreat.R


/- A walk depth first, in plain lists. -/
namespace Go.Proofs.YtddklkgcodjijaaGreat.R

theorem nil_or_snoc (l : List Int) : l = [] ∨ ∃ s u, l = s ++ [u] := by
  rcases List.eq_nil_or_concat l with h | ⟨s, u, h⟩
  · exact .inl h
  · exact .inr ⟨s, u, by rw [h, List.concat_eq_append]⟩

/-- each node but the first one is come to from one ahead of it, and stands once -/
def OrdW (adj : Int → List Int) (s0 : Int) (vis : List Int) : Prop :=
  ∀ pre v post, vis = pre ++ v :: post → v ∉ pre ∧ ((pre = [] ∧ v = s0) ∨ ∃ u ∈ pre, v ∈ adj u)
theorem OrdW.nil (adj : Int → List Int) (s0 : Int) : OrdW adj s0 [] := by
  intro pre v post h
  cases pre <;> simp at h
theorem split_snoc {vis : List Int} {u : Int} {pre : List Int} {v : Int} {post : List Int} (h : vis ++ [u] = pre ++ v :: post) : (pre = vis ∧ v = u ∧ post = []) ∨ ∃ p', vis = pre ++ v :: p' ∧ post = p' ++ [u] := by
  rcases nil_or_snoc post with rfl | ⟨p, x, rfl⟩
  · left
    have := List.append_inj' h (by simp)
    exact ⟨this.1.symm, by simpa using this.2.symm, rfl⟩
  · right
    have h2 : vis ++ [u] = (pre ++ v :: p) ++ [x] := by rw [h]; simp
    have := List.append_inj' h2 (by simp)
    exact ⟨p, this.1, by rw [show u = x by simpa using this.2]⟩
theorem OrdW.snoc {adj : Int → List Int} {s0 : Int} {vis : List Int} {u : Int} (h : OrdW adj s0 vis) (hn : u ∉ vis) (hu : (vis = [] ∧ u = s0) ∨ ∃ w ∈ vis, u ∈ adj w) : OrdW adj s0 (vis ++ [u]) := by
  intro pre v post e
  rcases split_snoc e with ⟨rfl, rfl, rfl⟩ | ⟨p', e', rfl⟩
  · exact ⟨hn, hu⟩
  · exact h pre v p' e'

/-- what can be come to -/
def RchW (adj : Int → List Int) (s0 v : Int) : Prop := ∀ S : Int → Prop, S s0 → (∀ u, S u → ∀ x ∈ adj u, S x) → S v
theorem RchW.here {adj : Int → List Int} {s0 : Int} : RchW adj s0 s0 := fun _ h _ => h
theorem RchW.step {adj : Int → List Int} {s0 u v : Int} (h : RchW adj s0 u) (hv : v ∈ adj u) : RchW adj s0 v := fun S h0 hs => hs u (h S h0 hs) v hv
theorem OrdW.rch {adj : Int → List Int} {s0 : Int} {vis : List Int} (h : OrdW adj s0 vis) : ∀ n pre v post, pre.length ≤ n → vis = pre ++ v :: post → RchW adj s0 v := by
  intro n
  induction n with
  | zero =>
    intro pre v post hn e
    have : pre = [] := List.eq_nil_of_length_eq_zero (by omega)
    subst this
    rcases (h _ _ _ e).2 with ⟨_, rfl⟩ | ⟨u, hu, _⟩
    · exact .here
    · cases hu
  | succ n ih =>
    intro pre v post hn e
    rcases (h _ _ _ e).2 with ⟨_, rfl⟩ | ⟨u, hu, hv⟩
    · exact .here
    · obtain ⟨p1, p2, rfl⟩ := List.append_of_mem hu
      refine .step (ih p1 u (p2 ++ v :: post) ?_ (by rw [e]; simp)) hv
      rw [List.length_append, List.length_cons] at hn
      omega
end Go.Proofs.YtddklkgcodjijaaGreat.R

/- Walks through all of a graph, in plain lists: one part after the other. -/
namespace Go.Proofs.YtddklkgcodjijaaGreat.R

/-- one part, depth first; v0: what was visited by elder parts -/
def dfsV (adj : Int → List Int) (v0 : List Int) : Nat → List Int → List Int → Option (List Int)
  | 0, _, _ => none
  | k + 1, stk, pt =>
    match stk.getLast? with
    | none => some pt
    | some u => if u ∈ v0 ++ pt then dfsV adj v0 k stk.dropLast pt else dfsV adj v0 k (stk.dropLast ++ adj u) (pt ++ [u])
theorem dfsV_nil (adj : Int → List Int) (v0 : List Int) (k : Nat) (pt : List Int) : dfsV adj v0 (k + 1) [] pt = some pt := rfl
theorem dfsV_snoc (adj : Int → List Int) (v0 : List Int) (k : Nat) (s : List Int) (u : Int) (pt : List Int) : dfsV adj v0 (k + 1) (s ++ [u]) pt = if u ∈ v0 ++ pt then dfsV adj v0 k s pt else dfsV adj v0 k (s ++ adj u) (pt ++ [u]) := by
  simp [dfsV]

end Go.Proofs.YtddklkgcodjijaaGreat.R

/- The parts of a graph whose edges go both ways: what they are, in plain lists. -/
namespace Go.Proofs.YtddklkgcodjijaaGreat.R

theorem RchW.trans {adj : Int → List Int} {a b c : Int} (h : RchW adj a b) (h2 : RchW adj b c) : RchW adj a c := fun S h0 hs => h2 S (h S h0 hs) hs
theorem RchW.symm {adj : Int → List Int} (hsy : ∀ u v, v ∈ adj u → u ∈ adj v) {a b : Int} (h : RchW adj a b) : RchW adj b a :=
  h (fun x => RchW adj x a) RchW.here (fun u hu x hx => (RchW.here.step (hsy u x hx)).trans hu)

/-- what the parts are -/
structure Comps (adj : Int → List Int) (ns : List Int) (out : List (List Int)) : Prop where
  parts : ∀ pt ∈ out, ∃ u ∈ ns, ∃ l, pt = u :: l ∧ (∀ v, v ∈ pt ↔ RchW adj u v) ∧ pt.Nodup ∧ ∀ w ∈ ns, RchW adj u w → u ≤ w
  all : ∀ w ∈ ns, ∃ pt ∈ out, w ∈ pt
  heads : out.Pairwise fun a b => a.headD 0 < b.headD 0

end Go.Proofs.YtddklkgcodjijaaGreat.R

/- One more edge: what becomes of the parts, in plain lists. -/
namespace Go.Proofs.YtddklkgcodjijaaGreat.R

/-- lists in a strict order with the same members are the same -/
theorem ord_ext {α : Type} (r : α → α → Prop) (has : ∀ x y, r x y → ¬ r y x) : ∀ {a b : List α}, a.Pairwise r → b.Pairwise r → (∀ x, x ∈ a ↔ x ∈ b) → a = b := by
  have hir : ∀ x, ¬ r x x := fun x h => has x x h h
  intro a
  induction a with
  | nil =>
    intro b _ _ h
    cases b with
    | nil => rfl
    | cons y b => exact absurd ((h y).2 (by simp)) (by simp)
  | cons x a ih =>
    intro b ha hb h
    cases b with
    | nil => exact absurd ((h x).1 (by simp)) (by simp)
    | cons y b =>
      have ha' := List.pairwise_cons.1 ha
      have hb' := List.pairwise_cons.1 hb
      have hxy : x = y := by
        rcases List.mem_cons.1 ((h x).1 (by simp)) with e | e
        · exact e
        · rcases List.mem_cons.1 ((h y).2 (by simp)) with e2 | e2
          · exact e2.symm
          · exact absurd (hb'.1 x e) (has _ _ (ha'.1 y e2))
      subst hxy
      congr 1
      refine ih ha'.2 hb'.2 fun z => ?_
      constructor
      · intro hz
        rcases List.mem_cons.1 ((h z).1 (by simp [hz])) with e | e
        · subst e; exact absurd (ha'.1 z hz) (hir z)
        · exact e
      · intro hz
        rcases List.mem_cons.1 ((h z).2 (by simp [hz])) with e | e
        · subst e; exact absurd (hb'.1 z hz) (hir z)
        · exact e

section
open Classical
variable {adj adj' : Int → List Int} {ns : List Int} {u v : Int}

/-- a way among the parts: R is an equivalence -/
structure Eqv (R : Int → Int → Prop) : Prop where
  refl : ∀ a, R a a
  symm : ∀ a b, R a b → R b a
  trans : ∀ a b c, R a b → R b c → R a c
theorem Eqv.same {R : Int → Int → Prop} (h : Eqv R) {a b : Int} (hab : R a b) : (fun x => decide (R a x)) = (fun x => decide (R b x)) := by
  funext x
  exact decide_eq_decide.2 ⟨fun h1 => h.trans _ _ _ (h.symm _ _ hab) h1, fun h1 => h.trans _ _ _ hab h1⟩

end
end Go.Proofs.YtddklkgcodjijaaGreat.R

/- The state of one walk of a walk through all: what it gathers, and the blocks that it leaves alone. -/
namespace Go.Proofs.YtddklkgcodjijaaGreat.R
open Go.RowKit Go.Lab Go.Maps Go.Proofs.YtddklkgcodjijaaGreatW.PrintWords Go.Proofs.YtddklkgcodjijaaGreatW.PrintLast Go.Proofs.YtddklkgcodjijaaGreatW.PrintMore PL

/-- how nodes are kept in a list: as numbers or as nodes -/
structure Kp where
  E : TypeId
  T : TypeId
  val : List Int → List Value
def kpI : Kp := ⟨3, 22, nums .i64⟩
def kpN : Kp := ⟨88, 60, nodeVs⟩
/-- what a list's variable may be: its type is none of the walk's own -/
def Kp.Ok (K : Kp) : Prop := (K.T = 22 ∨ K.T = 60) ∧ (K.E = 3 ∨ K.E = 88)
/-- nodes gathered in a variable -/
structure Gat (K : Kp) (lo : Nat) (w : World) (gv : Nat) (vv : Value) (pt : List Int) : Prop where
  blk : w.heap[gv]? = some (.cells #[vv] K.T (0, 0))
  own : w.ownsRow lo K.E 1 vv pt.length (K.val pt)
theorem Gat.stay {K : Kp} {lo : Nat} {w w1 : World} {gv : Nat} {vv : Value} {pt : List Int} (h : Gat K lo w gv vv pt) (h1 : w1.heap[gv]? = w.heap[gv]?) (h2 : ∀ k, vv.ownBlock = some k → w1.heap[k]? = w.heap[k]?) : Gat K lo w1 gv vv pt :=
  ⟨h1.trans h.blk, own_of_heap h.own h2⟩

/-- the state of a walk: w0: the world at the beginning of all walks, wF: at the beginning of this one, F: the blocks that it leaves alone -/
structure DV (K : Kp) (F : Nat → Prop) (w0 wF w : World) (gd gv gm : Nat) (st vv : Value) (stk vis pt : List Int) : Prop where
  ok : K.Ok
  stk : Stk w0.heap.size w gd .nilFunc .nilFunc (.map (some gm)) st stk
  set : SetOk w gm vis
  gmL : w0.heap.size ≤ gm
  gat : Gat K w0.heap.size w gv vv pt
  gv0 : gv < w0.heap.size
  gd0 : gd < w0.heap.size
  kp : KeepF (WM gd gv w0.heap.size) w0 w
  sep : ∀ k, st.ownBlock = some k → vv.ownBlock ≠ some k
  nF : ∀ k, F k → w0.heap.size ≤ k ∧ k < w.heap.size ∧ st.ownBlock ≠ some k ∧ vv.ownBlock ≠ some k ∧ k ≠ gm ∧ w.heap[k]? = wF.heap[k]?

section
variable {K : Kp} {F : Nat → Prop} {w0 wF w w1 wa : World} {gd gv gm : Nat} {st vv : Value} {stk vis pt : List Int}
theorem DV.L (h : DV K F w0 wF w gd gv gm st vv stk vis pt) : w0.heap.size ≤ w.heap.size := h.kp.size
theorem DV.stLt (h : DV K F w0 wF w gd gv gm st vv stk vis pt) {k : Nat} (hk : st.ownBlock = some k) : k < w.heap.size := by
  obtain ⟨c, hc⟩ := own_block h.stk.own hk; exact blk_lt hc
theorem DV.vvLt (h : DV K F w0 wF w gd gv gm st vv stk vis pt) {k : Nat} (hk : vv.ownBlock = some k) : k < w.heap.size := by
  obtain ⟨c, hc⟩ := own_block h.gat.own hk; exact blk_lt hc
theorem DV.apart (h : DV K F w0 wF w gd gv gm st vv stk vis pt) {k : Nat} (hk : st.ownBlock = some k) : k ≠ gd ∧ k ≠ gv ∧ k ≠ gm ∧ vv.ownBlock ≠ some k := by
  obtain ⟨c, hc⟩ := own_block h.stk.own hk
  refine ⟨fun e => ?_, fun e => ?_, h.set.cells_ne hc, h.sep k hk⟩
  · subst e; exact absurd (blk_type h.stk.blk hc) (by decide)
  · subst e
    have := blk_type h.gat.blk hc
    rcases h.ok.1 with e | e <;> rw [e] at this <;> exact absurd this (by decide)
theorem DV.apartV (h : DV K F w0 wF w gd gv gm st vv stk vis pt) {k : Nat} (hk : vv.ownBlock = some k) : k ≠ gd ∧ k ≠ gv ∧ k ≠ gm ∧ st.ownBlock ≠ some k := by
  obtain ⟨c, hc⟩ := own_block h.gat.own hk
  refine ⟨fun e => ?_, fun e => ?_, h.set.cells_ne hc, fun e => h.sep k e hk⟩
  · subst e
    have := blk_type h.stk.blk hc
    rcases h.ok.2 with e | e <;> rw [e] at this <;> exact absurd this (by decide)
  · subst e
    have := blk_type h.gat.blk hc
    rcases h.ok.1 with e | e <;> rcases h.ok.2 with e2 | e2 <;> rw [e, e2] at this <;> exact absurd this (by decide)
theorem DV.gdm (h : DV K F w0 wF w gd gv gm st vv stk vis pt) : gd ≠ gm ∧ gv ≠ gm ∧ gd ≠ gv :=
  ⟨h.set.cells_ne h.stk.blk, h.set.cells_ne h.gat.blk, fun e => by
    subst e
    have := blk_type h.stk.blk h.gat.blk
    rcases h.ok.1 with e | e <;> rw [e] at this <;> exact absurd this (by decide)⟩

/-- nothing of it is turned -/
theorem DV.stay (h : DV K F w0 wF w gd gv gm st vv stk vis pt) (hk : KeepF (WM gd gv w0.heap.size) w w1) (hd : w1.heap[gd]? = w.heap[gd]?) (hv : w1.heap[gv]? = w.heap[gv]?) (hm : w1.heap[gm]? = w.heap[gm]?)
    (hs : ∀ k, st.ownBlock = some k → w1.heap[k]? = w.heap[k]?) (hvv : ∀ k, vv.ownBlock = some k → w1.heap[k]? = w.heap[k]?) (hF : ∀ k, F k → w1.heap[k]? = w.heap[k]?) : DV K F w0 wF w1 gd gv gm st vv stk vis pt :=
  ⟨h.ok, h.stk.stay hd hs, h.set.stay hm, h.gmL, h.gat.stay hv hvv, h.gv0, h.gd0, h.kp.trans hk, h.sep, fun k hk2 => by
    obtain ⟨a, b, c, d, e, f⟩ := h.nF k hk2
    exact ⟨a, Nat.lt_of_lt_of_le b hk.size, c, d, e, (hF k hk2).trans f⟩⟩
theorem DV.below (h : DV K F w0 wF w gd gv gm st vv stk vis pt) (hb : Below w.heap.size w w1) : DV K F w0 wF w1 gd gv gm st vv stk vis pt :=
  h.stay (KeepF.of_below hb) (hb.block _ (blk_lt h.stk.blk)) (hb.block _ (blk_lt h.gat.blk)) (hb.block _ h.set.lt) (fun k hk => hb.block k (h.stLt hk)) (fun k hk => hb.block k (h.vvLt hk)) (fun k hk => hb.block k (h.nF k hk).2.1)
/-- the iterator goes on -/
theorem DV.mid (h : DV K F w0 wF w gd gv gm st vv stk vis pt) {lo B : Nat} (hm : Mid lo B w w1) (hlo : w0.heap.size ≤ lo) (hgm : gm < lo) (hst : ∀ k, st.ownBlock = some k → k < lo ∨ B ≤ k) (hvv : ∀ k, vv.ownBlock = some k → k < lo) (hF : ∀ k, F k → k < lo) : DV K F w0 wF w1 gd gv gm st vv stk vis pt := by
  have hd := blk_lt h.stk.blk
  have hv := blk_lt h.gat.blk
  have h1 := h.gv0
  have h2 := h.gd0
  refine h.stay ⟨hm.os, hm.tape, hm.output, hm.size, fun k hk hn => hm.block k hk (.inl ?_)⟩ (hm.block _ hd (.inl (by omega))) (hm.block _ hv (.inl (by omega))) (hm.block _ h.set.lt (.inl hgm)) (fun k hk => hm.block k (h.stLt hk) (hst k hk)) (fun k hk => hm.block k (h.vvLt hk) (.inl (hvv k hk))) (fun k hk => hm.block k (h.nF k hk).2.1 (.inl (hF k hk)))
  unfold WM at hn
  omega
/-- a node is taken off the stack -/
theorem DV.pop (h : DV K F w0 wF w gd gv gm st vv stk vis pt) {st' : Value} {ys : List Int} (hs : Stk w0.heap.size w1 gd .nilFunc .nilFunc (.map (some gm)) st' ys) (hb : st'.ownBlock = st.ownBlock) (hg : w.grownBy w1 (some gd)) : DV K F w0 wF w1 gd gv gm st' vv ys vis pt := by
  have hne := h.gdm
  refine ⟨h.ok, hs, h.set.stay (hg.block _ h.set.lt (fun e => hne.1 (Option.some.inj e).symm)), h.gmL, h.gat.stay (hg.block _ (blk_lt h.gat.blk) (fun e => hne.2.2 (Option.some.inj e).symm)) (fun k hk => hg.block k (h.vvLt hk) (fun e => (h.apartV hk).1 (Option.some.inj e))), h.gv0, h.gd0, h.kp.trans (KeepF.of_grown hg (fun k hk => .inl (Option.some.inj hk).symm)), fun k hk => h.sep k (hb ▸ hk), fun k hk => ?_⟩
  obtain ⟨a, b, c, d, e, f⟩ := h.nF k hk
  have := h.gd0
  exact ⟨a, Nat.lt_of_lt_of_le b hg.size, hb ▸ c, d, e, (hg.block k b (fun e2 => by have := Option.some.inj e2; omega)).trans f⟩
/-- a node is put on the stack -/
theorem DV.push (h : DV K F w0 wF w gd gv gm st vv stk vis pt) {st' : Value} {ys : List Int} (hs : Stk w0.heap.size w1 gd .nilFunc .nilFunc (.map (some gm)) st' ys) (h1 : w.grownBy wa st.ownBlock) (h2 : wa.grownBy w1 (some gd)) (hat : st'.ownBlock = st.ownBlock ∨ ∃ q, st'.ownBlock = some q ∧ w.heap.size ≤ q) : DV K F w0 wF w1 gd gv gm st' vv ys vis pt := by
  have hne := h.gdm
  refine ⟨h.ok, hs, h.set.stay (two_turns h1 h2 h.set.lt (fun e => (h.apart e).2.2.1 rfl) (fun e => hne.1 e.symm)), h.gmL, h.gat.stay (two_turns h1 h2 (blk_lt h.gat.blk) (fun e => (h.apart e).2.1 rfl) (fun e => hne.2.2 e.symm)) (fun k hk => two_turns h1 h2 (h.vvLt hk) (fun e => (h.apart e).2.2.2 hk) (h.apartV hk).1), h.gv0, h.gd0, ?_, fun k hk hv => ?_, fun k hk => ?_⟩
  · exact (h.kp.trans (KeepF.of_grown h1 (fun k hk => .inr (.inr (own_base h.stk.own k hk))))).trans (KeepF.of_grown h2 (fun k hk => .inl (Option.some.inj hk).symm))
  · rcases hat with e | ⟨q, e, hq⟩
    · exact h.sep k (e ▸ hk) hv
    · rw [e] at hk
      have := h.vvLt hv
      have := Option.some.inj hk
      omega
  · obtain ⟨a, b, c, d, e, f⟩ := h.nF k hk
    have hgd := h.gd0
    refine ⟨a, Nat.lt_of_lt_of_le b (Nat.le_trans h1.size h2.size), fun e2 => ?_, d, e, (two_turns h1 h2 b c (by omega)).trans f⟩
    rcases hat with e3 | ⟨q, e3, hq⟩
    · exact c (e3 ▸ e2)
    · rw [e3] at e2
      have := Option.some.inj e2
      omega
/-- a node is marked, and gathered -/
theorem DV.visit (h : DV K F w0 wF w gd gv gm st vv stk vis pt) {w2 w3 : World} {vis' pt' : List Int} {vv' : Value} (hs : SetOk w1 gm vis') (hg : w.grownBy w1 (some gm))
    (hv' : Gat K w0.heap.size w3 gv vv' pt') (h1 : w1.grownBy w2 vv.ownBlock) (h2 : w2.grownBy w3 (some gv)) (hat : vv'.ownBlock = vv.ownBlock ∨ ∃ q, vv'.ownBlock = some q ∧ w1.heap.size ≤ q) : DV K F w0 wF w3 gd gv gm st vv' stk vis' pt' := by
  have hne := h.gdm
  have z1 := hg.size
  have bk : ∀ k, k < w.heap.size → k ≠ gm → vv.ownBlock ≠ some k → k ≠ gv → w3.heap[k]? = w.heap[k]? := fun k hk a b c =>
    (two_turns h1 h2 (Nat.lt_of_lt_of_le hk z1) b c).trans (hg.block k hk (fun e => a (Option.some.inj e)))
  refine ⟨h.ok, h.stk.stay (bk _ (blk_lt h.stk.blk) hne.1 (fun e => (h.apartV e).1 rfl) hne.2.2) (fun k hk => bk k (h.stLt hk) (h.apart hk).2.2.1 (h.apart hk).2.2.2 (h.apart hk).2.1), hs.stay (two_turns h1 h2 hs.lt (fun e => (h.apartV e).2.2.1 rfl) (fun e => hne.2.1 e.symm)), h.gmL, hv', h.gv0, h.gd0, ?_, fun k hk hv => ?_, fun k hk => ?_⟩
  · exact ((h.kp.trans (KeepF.of_grown hg (fun k hk => .inr (.inr (by have := h.gmL; have := Option.some.inj hk; omega))))).trans (KeepF.of_grown h1 (fun k hk => .inr (.inr (own_base h.gat.own k hk))))).trans (KeepF.of_grown h2 (fun k hk => .inr (.inl (Option.some.inj hk).symm)))
  · rcases hat with e | ⟨q, e, hq⟩
    · exact h.sep k hk (e ▸ hv)
    · rw [e] at hv
      have := h.stLt hk
      have := Option.some.inj hv
      omega
  · obtain ⟨a, b, c, d, e, f⟩ := h.nF k hk
    have hgv := h.gv0
    refine ⟨a, Nat.lt_of_lt_of_le (Nat.lt_of_lt_of_le b z1) (Nat.le_trans h1.size h2.size), c, fun e2 => ?_, e, (bk k b e d (by omega)).trans f⟩
    rcases hat with e3 | ⟨q, e3, hq⟩
    · exact d (e3 ▸ e2)
    · rw [e3] at e2
      have := Option.some.inj e2
      omega
theorem DV.cells (h : DV K F w0 wF w gd gv gm st vv stk vis pt) : w.cell? ⟨gd, 0, none⟩ = some .nilFunc ∧ w.cell? ⟨gd, 1, none⟩ = some .nilFunc ∧ w.cell? ⟨gd, 3, none⟩ = some (.map (some gm)) :=
  ⟨(blk_cell h.stk.blk 0).trans rfl, (blk_cell h.stk.blk 1).trans rfl, (blk_cell h.stk.blk 3).trans rfl⟩
end
end Go.Proofs.YtddklkgcodjijaaGreat.R

/- One walk depth first inside a walk through all. -/
namespace Go.Proofs.YtddklkgcodjijaaGreat.R
open Go.RowKit Go.Lab Go.Maps Go.Proofs.YtddklkgcodjijaaGreatW.PrintWords Go.Proofs.YtddklkgcodjijaaGreatW.PrintLast Go.Proofs.YtddklkgcodjijaaGreatW.PrintMore PL

theorem vnU (gu : Nat) (w : World) : (binOp .neq 186 (.func (.func 121) #[] #[.pointer (some ⟨gu, 0, none⟩)]) .nilFunc).run Tryz.prog w = .ok (.bool true) w := by kernel_rfl
theorem vnV (w : World) : (binOp .neq 150 .nilFunc .nilFunc).run Tryz.prog w = .ok (.bool false) w := by kernel_rfl
theorem vnT (w : World) : (binOp .neq 151 .nilFunc .nilFunc).run Tryz.prog w = .ok (.bool false) w := by kernel_rfl
theorem mapNil' (w : World) : (binOp .eql 154 (.map none) (.map none)).run Tryz.prog w = .ok (.bool true) w := by kernel_rfl
theorem mapSome' (g : Nat) (w : World) : (binOp .eql 154 (.map (some g)) (.map none)).run Tryz.prog w = .ok (.bool false) w := by kernel_rfl
theorem run_map78 (w : World) : (Instr.makeMap 154 none).run Tryz.prog w = .ok (.map (some w.heap.size)) (w.alloc (.map #[] 0)) := by
  simp [Instr.makeMap, run_underlying Tryz.underlying154]
theorem meth_UFrom2 (a : Addr) (w : World) : (method 396 108 (.agg #[.pointer (some a)]) "From").run Tryz.prog w = .ok (222, .agg #[.pointer (some a)]) w := by kernel_rfl

theorem outN_len (zs : List Int) (es : List S95) (u : Int) : (outN zs es u).length ≤ zs.length := by
  unfold outN
  exact Nat.le_trans (List.length_filter_le _ _) (by rw [srt_length]; exact Nat.le_refl _)
theorem outN_mem {zs : List Int} {es : List S95} {u v : Int} (h : v ∈ outN zs es u) : v ∈ zs ∧ (arcW es u v).isSome = true := by
  unfold outN at h
  obtain ⟨h1, h2⟩ := List.mem_filter.1 h
  exact ⟨(mem_srt _ _).1 h1, h2⟩

/-- what is done at each node of a walk: it is gathered -/
def UntilOk (K : Kp) (lo gv gu : Nat) (dv : Value) : Prop := ∀ (w : World) (vv : Value) (pt : List Int) (x : Int), Gat K lo w gv vv pt → pt.length ≤ 10000000 → lo ≤ w.heap.size → w.cell? ⟨gu, 0, none⟩ = some dv →
  Calls Tryz.prog 121 #[.iface 272 (.int .i64 x), .pointer (some ⟨gu, 0, none⟩)] w fun e w' => e = .returned (.bool false) ∧ ∃ vv' w1, Gat K lo w' gv vv' (pt ++ [x]) ∧ w.grownBy w1 vv.ownBlock ∧ w1.grownBy w' (some gv) ∧ (vv'.ownBlock = vv.ownBlock ∨ ∃ q, vv'.ownBlock = some q ∧ w.heap.size ≤ q)

/-- what the walks read, in the world at the beginning of all -/
structure VEnv (K : Kp) (w0 : World) (gd gv base bp : Nat) (zs : List Int) (es : List S95) (p : Pl) : Prop where
  gr : GrOk w0 base bp zs es p
  ok : K.Ok
  hd : ∃ cs, w0.heap[gd]? = some (.cells cs 156 (0, 0))
  hv : ∃ cs, w0.heap[gv]? = some (.cells cs K.T (0, 0))
  wf : ∀ x ∈ zs, (Lit.int .i64 x).wf = true
theorem VEnv.to {K : Kp} {w0 w : World} {gd gv base bp : Nat} {zs : List Int} {es : List S95} {p : Pl} (h : VEnv K w0 gd gv base bp zs es p) (hk : KeepF (WM gd gv w0.heap.size) w0 w) : GrOk w base bp zs es p := by
  refine ⟨h.gr.ok.kinds fun k cc tt hkk ht => hk.block k (blk_lt hkk) (fun hm => ?_), h.gr.good, h.gr.adj, h.gr.hs, h.gr.hn⟩
  obtain ⟨c1, hd⟩ := h.hd
  obtain ⟨c2, hv⟩ := h.hv
  rcases hm with e | e | e
  · subst e
    have := blk_type hkk hd
    exact absurd this (by rcases ht with rfl | rfl | rfl | rfl <;> decide)
  · subst e
    have := blk_type hkk hv
    rcases h.ok.1 with e | e <;> rw [e] at this <;> exact absurd this (by rcases ht with rfl | rfl | rfl | rfl <;> decide)
  · have := blk_lt hkk
    omega

/-- a walk's object with its new map -/
theorem DV.first {K : Kp} {F : Nat → Prop} {w0 wF : World} {gd gv : Nat} {st vv : Value} (ok : K.Ok) (hs : Stk w0.heap.size wF gd .nilFunc .nilFunc (.map none) st []) (hg : Gat K w0.heap.size wF gv vv []) (gv0 : gv < w0.heap.size) (gd0 : gd < w0.heap.size) (kp : KeepF (WM gd gv w0.heap.size) w0 wF)
    (sep : ∀ k, st.ownBlock = some k → vv.ownBlock ≠ some k) (nF : ∀ k, F k → w0.heap.size ≤ k ∧ k < wF.heap.size ∧ st.ownBlock ≠ some k ∧ vv.ownBlock ≠ some k) :
    DV K F w0 wF ((wF.setCell ⟨gd, 3, none⟩ (.map (some wF.heap.size))).alloc (.map #[] 0)) gd gv wF.heap.size st vv [] [] [] := by
  have hsz : (wF.setCell ⟨gd, 3, none⟩ (.map (some wF.heap.size))).heap.size = wF.heap.size := by simp
  have hm := SetOk.made (wF.setCell ⟨gd, 3, none⟩ (.map (some wF.heap.size)))
  rw [hsz] at hm
  have hL := kp.size
  have keep : ∀ k, k < wF.heap.size → k ≠ gd → ((wF.setCell ⟨gd, 3, none⟩ (.map (some wF.heap.size))).alloc (.map #[] 0)).heap[k]? = wF.heap[k]? := fun k hk hne => by
    rw [Below.heap_alloc _ _ _ (by rw [hsz]; exact hk)]
    exact Below.heap_setCell _ _ _ _ hne
  have hnegv : gv ≠ gd := fun e => by
    subst e
    have := blk_type hs.blk hg.blk
    rcases ok.1 with e | e <;> rw [e] at this <;> exact absurd this (by decide)
  have stne : ∀ k, st.ownBlock = some k → k < wF.heap.size ∧ k ≠ gd := fun k hk => by
    obtain ⟨c, hc⟩ := own_block hs.own hk
    exact ⟨blk_lt hc, fun e => by subst e; exact absurd (blk_type hs.blk hc) (by decide)⟩
  have vvne : ∀ k, vv.ownBlock = some k → k < wF.heap.size ∧ k ≠ gd := fun k hk => by
    obtain ⟨c, hc⟩ := own_block hg.own hk
    refine ⟨blk_lt hc, fun e => ?_⟩
    subst e
    have := blk_type hs.blk hc
    rcases ok.2 with e | e <;> rw [e] at this <;> exact absurd this (by decide)
  refine ⟨ok, ⟨blk_alloc (blk_put (cs := #[.nilFunc, .nilFunc, st, .map none]) hs.blk 3 _ rfl) _, own_of_heap hs.own fun k hk => keep k (stne k hk).1 (stne k hk).2⟩, hm, hL, ⟨(keep gv (blk_lt hg.blk) hnegv).trans hg.blk, own_of_heap hg.own fun k hk => keep k (vvne k hk).1 (vvne k hk).2⟩, gv0, gd0, ?_, sep, fun k hk => ?_⟩
  · exact (kp.trans (KeepF.of_grown (grown_set wF gd 3 _) (fun k hk => .inl (Option.some.inj hk).symm))).trans (KeepF.of_grown (World.grownBy_alloc _ _ none) (fun k hk => by cases hk))
  · obtain ⟨a, b, c, d⟩ := nF k hk
    exact ⟨a, by simp; omega, c, d, by omega, keep k b (by omega)⟩

/-- what a walk leaves -/
def VEnd (K : Kp) (F : Nat → Prop) (w0 wF w' : World) (gd gv gm : Nat) (v0 pt : List Int) : Prop := ∃ st vv, DV K F w0 wF w' gd gv gm st vv [] (v0 ++ pt) pt
/-- the walk's state ahead of a round, with the rounds that are left -/
def DvI (K : Kp) (F : Nat → Prop) (w0 wF w : World) (gd gv gm : Nat) (adj : Int → List Int) (zs v0 : List Int) (N : Nat) (r : List Int) (kq : Nat) : Prop :=
  ∃ st vv stk pt, DV K F w0 wF w gd gv gm st vv stk (v0 ++ pt) pt ∧ dfsV adj v0 kq stk pt = some r ∧ stk.length ≤ 1 + 1000 * (N - kq) ∧ pt.length ≤ N - kq ∧ kq ≤ N ∧ ∀ x ∈ stk, x ∈ zs
/-- inside a round: the neighbours are gone through -/
def VnI (K : Kp) (F : Nat → Prop) (w0 wF wr : World) (gd gv gm : Nat) (vv : Value) (lo B b : Nat) (nb : List Int) (s vis pt : List Int) : Prop :=
  ∃ (k : Nat) (st' : Value), k ≤ nb.length ∧ OIt lo B wr b nb k ∧ DV K F w0 wF wr gd gv gm st' vv (s ++ nb.take k) vis pt ∧ (∀ q, st'.ownBlock = some q → q < lo ∨ B ≤ q) ∧ B ≤ wr.heap.size

set_option maxHeartbeats 16000000 in
set_option maxRecDepth 100000 in
theorem dfsV_next (K : Kp) (F : Nat → Prop) (w0 wF : World) (gd gv gu base bp : Nat) (dv : Value) (zs : List Int) (es : List S95) (p : Pl) (st vv : Value) (gm : Nat) (v0 : List Int) (hv0 : v0.length ≤ 100000) (s0 : Int) (N : Nat) (hN : N ≤ 9000) (r : List Int)
    (h : VEnv K w0 gd gv base bp zs es p) (hU : UntilOk K w0.heap.size gv gu dv) (hFu : F gu) (hdv : wF.cell? ⟨gu, 0, none⟩ = some dv)
    (hD : DV K F w0 wF wF gd gv gm st vv [] v0 [])
    (hs0 : s0 ∈ zs) (hr : dfsV (outN zs es) v0 N [s0] [] = some r) :
    Calls Tryz.prog 120 #[.pointer (some ⟨gd, 0, none⟩), .iface 108 (.agg #[.pointer (some ⟨bp, 0, none⟩)]), .iface 272 (.int .i64 s0), .func (.func 121) #[] #[.pointer (some ⟨gu, 0, none⟩)]] wF fun e w' =>
      e = .returned .nilIface ∧ VEnd K F w0 wF w' gd gv gm v0 r := by
  have HE := Aside0.mk h
  have HU := Aside0.mk hU
  have hnn := h.gr.hn
  have HDV : Aside0 (∀ w' : World, w'.heap[gu]? = wF.heap[gu]? → w'.cell? ⟨gu, 0, none⟩ = some dv) := ⟨fun w' e => (World.cell?_of_block e).trans hdv⟩
  have HFU := Aside0.mk hFu
  have HS := Aside0.mk hD
  have e3 : wF.cell? ⟨gd, 3, none⟩ = some (.map (some gm)) := (blk_cell hD.stk.blk 3).trans rfl
  have f3 := blk_frozen hD.stk.blk 3
  have hgl := blk_lt hD.stk.blk
  have kM := mapSome' gm
  have mF := meth_UFrom2 ⟨bp, 0, none⟩
  have kU := vnU gu
  have kV := vnV
  have kT := vnT
  have HR := Aside0.mk hr
  have HS0 := Aside0.mk hs0
  clear h hU hFu hdv hr hs0
  clear hD
  go_enter Tryz.func120, Tryz.ntmps120
  go_wp2_with (go_at_call 154; refine (spush_any w0.heap.size gd .nilFunc .nilFunc (.map (some gm)) st [] s0 _ HS.out.stk (by simp) HS.out.L).mono ?_; rintro e w1 ⟨rfl, st1, wa, hs1, hg1, hg2, hat⟩; have HD := Aside0.mk (HS.out.push hs1 hg1 hg2 hat); clear hs1 hg1 hg2 hat)
  have HI := Aside0.mk (show DvI K F w0 wF w1 gd gv gm (outN zs es) zs v0 N r N from ⟨st1, _, [s0], [], by simpa using HD.out, HR.out, by simp, by simp, Nat.le_refl _, fun x hx => by simp at hx; subst hx; exact HS0.out⟩)
  clear HD e3 f3
  go_loopg [9] N (fun kq v9 w' => Aside0 (DvI K F w0 wF w' gd gv gm (outN zs es) zs v0 N r kq))
  case atStart => exact HI
  case round =>
    clear HI HS HR HS0
    obtain ⟨st, vv, stk, pt, hD, hr, hl1, hl2, hkq, hz⟩ := hrel.out
    cases gk with
    | zero => exact absurd hr (by simp [dfsV])
    | succ k1 =>
      have HD := Aside0.mk hD
      rcases nil_or_snoc stk with rfl | ⟨s, u, rfl⟩
      · rw [dfsV_nil] at hr
        obtain rfl := Option.some.inj hr
        clear hrel hr hl1 hl2 hkq hz hD
        go_wp2_with (go_at_call 155; refine (slen_any _ gd _ _ _ _ [] _ HD.out.stk).mono ?_; rintro e w2 ⟨rfl, rfl⟩)
        go_ret
        exact ⟨rfl, _, _, HD.out⟩
      · rw [dfsV_snoc] at hr
        have hlen : (s ++ [u]).length = s.length + 1 := by simp
        rw [hlen] at hl1
        have HN := Aside0.mk hlen
        have HW := Aside0.mk (HE.out.wf u (hz u (by simp)))
        have HUZ := Aside0.mk (hz u (by simp))
        have HZ := Aside0.mk (show ∀ x ∈ s, x ∈ zs from fun x hx => hz x (by simp [hx]))
        have m1 := meth_ID u
        have HL := Aside0.mk (And.intro hl1 (And.intro hl2 hkq))
        have hsb : s.length ≤ 10000000 := by omega
        have hvb : (v0 ++ pt).length ≤ 10000000 := by rw [List.length_append]; (try simp only [List.length_nil]); omega
        have hq2 := (blk_cell hD.stk.blk 2).trans (rfl : _ = some st)
        clear hlen hz hl1 hl2 hkq hrel hD
        by_cases hm : u ∈ v0 ++ pt
        · rw [if_pos hm] at hr
          have HR := Aside0.mk hr
          have hd : decide (u ∈ v0 ++ pt) = true := decide_eq_true hm
          clear hr hm
          go_wp2_with (first
            | (go_at_call 155; refine (slen_any _ gd _ _ _ _ (s ++ [u]) _ HD.out.stk).mono ?_; rintro e w2 ⟨rfl, rfl⟩; rw [HN.out])
            | (go_at_call 156; refine (spop_any _ gd _ _ _ _ s u _ HD.out.stk hsb).mono ?_; rintro e w2 ⟨rfl, st2, hs2, hb2, hg2⟩; have HD2 := Aside0.mk (HD.out.pop hs2 hb2 hg2); obtain ⟨q0, q1, q3⟩ := HD2.out.cells; clear hs2 hb2 hg2)
            | (go_at_call 239; refine (nodeID_any u _).mono ?_; rintro e w3 ⟨rfl, rfl⟩)
            | (go_at_call 136; refine (has_any _ (v0 ++ pt) u _ HD2.out.set HW.out).mono ?_; rintro e w3 ⟨rfl, hb3⟩; have HD3 := Aside0.mk (HD2.out.below hb3); clear hb3; rw [hd]))
          go_roundg k1
          case measure => omega
          case rel => exact ⟨st2, vv, s, pt, HD3.out, HR.out, by have := HL.out; omega, by have := HL.out; omega, by have := HL.out; omega, HZ.out⟩
        · rw [if_neg hm] at hr
          have hd : decide (u ∈ v0 ++ pt) = false := decide_eq_false hm
          have HR := Aside0.mk hr
          have hpb : pt.length ≤ 10000000 := by have := HL.out; omega
          clear hr hm
          go_wp2_with (first
            | (go_at_call 155; refine (slen_any _ gd _ _ _ _ (s ++ [u]) _ HD.out.stk).mono ?_; rintro e w2 ⟨rfl, rfl⟩; rw [HN.out])
            | (go_at_call 156; refine (spop_any _ gd _ _ _ _ s u _ HD.out.stk hsb).mono ?_; rintro e w2 ⟨rfl, st2, hs2, hb2, hg2⟩; have HD2 := Aside0.mk (HD.out.pop hs2 hb2 hg2); obtain ⟨q0, q1, q3⟩ := HD2.out.cells; clear hs2 hb2 hg2)
            | (go_at_call 239; refine (nodeID_any u _).mono ?_; rintro e w3 ⟨rfl, rfl⟩)
            | (go_at_call 136; refine (has_any _ (v0 ++ pt) u _ HD2.out.set HW.out).mono ?_; rintro e w3 ⟨rfl, hb3⟩; have HD3 := Aside0.mk (HD2.out.below hb3); obtain ⟨q0, q1, q3⟩ := HD3.out.cells; clear hb3; rw [hd])
            | (go_at_call 135; refine (add_any _ (v0 ++ pt) u _ HD3.out.set HW.out hvb).mono ?_; rintro e w4 ⟨rfl, hs4, hg4⟩; have HA := Aside0.mk (And.intro hs4 hg4); have q0 := (World.cell?_of_block (hg4.block gd (blk_lt HD3.out.stk.blk) (fun e => HD3.out.gdm.1 (Option.some.inj e)))).trans q0; clear hs4 hg4)
            | (go_at_call 121; refine (HU.out w4 vv pt u (HD3.out.gat.stay (HA.out.2.block _ (blk_lt HD3.out.gat.blk) (fun e => HD3.out.gdm.2.1 (Option.some.inj e))) (fun k hk => HA.out.2.block k (HD3.out.vvLt hk) (fun e => (HD3.out.apartV hk).2.2.1 (Option.some.inj e)))) hpb (Nat.le_trans HD3.out.L HA.out.2.size) (HDV.out w4 ((HA.out.2.block gu (HD3.out.nF gu HFU.out).2.1 (fun e => (HD3.out.nF gu HFU.out).2.2.2.2.1 (Option.some.inj e))).trans (HD3.out.nF gu HFU.out).2.2.2.2.2))).mono ?_; rintro e w6 ⟨rfl, vv5, wb, hv5, hg5, hg5', hat5⟩; have HD6 := Aside0.mk (HD3.out.visit HA.out.1 HA.out.2 hv5 hg5 hg5' hat5); clear hv5 hg5 hg5' hat5)
            | (go_at_call 222; refine (gFromU base bp zs es p u _ (HE.out.to HD6.out.kp) HUZ.out).mono ?_; rintro e w7 ⟨b, rfl, hit, hb7⟩; have HD7 := Aside0.mk (HD6.out.below hb7); have HIT := Aside0.mk hit; have HB7 := Aside0.mk hb7; clear hit hb7))
          obtain ⟨nb, hnb⟩ : ∃ nb, outN zs es u = nb := ⟨_, rfl⟩
          rw [hnb] at HIT
          have HNB := Aside0.mk hnb
          have hnl : nb.length ≤ 1000 := by rw [← hnb]; exact Nat.le_trans (outN_len zs es u) hnn
          clear hnb
          have HLO := Aside0.mk (show w0.heap.size ≤ w6.heap.size ∧ gm < w6.heap.size ∧ (∀ k, vv5.ownBlock = some k → k < w6.heap.size) ∧ (∀ k, F k → k < w6.heap.size) from ⟨HD6.out.L, HD6.out.set.lt, fun k hk => HD6.out.vvLt hk, fun k hk => (HD6.out.nF k hk).2.1⟩)
          have HI2 := Aside0.mk (show VnI K F w0 wF w7 gd gv gm vv5 w6.heap.size w7.heap.size b nb s (v0 ++ pt ++ [u]) (pt ++ [u]) from ⟨0, st2, Nat.zero_le _, HIT.out, by simpa using HD7.out, fun q hq => .inl (HD6.out.stLt hq), Nat.le_refl _⟩)
          have n1 := meth_ONext ⟨b, 0, none⟩
          have n2 := meth_ONode ⟨b, 0, none⟩
          clear HD HD2 HD3 HA HD7 HIT HB7 HD6
          generalize w6.heap.size = lo at HI2 HLO
          generalize w7.heap.size = B at HI2
          go_loopw [12] (fun _ wr => Aside0 (VnI K F w0 wF wr gd gv gm vv5 lo B b nb s (v0 ++ pt ++ [u]) (pt ++ [u]))) (fun _ wr => nb.length + 2 - posI wr b)
          case atStart => exact HI2
          case round =>
            clear HI2
            obtain ⟨k, st3, hk, hO, hD, hst, hB⟩ := hrel.out
            have HO := Aside0.mk hO
            have HD8 := Aside0.mk hD
            have HST := Aside0.mk hst
            have HB := Aside0.mk hB
            have hpos := hO.pos
            have HPOS := Aside0.mk hpos
            have hkk := hk
            clear hrel hO hD hst hB hk hpos
            by_cases hlt : k < nb.length
            · have hdk : decide (k < nb.length) = true := decide_eq_true hlt
              obtain ⟨v, hv⟩ : ∃ v, nb[k] = v := ⟨_, rfl⟩
              have HV := Aside0.mk hv
              have m2 := meth_ID v
              have htk : nb.take (k + 1) = nb.take k ++ [v] := by rw [← hv]; exact List.take_succ_eq_append_getElem hlt
              have HTK := Aside0.mk htk
              have hfl : (nb.take k).length ≤ 1000 := by rw [List.length_take]; omega
              have HFL := Aside0.mk hfl
              clear hv htk hfl
              go_wp2_with (first
                | (go_at_call 245; refine (next_any lo B b k nb _ HO.out (by omega)).mono ?_; rintro e wn ⟨rfl, hO1, hM1⟩; rw [hdk]; rw [if_pos hlt] at hO1; have HO1 := Aside0.mk hO1; have HD9 := Aside0.mk (HD8.out.mid hM1 HLO.out.1 HLO.out.2.1 HST.out HLO.out.2.2.1 HLO.out.2.2.2); have HS9 := Aside0.mk hM1.size; clear hO1 hM1)
                | (go_at_call 246; refine (nodeI_q lo B b k nb _ HO1.out hlt (by omega)).mono ?_; rintro e wq ⟨rfl, nq, hwq⟩; rw [HV.out]; have HO2 := Aside0.mk (show OIt lo B wq b nb (k + 1) by subst hwq; exact HO1.out.far (fun _ _ _ => rfl)); have HS10 := Aside0.mk (show wn.heap.size ≤ wq.heap.size by subst hwq; exact Nat.le_refl _); have HD10 := Aside0.mk (HD9.out.below (show Below wn.heap.size wn wq by subst hwq; exact pw_below_drewN (Below.refl _ _) nq)); clear hwq)
                | (go_at_call 239; refine (nodeID_any v _).mono ?_; rintro e wi ⟨rfl, rfl⟩))
              obtain ⟨q0, q1, q3⟩ := HD10.out.cells
              go_quiet (fail)
              have HBQ := Aside0.mk (show Below wq.heap.size wq (wq.drewN nq) from pw_below_drewN (Below.refl _ _) nq)
              have HD11 := Aside0.mk (HD10.out.below HBQ.out)
              have HO3 := Aside0.mk (HO2.out.far (fun q hq1 hq2 => HBQ.out.block q (by have := HB.out; have := HS9.out; have := HS10.out; omega)))
              have HS11 := Aside0.mk (Nat.le_trans HB.out (Nat.le_trans HS9.out HS10.out))
              go_wp2_with (go_at_call 154; refine (spush_any w0.heap.size gd .nilFunc .nilFunc (.map (some gm)) st3 _ v _ HD11.out.stk (by have := HFL.out; have := HL.out; rw [List.length_append]; omega) HD11.out.L).mono ?_; rintro e w10 ⟨rfl, st4, wc, hs4, hg4, hg5, hat⟩; have HD12 := Aside0.mk (HD11.out.push hs4 hg4 hg5 hat); have HG := Aside0.mk (And.intro hg4 (And.intro hg5 hat)); clear hs4 hg4 hg5 hat)
              go_roundw
              case rel =>
                have hOn : OIt lo B w10 b nb (k + 1) := HO3.out.far (fun q hq1 hq2 => two_turns HG.out.1 HG.out.2.1 (by have := HS11.out; simp at *; omega) (fun e => by have := HST.out q e; omega) (by have := HD11.out.gd0; have := HLO.out.1; omega))
                have hsz : wq.heap.size ≤ w10.heap.size := Nat.le_trans HG.out.1.size HG.out.2.1.size
                refine ⟨⟨k + 1, st4, by omega, hOn, ?_, fun q hq => ?_, Nat.le_trans HS11.out hsz⟩⟩
                · have := HD12.out
                  rw [List.append_assoc] at this
                  rw [HTK.out]
                  exact this
                · rcases HG.out.2.2 with h1 | ⟨q', h1, h2⟩
                  · rw [h1] at hq; exact HST.out q hq
                  · rw [h1] at hq
                    have := Option.some.inj hq
                    have := HS11.out
                    simp at h2
                    omega
              case measure =>
                have hOn : OIt lo B w10 b nb (k + 1) := HO3.out.far (fun q hq1 hq2 => two_turns HG.out.1 HG.out.2.1 (by have := HS11.out; simp at *; omega) (fun e => by have := HST.out q e; omega) (by have := HD11.out.gd0; have := HLO.out.1; omega))
                rw [hOn.pos, HPOS.out]; omega
            · have hke : k = nb.length := by omega
              have hdk : decide (k < nb.length) = false := decide_eq_false hlt
              go_wp2_with (go_at_call 245; refine (next_any lo B b k nb _ HO.out (by omega)).mono ?_; rintro e wn ⟨rfl, hO1, hM1⟩; rw [hdk]; have HD9 := Aside0.mk (HD8.out.mid hM1 HLO.out.1 HLO.out.2.1 HST.out HLO.out.2.2.1 HLO.out.2.2.2); clear hO1 hM1)
              go_roundg k1
              case measure => omega
              case rel =>
                have hD9 := HD9.out
                rw [hke, List.take_length, ← HNB.out, List.append_assoc] at hD9
                have hal : (outN zs es u).length ≤ 1000 := by rw [HNB.out]; exact hnl
                refine ⟨⟨st3, vv5, _, _, hD9, HR.out, ?_, ?_, ?_, fun x hx => ?_⟩⟩
                · rw [List.length_append]; have := HL.out; omega
                · rw [List.length_append, List.length_singleton]; have := HL.out; omega
                · have := HL.out; omega
                · rcases List.mem_append.1 hx with hx | hx
                  · exact HZ.out x hx
                  · exact (outN_mem hx).1
end Go.Proofs.YtddklkgcodjijaaGreat.R

/- What is done at each node: it is gathered. -/
namespace Go.Proofs.YtddklkgcodjijaaGreat.R
open Go.RowKit Go.Lab Go.Maps Go.Proofs.YtddklkgcodjijaaGreatW.PrintWords Go.Proofs.YtddklkgcodjijaaGreatW.PrintLast Go.Proofs.YtddklkgcodjijaaGreatW.PrintMore PL

theorem Gat.put {K : Kp} {lo : Nat} {w : World} {gv : Nat} {vv vv' : Value} {ys : List Int} (h : w.heap[gv]? = some (.cells #[vv] K.T (0, 0))) (ho : w.ownsRow lo K.E 1 vv' ys.length (K.val ys)) (hne : vv'.ownBlock ≠ some gv) : Gat K lo (w.setCell ⟨gv, 0, none⟩ vv') gv vv' ys :=
  ⟨blk_put (cs := #[vv]) h 0 _ rfl, own_of_heap ho fun k hk => Below.heap_setCell _ _ _ _ (fun e => hne (by rw [hk, e]))⟩
theorem Gat.ne {lo : Nat} {w : World} {gv : Nat} {vv : Value} {pt : List Int} (h : Gat kpI lo w gv vv pt) : vv.ownBlock ≠ some gv := fun e => by
  obtain ⟨c, hc⟩ := own_block h.own e
  exact absurd (blk_type h.blk hc) (by decide)
end Go.Proofs.YtddklkgcodjijaaGreat.R

namespace Go.Proofs.YtddklkgcodjijaaGreat.R
open Go.RowKit Go.Lab Go.Maps Go.Proofs.YtddklkgcodjijaaGreatW.PrintWords Go.Proofs.YtddklkgcodjijaaGreatW.PrintLast Go.Proofs.YtddklkgcodjijaaGreatW.PrintMore PL

set_option maxHeartbeats 2000000 in
set_option maxRecDepth 100000 in
/-- a set that is not there holds nothing -/
theorem has_none (x : Int) (w : World) (hw : (Lit.int .i64 x).wf = true) :
    Calls Tryz.prog 136 #[.map none, .int .i64 x] w fun e w' => e = .returned (.bool false) ∧ Below w.heap.size w w' := by
  have hkey : keyOf Tryz.prog 2 (.int .i64 x) = some (.int .i64 x) := keyOf_int_mk Tryz.underlying2 hw
  have hl : ∀ w : World, (Instr.lookup 154 (.map none) (.int .i64 x) true).run Tryz.prog w = .ok (.tuple #[.agg #[], .bool false]) w := by
    intro w
    kernel_rfl
  go_enter Tryz.func136, Tryz.ntmps136
  go_wp2
  go_ret
  exact ⟨rfl, (Below.refl _ _).alloc (Nat.le_refl _) _⟩
end Go.Proofs.YtddklkgcodjijaaGreat.R

/- Was a node visited; a walk's object made new. -/
namespace Go.Proofs.YtddklkgcodjijaaGreat.R
open Go.RowKit Go.Lab Go.Maps Go.Proofs.YtddklkgcodjijaaGreatW.PrintWords Go.Proofs.YtddklkgcodjijaaGreatW.PrintLast Go.Proofs.YtddklkgcodjijaaGreatW.PrintMore PL

set_option maxHeartbeats 2000000 in
set_option maxRecDepth 100000 in
theorem visited_some (gd gm : Nat) (vis : List Int) (x : Int) (w : World) (h : SetOk w gm vis) (hc : w.cell? ⟨gd, 3, none⟩ = some (.map (some gm))) (hw : (Lit.int .i64 x).wf = true) :
    Calls Tryz.prog 119 #[.pointer (some ⟨gd, 0, none⟩), .iface 272 (.int .i64 x)] w fun e w' => e = .returned (.bool (decide (x ∈ vis))) ∧ Below w.heap.size w w' := by
  have HS := Aside0.mk h
  have m1 := meth_ID x
  clear h
  go_enter Tryz.func119, Tryz.ntmps119
  go_wp2
  go_region_held3 (fun w' => w'.cell? ⟨gd, 3, none⟩ = some (.map (some gm)))
    (first | exact below_cellOf hbel (by assumption) | go_keep)
    (first
      | (go_at_call 239; refine (nodeID_any x _).mono ?_; rintro e w3 ⟨rfl, rfl⟩)
      | (go_at_call 136; refine (has_any gm vis x w.drew (HS.out.stay rfl) hw).mono ?_; rintro e w4 ⟨rfl, hbel⟩))
  go_wp2
  go_ret
  exact ⟨rfl, (Below.refl _ _).drew.trans (hbel.mono (by simp))⟩

set_option maxHeartbeats 2000000 in
set_option maxRecDepth 100000 in
theorem visited_none (gd : Nat) (x : Int) (w : World) (hc : w.cell? ⟨gd, 3, none⟩ = some (.map none)) (hw : (Lit.int .i64 x).wf = true) :
    Calls Tryz.prog 119 #[.pointer (some ⟨gd, 0, none⟩), .iface 272 (.int .i64 x)] w fun e w' => e = .returned (.bool false) ∧ Below w.heap.size w w' := by
  have m1 := meth_ID x
  go_enter Tryz.func119, Tryz.ntmps119
  go_wp2
  go_region_held3 (fun w' => w'.cell? ⟨gd, 3, none⟩ = some (.map none))
    (first | exact below_cellOf hbel (by assumption) | go_keep)
    (first
      | (go_at_call 239; refine (nodeID_any x _).mono ?_; rintro e w3 ⟨rfl, rfl⟩)
      | (go_at_call 136; refine (has_none x w.drew hw).mono ?_; rintro e w4 ⟨rfl, hbel⟩))
  go_wp2
  go_ret
  exact ⟨rfl, (Below.refl _ _).drew.trans (hbel.mono (by simp))⟩
end Go.Proofs.YtddklkgcodjijaaGreat.R

/- Was a node visited; a walk's object made new. -/
namespace Go.Proofs.YtddklkgcodjijaaGreat.R
open Go.RowKit Go.Lab Go.Maps Go.Proofs.YtddklkgcodjijaaGreatW.PrintWords Go.Proofs.YtddklkgcodjijaaGreatW.PrintLast Go.Proofs.YtddklkgcodjijaaGreatW.PrintMore PL


end Go.Proofs.YtddklkgcodjijaaGreat.R

/- What ConnectedComponents does at each node: it is gathered as a node. -/
namespace Go.Proofs.YtddklkgcodjijaaGreat.R
open Go.RowKit Go.Lab Go.Maps Go.Proofs.YtddklkgcodjijaaGreatW.PrintWords Go.Proofs.YtddklkgcodjijaaGreatW.PrintLast Go.Proofs.YtddklkgcodjijaaGreatW.PrintMore PL

end Go.Proofs.YtddklkgcodjijaaGreat.R

/- The parts that were laid down, as rows of their own. -/
namespace Go.Proofs.YtddklkgcodjijaaGreat.R
open Go.RowKit Go.Lab Go.Maps Go.Proofs.YtddklkgcodjijaaGreatW.PrintWords Go.Proofs.YtddklkgcodjijaaGreatW.PrintLast Go.Proofs.YtddklkgcodjijaaGreatW.PrintMore PL

/-- the parts, in a variable: a row of rows (TL: the variable's type) -/
structure Rws (K : Kp) (TL : TypeId) (lo : Nat) (w : World) (gl : Nat) (lv : Value) (rows : List Value) (ps : List (List Int)) : Prop where
  blk : w.heap[gl]? = some (.cells #[lv] TL (0, 0))
  own : w.ownsRow lo K.T 1 lv rows.length rows
  len : rows.length = ps.length
  each : ∀ (i : Nat) (h : i < rows.length), w.ownsRow lo K.E 1 rows[i] (ps.getD i []).length (K.val (ps.getD i []))
theorem Rws.stay {K : Kp} {TL : TypeId} {lo : Nat} {w w1 : World} {gl : Nat} {lv : Value} {rows : List Value} {ps : List (List Int)} (h : Rws K TL lo w gl lv rows ps) (h1 : w1.heap[gl]? = w.heap[gl]?) (h2 : ∀ k, lv.ownBlock = some k → w1.heap[k]? = w.heap[k]?) (h3 : ∀ v ∈ rows, ∀ k, v.ownBlock = some k → w1.heap[k]? = w.heap[k]?) : Rws K TL lo w1 gl lv rows ps :=
  ⟨h1.trans h.blk, own_of_heap h.own h2, h.len, fun i hi => own_of_heap (h.each i hi) (h3 _ (List.getElem_mem hi))⟩
/-- a new row behind the others -/
theorem Rws.snoc {K : Kp} {TL : TypeId} {lo : Nat} {w : World} {gl : Nat} {lv : Value} {rows : List Value} {ps : List (List Int)} {v : Value} {pt : List Int} (h1 : w.heap[gl]? = some (.cells #[lv] TL (0, 0))) (h2 : w.ownsRow lo K.T 1 lv (rows ++ [v]).length (rows ++ [v])) (hl : rows.length = ps.length)
    (h3 : ∀ (i : Nat) (h : i < rows.length), w.ownsRow lo K.E 1 rows[i] (ps.getD i []).length (K.val (ps.getD i []))) (h4 : w.ownsRow lo K.E 1 v pt.length (K.val pt)) : Rws K TL lo w gl lv (rows ++ [v]) (ps ++ [pt]) := by
  refine ⟨h1, h2, by simp [hl], fun i hi => ?_⟩
  rw [List.length_append, List.length_singleton] at hi
  by_cases hlt : i < rows.length
  · have e1 : (rows ++ [v])[i]'(by simp; omega) = rows[i] := List.getElem_append_left hlt
    have e2 : (ps ++ [pt]).getD i [] = ps.getD i [] := by
      rw [List.getD_eq_getElem?_getD, List.getD_eq_getElem?_getD, List.getElem?_append_left (by omega)]
    rw [e1, e2]
    exact h3 i hlt
  · have hi2 : i = rows.length := by omega
    subst hi2
    have e1 : (rows ++ [v])[rows.length]'(by simp) = v := by simp
    have e2 : (ps ++ [pt]).getD rows.length [] = pt := by
      rw [hl, List.getD_eq_getElem?_getD]; simp
    rw [e1, e2]
    exact h4
end Go.Proofs.YtddklkgcodjijaaGreat.R

/- One walk depth first inside a walk through all. -/
namespace Go.Proofs.YtddklkgcodjijaaGreat.R
open Go.RowKit Go.Lab Go.Maps Go.Proofs.YtddklkgcodjijaaGreatW.PrintWords Go.Proofs.YtddklkgcodjijaaGreatW.PrintLast Go.Proofs.YtddklkgcodjijaaGreatW.PrintMore PL


set_option maxHeartbeats 16000000 in
set_option maxRecDepth 100000 in
theorem dfsV_first (K : Kp) (F : Nat → Prop) (w0 wF : World) (gd gv gu base bp : Nat) (dv : Value) (zs : List Int) (es : List S95) (p : Pl) (st vv : Value)  (s0 : Int) (N : Nat) (hN : N ≤ 9000) (r : List Int)
    (h : VEnv K w0 gd gv base bp zs es p) (hU : UntilOk K w0.heap.size gv gu dv) (hFu : F gu) (hdv : wF.cell? ⟨gu, 0, none⟩ = some dv)
    (hs : Stk w0.heap.size wF gd .nilFunc .nilFunc (.map none) st []) (hg : Gat K w0.heap.size wF gv vv []) (gv0 : gv < w0.heap.size) (gd0 : gd < w0.heap.size) (kp : KeepF (WM gd gv w0.heap.size) w0 wF)
    (sep : ∀ k, st.ownBlock = some k → vv.ownBlock ≠ some k) (nF : ∀ k, F k → w0.heap.size ≤ k ∧ k < wF.heap.size ∧ st.ownBlock ≠ some k ∧ vv.ownBlock ≠ some k)
    (hs0 : s0 ∈ zs) (hr : dfsV (outN zs es) ([] : List Int) N [s0] [] = some r) :
    Calls Tryz.prog 120 #[.pointer (some ⟨gd, 0, none⟩), .iface 108 (.agg #[.pointer (some ⟨bp, 0, none⟩)]), .iface 272 (.int .i64 s0), .func (.func 121) #[] #[.pointer (some ⟨gu, 0, none⟩)]] wF fun e w' =>
      e = .returned .nilIface ∧ VEnd K F w0 wF w' gd gv wF.heap.size ([] : List Int) r := by
  have HE := Aside0.mk h
  have HU := Aside0.mk hU
  have hnn := h.gr.hn
  have HDV : Aside0 (∀ w' : World, w'.heap[gu]? = wF.heap[gu]? → w'.cell? ⟨gu, 0, none⟩ = some dv) := ⟨fun w' e => (World.cell?_of_block e).trans hdv⟩
  have HFU := Aside0.mk hFu
  have HS := Aside0.mk (DV.first (F := F) h.ok hs hg gv0 gd0 kp sep nF)
  have e3 : wF.cell? ⟨gd, 3, none⟩ = some (.map none) := (blk_cell hs.blk 3).trans rfl
  have f3 := blk_frozen hs.blk 3
  have hgl := blk_lt hs.blk
  have hne : gd ≠ wF.heap.size := by omega
  have kM := mapNil'
  have kN := run_map78
  have mF := meth_UFrom2 ⟨bp, 0, none⟩
  have kU := vnU gu
  have kV := vnV
  have kT := vnT
  have HR := Aside0.mk hr
  have HS0 := Aside0.mk hs0
  clear h hU hFu hdv hr hs0
  clear hs hg gv0 gd0 kp sep nF
  go_enter Tryz.func120, Tryz.ntmps120
  go_wp2_with (go_at_call 154; refine (spush_any w0.heap.size gd .nilFunc .nilFunc (.map (some wF.heap.size)) st [] s0 _ HS.out.stk (by simp) HS.out.L).mono ?_; rintro e w1 ⟨rfl, st1, wa, hs1, hg1, hg2, hat⟩; have HD := Aside0.mk (HS.out.push hs1 hg1 hg2 hat); clear hs1 hg1 hg2 hat)
  have HI := Aside0.mk (show DvI K F w0 wF w1 gd gv wF.heap.size (outN zs es) zs ([] : List Int) N r N from ⟨st1, _, [s0], [], by simpa using HD.out, HR.out, by simp, by simp, Nat.le_refl _, fun x hx => by simp at hx; subst hx; exact HS0.out⟩)
  clear HD e3 f3
  go_loopg [9] N (fun kq v9 w' => Aside0 (DvI K F w0 wF w' gd gv wF.heap.size (outN zs es) zs ([] : List Int) N r kq))
  case atStart => exact HI
  case round =>
    clear HI HS HR HS0
    obtain ⟨st, vv, stk, pt, hD, hr, hl1, hl2, hkq, hz⟩ := hrel.out
    cases gk with
    | zero => exact absurd hr (by simp [dfsV])
    | succ k1 =>
      have HD := Aside0.mk hD
      rcases nil_or_snoc stk with rfl | ⟨s, u, rfl⟩
      · rw [dfsV_nil] at hr
        obtain rfl := Option.some.inj hr
        clear hrel hr hl1 hl2 hkq hz hD
        go_wp2_with (go_at_call 155; refine (slen_any _ gd _ _ _ _ [] _ HD.out.stk).mono ?_; rintro e w2 ⟨rfl, rfl⟩)
        go_ret
        exact ⟨rfl, _, _, HD.out⟩
      · rw [dfsV_snoc] at hr
        have hlen : (s ++ [u]).length = s.length + 1 := by simp
        rw [hlen] at hl1
        have HN := Aside0.mk hlen
        have HW := Aside0.mk (HE.out.wf u (hz u (by simp)))
        have HUZ := Aside0.mk (hz u (by simp))
        have HZ := Aside0.mk (show ∀ x ∈ s, x ∈ zs from fun x hx => hz x (by simp [hx]))
        have m1 := meth_ID u
        have HL := Aside0.mk (And.intro hl1 (And.intro hl2 hkq))
        have hsb : s.length ≤ 10000000 := by omega
        have hvb : (([] : List Int) ++ pt).length ≤ 10000000 := by rw [List.length_append]; (try simp only [List.length_nil]); omega
        have hq2 := (blk_cell hD.stk.blk 2).trans (rfl : _ = some st)
        clear hlen hz hl1 hl2 hkq hrel hD
        by_cases hm : u ∈ ([] : List Int) ++ pt
        · rw [if_pos hm] at hr
          have HR := Aside0.mk hr
          have hd : decide (u ∈ ([] : List Int) ++ pt) = true := decide_eq_true hm
          clear hr hm
          go_wp2_with (first
            | (go_at_call 155; refine (slen_any _ gd _ _ _ _ (s ++ [u]) _ HD.out.stk).mono ?_; rintro e w2 ⟨rfl, rfl⟩; rw [HN.out])
            | (go_at_call 156; refine (spop_any _ gd _ _ _ _ s u _ HD.out.stk hsb).mono ?_; rintro e w2 ⟨rfl, st2, hs2, hb2, hg2⟩; have HD2 := Aside0.mk (HD.out.pop hs2 hb2 hg2); obtain ⟨q0, q1, q3⟩ := HD2.out.cells; clear hs2 hb2 hg2)
            | (go_at_call 239; refine (nodeID_any u _).mono ?_; rintro e w3 ⟨rfl, rfl⟩)
            | (go_at_call 136; refine (has_any _ (([] : List Int) ++ pt) u _ HD2.out.set HW.out).mono ?_; rintro e w3 ⟨rfl, hb3⟩; have HD3 := Aside0.mk (HD2.out.below hb3); clear hb3; rw [hd]))
          go_roundg k1
          case measure => omega
          case rel => exact ⟨st2, vv, s, pt, HD3.out, HR.out, by have := HL.out; omega, by have := HL.out; omega, by have := HL.out; omega, HZ.out⟩
        · rw [if_neg hm] at hr
          have hd : decide (u ∈ ([] : List Int) ++ pt) = false := decide_eq_false hm
          have HR := Aside0.mk hr
          have hpb : pt.length ≤ 10000000 := by have := HL.out; omega
          clear hr hm
          go_wp2_with (first
            | (go_at_call 155; refine (slen_any _ gd _ _ _ _ (s ++ [u]) _ HD.out.stk).mono ?_; rintro e w2 ⟨rfl, rfl⟩; rw [HN.out])
            | (go_at_call 156; refine (spop_any _ gd _ _ _ _ s u _ HD.out.stk hsb).mono ?_; rintro e w2 ⟨rfl, st2, hs2, hb2, hg2⟩; have HD2 := Aside0.mk (HD.out.pop hs2 hb2 hg2); obtain ⟨q0, q1, q3⟩ := HD2.out.cells; clear hs2 hb2 hg2)
            | (go_at_call 239; refine (nodeID_any u _).mono ?_; rintro e w3 ⟨rfl, rfl⟩)
            | (go_at_call 136; refine (has_any _ (([] : List Int) ++ pt) u _ HD2.out.set HW.out).mono ?_; rintro e w3 ⟨rfl, hb3⟩; have HD3 := Aside0.mk (HD2.out.below hb3); obtain ⟨q0, q1, q3⟩ := HD3.out.cells; clear hb3; rw [hd])
            | (go_at_call 135; refine (add_any _ (([] : List Int) ++ pt) u _ HD3.out.set HW.out hvb).mono ?_; rintro e w4 ⟨rfl, hs4, hg4⟩; have HA := Aside0.mk (And.intro hs4 hg4); have q0 := (World.cell?_of_block (hg4.block gd (blk_lt HD3.out.stk.blk) (fun e => HD3.out.gdm.1 (Option.some.inj e)))).trans q0; clear hs4 hg4)
            | (go_at_call 121; refine (HU.out w4 vv pt u (HD3.out.gat.stay (HA.out.2.block _ (blk_lt HD3.out.gat.blk) (fun e => HD3.out.gdm.2.1 (Option.some.inj e))) (fun k hk => HA.out.2.block k (HD3.out.vvLt hk) (fun e => (HD3.out.apartV hk).2.2.1 (Option.some.inj e)))) hpb (Nat.le_trans HD3.out.L HA.out.2.size) (HDV.out w4 ((HA.out.2.block gu (HD3.out.nF gu HFU.out).2.1 (fun e => (HD3.out.nF gu HFU.out).2.2.2.2.1 (Option.some.inj e))).trans (HD3.out.nF gu HFU.out).2.2.2.2.2))).mono ?_; rintro e w6 ⟨rfl, vv5, wb, hv5, hg5, hg5', hat5⟩; have HD6 := Aside0.mk (HD3.out.visit HA.out.1 HA.out.2 hv5 hg5 hg5' hat5); clear hv5 hg5 hg5' hat5)
            | (go_at_call 222; refine (gFromU base bp zs es p u _ (HE.out.to HD6.out.kp) HUZ.out).mono ?_; rintro e w7 ⟨b, rfl, hit, hb7⟩; have HD7 := Aside0.mk (HD6.out.below hb7); have HIT := Aside0.mk hit; have HB7 := Aside0.mk hb7; clear hit hb7))
          obtain ⟨nb, hnb⟩ : ∃ nb, outN zs es u = nb := ⟨_, rfl⟩
          rw [hnb] at HIT
          have HNB := Aside0.mk hnb
          have hnl : nb.length ≤ 1000 := by rw [← hnb]; exact Nat.le_trans (outN_len zs es u) hnn
          clear hnb
          have HLO := Aside0.mk (show w0.heap.size ≤ w6.heap.size ∧ wF.heap.size < w6.heap.size ∧ (∀ k, vv5.ownBlock = some k → k < w6.heap.size) ∧ (∀ k, F k → k < w6.heap.size) from ⟨HD6.out.L, HD6.out.set.lt, fun k hk => HD6.out.vvLt hk, fun k hk => (HD6.out.nF k hk).2.1⟩)
          have HI2 := Aside0.mk (show VnI K F w0 wF w7 gd gv wF.heap.size vv5 w6.heap.size w7.heap.size b nb s (([] : List Int) ++ pt ++ [u]) (pt ++ [u]) from ⟨0, st2, Nat.zero_le _, HIT.out, by simpa using HD7.out, fun q hq => .inl (HD6.out.stLt hq), Nat.le_refl _⟩)
          have n1 := meth_ONext ⟨b, 0, none⟩
          have n2 := meth_ONode ⟨b, 0, none⟩
          clear HD HD2 HD3 HA HD7 HIT HB7 HD6
          generalize w6.heap.size = lo at HI2 HLO
          generalize w7.heap.size = B at HI2
          go_loopw [12] (fun _ wr => Aside0 (VnI K F w0 wF wr gd gv wF.heap.size vv5 lo B b nb s (([] : List Int) ++ pt ++ [u]) (pt ++ [u]))) (fun _ wr => nb.length + 2 - posI wr b)
          case atStart => exact HI2
          case round =>
            clear HI2
            obtain ⟨k, st3, hk, hO, hD, hst, hB⟩ := hrel.out
            have HO := Aside0.mk hO
            have HD8 := Aside0.mk hD
            have HST := Aside0.mk hst
            have HB := Aside0.mk hB
            have hpos := hO.pos
            have HPOS := Aside0.mk hpos
            have hkk := hk
            clear hrel hO hD hst hB hk hpos
            by_cases hlt : k < nb.length
            · have hdk : decide (k < nb.length) = true := decide_eq_true hlt
              obtain ⟨v, hv⟩ : ∃ v, nb[k] = v := ⟨_, rfl⟩
              have HV := Aside0.mk hv
              have m2 := meth_ID v
              have htk : nb.take (k + 1) = nb.take k ++ [v] := by rw [← hv]; exact List.take_succ_eq_append_getElem hlt
              have HTK := Aside0.mk htk
              have hfl : (nb.take k).length ≤ 1000 := by rw [List.length_take]; omega
              have HFL := Aside0.mk hfl
              clear hv htk hfl
              go_wp2_with (first
                | (go_at_call 245; refine (next_any lo B b k nb _ HO.out (by omega)).mono ?_; rintro e wn ⟨rfl, hO1, hM1⟩; rw [hdk]; rw [if_pos hlt] at hO1; have HO1 := Aside0.mk hO1; have HD9 := Aside0.mk (HD8.out.mid hM1 HLO.out.1 HLO.out.2.1 HST.out HLO.out.2.2.1 HLO.out.2.2.2); have HS9 := Aside0.mk hM1.size; clear hO1 hM1)
                | (go_at_call 246; refine (nodeI_q lo B b k nb _ HO1.out hlt (by omega)).mono ?_; rintro e wq ⟨rfl, nq, hwq⟩; rw [HV.out]; have HO2 := Aside0.mk (show OIt lo B wq b nb (k + 1) by subst hwq; exact HO1.out.far (fun _ _ _ => rfl)); have HS10 := Aside0.mk (show wn.heap.size ≤ wq.heap.size by subst hwq; exact Nat.le_refl _); have HD10 := Aside0.mk (HD9.out.below (show Below wn.heap.size wn wq by subst hwq; exact pw_below_drewN (Below.refl _ _) nq)); clear hwq)
                | (go_at_call 239; refine (nodeID_any v _).mono ?_; rintro e wi ⟨rfl, rfl⟩))
              obtain ⟨q0, q1, q3⟩ := HD10.out.cells
              go_quiet (fail)
              have HBQ := Aside0.mk (show Below wq.heap.size wq (wq.drewN nq) from pw_below_drewN (Below.refl _ _) nq)
              have HD11 := Aside0.mk (HD10.out.below HBQ.out)
              have HO3 := Aside0.mk (HO2.out.far (fun q hq1 hq2 => HBQ.out.block q (by have := HB.out; have := HS9.out; have := HS10.out; omega)))
              have HS11 := Aside0.mk (Nat.le_trans HB.out (Nat.le_trans HS9.out HS10.out))
              go_wp2_with (go_at_call 154; refine (spush_any w0.heap.size gd .nilFunc .nilFunc (.map (some wF.heap.size)) st3 _ v _ HD11.out.stk (by have := HFL.out; have := HL.out; rw [List.length_append]; omega) HD11.out.L).mono ?_; rintro e w10 ⟨rfl, st4, wc, hs4, hg4, hg5, hat⟩; have HD12 := Aside0.mk (HD11.out.push hs4 hg4 hg5 hat); have HG := Aside0.mk (And.intro hg4 (And.intro hg5 hat)); clear hs4 hg4 hg5 hat)
              go_roundw
              case rel =>
                have hOn : OIt lo B w10 b nb (k + 1) := HO3.out.far (fun q hq1 hq2 => two_turns HG.out.1 HG.out.2.1 (by have := HS11.out; simp at *; omega) (fun e => by have := HST.out q e; omega) (by have := HD11.out.gd0; have := HLO.out.1; omega))
                have hsz : wq.heap.size ≤ w10.heap.size := Nat.le_trans HG.out.1.size HG.out.2.1.size
                refine ⟨⟨k + 1, st4, by omega, hOn, ?_, fun q hq => ?_, Nat.le_trans HS11.out hsz⟩⟩
                · have := HD12.out
                  rw [List.append_assoc] at this
                  rw [HTK.out]
                  exact this
                · rcases HG.out.2.2 with h1 | ⟨q', h1, h2⟩
                  · rw [h1] at hq; exact HST.out q hq
                  · rw [h1] at hq
                    have := Option.some.inj hq
                    have := HS11.out
                    simp at h2
                    omega
              case measure =>
                have hOn : OIt lo B w10 b nb (k + 1) := HO3.out.far (fun q hq1 hq2 => two_turns HG.out.1 HG.out.2.1 (by have := HS11.out; simp at *; omega) (fun e => by have := HST.out q e; omega) (by have := HD11.out.gd0; have := HLO.out.1; omega))
                rw [hOn.pos, HPOS.out]; omega
            · have hke : k = nb.length := by omega
              have hdk : decide (k < nb.length) = false := decide_eq_false hlt
              go_wp2_with (go_at_call 245; refine (next_any lo B b k nb _ HO.out (by omega)).mono ?_; rintro e wn ⟨rfl, hO1, hM1⟩; rw [hdk]; have HD9 := Aside0.mk (HD8.out.mid hM1 HLO.out.1 HLO.out.2.1 HST.out HLO.out.2.2.1 HLO.out.2.2.2); clear hO1 hM1)
              go_roundg k1
              case measure => omega
              case rel =>
                have hD9 := HD9.out
                rw [hke, List.take_length, ← HNB.out, List.append_assoc] at hD9
                have hal : (outN zs es u).length ≤ 1000 := by rw [HNB.out]; exact hnl
                refine ⟨⟨st3, vv5, _, _, hD9, HR.out, ?_, ?_, ?_, fun x hx => ?_⟩⟩
                · rw [List.length_append]; have := HL.out; omega
                · rw [List.length_append, List.length_singleton]; have := HL.out; omega
                · have := HL.out; omega
                · rcases List.mem_append.1 hx with hx | hx
                  · exact HZ.out x hx
                  · exact (outN_mem hx).1
end Go.Proofs.YtddklkgcodjijaaGreat.R
