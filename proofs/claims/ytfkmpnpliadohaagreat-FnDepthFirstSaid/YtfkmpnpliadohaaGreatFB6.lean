import Derived.Test.YtfkmpnpliadohaaGreatFB4
import Derived.Deep.RegionHeld3
import Derived.Laws.MakeOwn
import Derived.Laws.Cover2
import Derived.BigRegion
import Derived.Deep.Cut
import Derived.OwnWalk
import Derived.Test.YtfkmpnpliadohaaGreatFB5
import Derived.Test.YtfkmpnpliadohaaGreatFT0
set_option linter.unusedVariables false
set_option linter.unusedSimpArgs false
/- impl.read once more: also what is read of a bad graph can be searched. -/
namespace Go.Proofs.YtfkmpnpliadohaaGreat.R
open Go.RowKit Go.Lab Go.Proofs.YtfkmpnpliadohaaGreatW.PrintWords Go.Proofs.YtfkmpnpliadohaaGreatW.PrintLast Go.Proofs.YtfkmpnpliadohaaGreatW.PrintMore Go.Proofs.YtfkmpnpliadohaaGreat.PL

/-- the row of nodes is there, whatever is in it -/
def IdsAt (w : World) (base bp : Nat) : Prop := ∃ vi ids, w.cell? ⟨bp, 0, none⟩ = some vi ∧ w.ownsRow base 2 1 vi ids.length (nums .i64 ids) ∧ ids.length ≤ 1000
theorem ids_of_pl {w : World} {base bp : Nat} {p : Pl} (h : PlOk w base bp p) (hn : p.ids.length ≤ 1000) : IdsAt w base bp := by
  obtain ⟨ro, ri, vi, vo, vn, hp⟩ := h
  exact ⟨vi, p.ids, by rw [blk_cell hp.blk]; rfl, hp.ids, hn⟩
theorem ids_of_rd {w W : World} {d : Bool} {v1 v2 vi : Value} {ids : List Int} (h : Rd1 w W d v1 v2 ids vi) (hn : ids.length ≤ 1000) : IdsAt W w.heap.size (w.heap.size + 1) :=
  ⟨vi, ids, by rw [blk_cell h.p]; rfl, h.own, hn⟩

/-- a number and a truth value -/
def TwoV (e : Ending) : Prop := ∃ (i : Int) (b : Bool), e = .returned (.tuple #[.int .i64 i, .bool b])
set_option maxHeartbeats 1000000 in
set_option maxRecDepth 100000 in
theorem bsearch_weak (A : Option Addr) (c : Nat) (ids : List Int) (t : Int) (w : World) (h : Kd.C (Kd.int .i64) w A ids.length ids) (hb : ids.length ≤ 1000) :
    Calls Tryz.prog 144 #[.slice A ids.length c, .int .i64 t] w fun e w' => TwoV e ∧ w = w' := by
  have HC := Aside0.mk h
  clear h
  go_enter Tryz.func144, Tryz.ntmps144
  go_wp2
  go_loop [7, 8] (fun i j => ∃ a b : Nat, i = .int .i64 a ∧ j = .int .i64 b ∧ b ≤ ids.length) (fun i j => (intOf j - intOf i).toNat)
  case atStart => exact ⟨0, ids.length, rfl, rfl, Nat.le_refl _⟩
  case round =>
    obtain ⟨a, b, rfl, rfl, h3⟩ := hrel
    by_cases hab : a < b
    · obtain ⟨h, hh⟩ : ∃ h : Nat, ((a : Int) + (b : Int)) / 2 = (h : Int) := ⟨(a + b) / 2, by omega⟩
      have hh1 : a ≤ h := by omega
      have hh2 : h < b := by omega
      have hlt : h < ids.length := by omega
      obtain ⟨ad, rfl, hc⟩ := C_int_at HC.out h hlt
      generalize ids.getD h 0 = x at hc
      by_cases hx : x < t
      · have hx' : decide (x < t) = true := by simpa using hx
        go_wp2_with (go_at_call 161; refine (less_any _ _ _).mono ?_; rintro e w' ⟨rfl, rfl⟩)
        go_round
        case rel => exact ⟨h + 1, b, by go_num, rfl, h3⟩
        case measure => simp [intOf]; omega
      · have hx' : decide (x < t) = false := by simpa using hx
        go_wp2_with (go_at_call 161; refine (less_any _ _ _).mono ?_; rintro e w' ⟨rfl, rfl⟩)
        go_round
        case rel => exact ⟨a, h, rfl, rfl, by omega⟩
        case measure => simp [intOf]; omega
    · by_cases hlt : a < ids.length
      · obtain ⟨ad, rfl, hc⟩ := C_int_at HC.out a hlt
        generalize ids.getD a 0 = x at hc
        by_cases hx : x = t
        · have hx' : (x == t) = true := by simpa using hx
          go_wp2_with (go_at_call 162; refine (slNaN_any _ _).mono ?_; rintro e w' ⟨rfl, rfl⟩)
          go_ret2
          exact ⟨⟨_, _, rfl⟩, rfl⟩
        · have hx' : (x == t) = false := by simpa using hx
          go_wp2_with (go_at_call 162; refine (slNaN_any _ _).mono ?_; rintro e w' ⟨rfl, rfl⟩)
          go_ret2
          exact ⟨⟨_, _, rfl⟩, rfl⟩
      · go_wp2
        go_ret2
        exact ⟨⟨_, _, rfl⟩, rfl⟩
set_option maxHeartbeats 400000 in
theorem index_weak (base bp : Nat) (t : Int) (w : World) (h : IdsAt w base bp) :
    Calls Tryz.prog 109 #[.pointer (some ⟨bp, 0, none⟩), .int .i64 t] w fun e w' => TwoV e ∧ w = w' := by
  obtain ⟨vi, ids, hc, h, hb⟩ := h
  obtain ⟨A, c, rfl, hr⟩ := own_reads h
  have HR := Aside0.mk hr
  clear h hr
  go_enter Tryz.func109, Tryz.ntmps109
  go_wp2_with (go_at_call 144; refine (bsearch_weak A c ids t _ (Kd.C_of_reads HR.out) hb).mono ?_; rintro e w' ⟨⟨i, b, rfl⟩, rfl⟩)
  go_ret2
  exact ⟨⟨_, _, rfl⟩, rfl⟩

set_option maxHeartbeats 4000000 in
set_option maxRecDepth 100000 in
theorem read_any2 (d : Bool) (A1 A2 : Option Addr) (c1 c2 : Nat) (zs : List Int) (es : List S38) (w : World)
    (hN : Kd.C (Kd.int .i64) w A1 zs.length zs) (hE : Kd.C k38 w A2 es.length es) (hn : zs.length ≤ 1000) (he : es.length ≤ 1000000) :
    Calls Tryz.prog 103 #[.agg #[.bool d, .slice A1 zs.length c1, .slice A2 es.length c2]] w fun e w' => e = .returned (.tuple #[.pointer (some ⟨w.heap.size + 1, 0, none⟩), .bool (readOk zs es)]) ∧ Below w.heap.size w w' ∧ IdsAt w' w.heap.size (w.heap.size + 1) ∧ (readOk zs es = true → PlOk w' w.heap.size (w.heap.size + 1) (plOf d zs es)) := by
  have HN := Aside0.mk hN
  have HE := Aside0.mk hE
  obtain ⟨i0, hi, hz0, hz1, hz2⟩ := info_parts Tryz.info2
  have HI := Aside0.mk (And.intro hi (And.intro hz0 (And.intro hz1 hz2)))
  clear hN hE hi hz0 hz1 hz2
  go_enter Tryz.func103, Tryz.ntmps103
  go_wp2
  go_loopw [18] (fun i wr => ∃ k : Nat, k ≤ zs.length ∧ i = .int .i64 k ∧ Aside0 (Rd1Ok w wr d (.slice A1 zs.length c1) (.slice A2 es.length c2) (zs.take k))) (fun i _ => zs.length - (intOf i).toNat)
  case atStart =>
    refine ⟨0, Nat.zero_le _, rfl, ⟨.slice none 0 0, ?_, ?_, World.ownsRow_nil _ _ _ _, ?_⟩⟩
    · rw [Below.heap_alloc _ _ _ (by simp)]; exact heap_alloc_new _ _
    · have := heap_alloc_new (w.alloc (Obj.cells #[Value.bool d, Value.slice A1 zs.length c1, Value.slice A2 es.length c2] 25)) (Obj.cells #[Value.slice none 0 0, Value.slice none 0 0, Value.slice none 0 0] 227)
      simpa using this
    · exact ((Below.refl _ w).alloc (Nat.le_refl _) _).alloc (by simp) _
  case round =>
    obtain ⟨k, hk, rfl, hR⟩ := hrel
    obtain ⟨vi, hR⟩ := hR.out
    have hp0 : wr.cell? ⟨w.heap.size + 1, 0, none⟩ = some vi := by rw [blk_cell hR.p]; rfl
    obtain ⟨V, c, hvi⟩ := own_slice hR.own
    have hl : (zs.take k).length = k := by rw [List.length_take]; omega
    have HR := Aside0.mk hR
    have HL := Aside0.mk hl
    by_cases hlt : k < zs.length
    · obtain ⟨ad, rfl, hc⟩ := C_int_at (Kd.C_below HN.out ⟨hR.bel.os, hR.bel.tape, hR.bel.output, hR.bel.size, hR.bel.block⟩) k hlt
      have hbz := hR.bel.size
      have hzz := blk_lt hR.p
      have hts : zs.take (k + 1) = zs.take k ++ [zs.getD k 0] := by
        rw [List.take_succ_eq_append_getElem hlt]; simp [List.getD_eq_getElem?_getD, hlt]
      have HTS := Aside0.mk hts
      clear hts hl hR hvi
      generalize zs.getD k 0 = x at hc HTS
      go_wp2_with (at_builtin; refine wpList_append_own _ rfl _ _ 224 rfl w.heap.size 2 i0 (.int .i64 0) 1 8 Tryz.underlying224 HI.out.1 HI.out.2.1 HI.out.2.2.1 HI.out.2.2.2 rfl (by decide) _ k (nums .i64 (zs.take k)) rfl (World.ownsRow.alloc (by have := HR.out.own; rwa [HL.out] at this) _) ⟨wr.heap.size, 0, none⟩ 1 1 [.int .i64 x] rfl rfl (cell_one_new _ _ _) ?q2 ?q3 ?q4 ?q5 ?_)
      case q2 => intro u hu; simp at hu; subst hu; rfl
      case q3 => unfold maxLen; omega
      case q4 => omega
      case q5 => simp; omega
      intro v' w1 hown hgr _
      obtain ⟨V', c', hv'⟩ := own_slice hown
      subst hv'
      have hstep := HR.out.step (by rw [HL.out]; exact hown) ((World.grownBy_alloc _ _ _).trans hgr)
      have HSTEP := Aside0.mk hstep
      have hq := ((World.grownBy_alloc wr _ _).trans hgr).block (w.heap.size + 1) hzz (fun hc => by
        obtain ⟨c', hc'⟩ := own_block HR.out.own hc.symm
        exact absurd (blk_type HR.out.p hc') (by decide))
      have hp1 : w1.cell? ⟨w.heap.size + 1, 0, none⟩ = some vi := by rw [World.cell?_of_block (a := ⟨w.heap.size + 1, 0, none⟩) hq]; exact hp0
      have hp2 : w1.frozen? ⟨w.heap.size + 1, 0, none⟩ = false := by rw [World.frozen?_of_block (a := ⟨w.heap.size + 1, 0, none⟩) hq]; exact blk_frozen HR.out.p _
      clear hown hgr hstep hq hp0
      go_wp2
      go_roundw
      case rel => exact ⟨k + 1, by omega, by go_num, ⟨_, by rw [HTS.out]; exact HSTEP.out⟩⟩
      case measure => simp [intOf]; omega
    · have hk' : k = zs.length := by omega
      have hz : zs.take k = zs := by rw [hk', List.take_length]
      rw [hz] at hR HR hvi
      subst hvi
      have hbz := hR.bel.size
      have hzz := blk_lt hR.p
      clear hz hl hR HL
      go_wp2_with (go_at_call 139; refine (sort_own w.heap.size _ zs _ HR.out.own (by omega)).mono ?_; rintro e w1 ⟨rfl, hown, hgr⟩; have HR1 := Aside0.mk (HR.out.sorted (srt_length zs) hown hgr); clear hown hgr)
      have hp1 : w1.cell? ⟨w.heap.size + 1, 0, none⟩ = some (.slice V zs.length c) := by rw [blk_cell HR1.out.p]; rfl
      have hz1 := blk_lt HR1.out.p
      have hle := srt_le zs
      have HLE := Aside0.mk hle
      have HSL := Aside0.mk (srt_length zs)
      clear hle
      go_region_held3 (fun w' => w'.cell? ⟨w.heap.size + 1, 0, none⟩ = some (.slice V zs.length c))
        (first
          | (rw [hbc.cell (p := ⟨w.heap.size + 1, 0, none⟩) hz1]; assumption)
          | (rw [hgc.cell_far ⟨w.heap.size + 1, 0, none⟩ hz2 hnec]; assumption)
          | go_keep)
        (first
          | (go_at_call 141; refine (clone64_own w.heap.size _ (srt zs) _ (by have := HR1.out.own; rw [HSL.out] at this ⊢; exact this) (by rw [HSL.out]; omega)).mono ?_; rintro e w2 ⟨v2, rfl, hown2, hbc⟩; have hz2 := Nat.lt_of_lt_of_le hz1 hbc.size; have hnec : some (w.heap.size + 1) ≠ v2.ownBlock := (fun e => by have h1 := own_base hown2 _ e.symm; have h2 : w1.heap.size ≤ w.heap.size + 1 := h1; omega))
          | (go_at_call 140; refine (compact_own _ v2 (srt zs) _ hown2 HLE.out (by rw [HSL.out]; omega)).mono ?_; rintro e w3 ⟨A3, m3, c3, rfl, hm3, hm4, hgc⟩))
      have hbb : Below w1.heap.size w1 w3 := by
        have h1 : Below w1.heap.size w1 w2 := ⟨hbc.os, hbc.tape, hbc.output, hbc.size, hbc.block⟩
        exact h1.grown hgc h1.size (fun k hk => own_base hown2 k hk)
      have HR3 := Aside0.mk (HR1.out.below hbb)
      rw [srt_length] at hm3 hm4
      have HM := Aside0.mk hm4
      clear hm4 hbb hbc hgc hown2 hz2 hnec
      by_cases hnd : (srt zs).Pairwise (· < ·)
      · have hm3' : m3 = zs.length := HM.out.2 hnd
        have hmm : ((m3 : Int) != (zs.length : Int)) = false := by simp [hm3']
        have HND := Aside0.mk hnd
        clear hm3' hnd
        go_upto_region 10 with fail
        go_cut [] from 33 (fun w' => Aside0 (PlOk w' w.heap.size (w.heap.size + 1) (pl0 (srt zs)) ∧ w'.heap[w.heap.size]? = some (.cells #[.bool d, .slice A1 zs.length c1, .slice A2 es.length c2] 25 (0, 0)) ∧ Below w.heap.size w w'))
        case first =>
          have hq0 : w3.cell? ⟨w.heap.size + 1, 0, none⟩ = some (.slice V zs.length c) := by rw [blk_cell HR3.out.p]; rfl
          have hq1 : w3.cell? ⟨w.heap.size + 1, 1, none⟩ = some (.slice none 0 0) := by rw [blk_cell HR3.out.p]; rfl
          have hq2 : w3.cell? ⟨w.heap.size + 1, 2, none⟩ = some (.slice none 0 0) := by rw [blk_cell HR3.out.p]; rfl
          have hf1 := blk_frozen HR3.out.p 1
          have hf2 := blk_frozen HR3.out.p 2
          have hz3 := blk_lt HR3.out.p
          have hz4 : w.heap.size < w3.heap.size := by omega
          obtain ⟨NC, hNC⟩ : ∃ NC, NC = madeCells #[Value.slice none 0 0] zs.length := ⟨_, rfl⟩
          have hmk : ∀ W : World, (Instr.makeSlice 225 (.int .i64 (zs.length : Int)) (.int .i64 (zs.length : Int))).run Tryz.prog W = .ok (.slice (some ⟨W.heap.size, 0, none⟩) zs.length zs.length) (W.alloc (.cells NC 253)) := fun W => by
            rw [hNC]; exact run_make_row' 225 253 _ 24 Tryz.underlying225 Tryz.info253 rfl .i64 .i64 zs.length (by omega) (by omega) W
          have HNC := Aside0.mk hNC
          clear hNC
          go_region
          all_goals
            go_wp2
            go_meet
            case rel => first | exact ⟨two_tables HR3.out (by rw [srt_length]; exact hn) _ (srt_length zs).symm NC HNC.out _ _ (.inl ⟨rfl, rfl⟩)⟩ | exact ⟨two_tables HR3.out (by rw [srt_length]; exact hn) _ (srt_length zs).symm NC HNC.out _ _ (.inr ⟨rfl, rfl⟩)⟩
        case rest =>
          obtain ⟨hq1, hq2, hq3⟩ := hcut
          have hg1 : wc.cell? ⟨w.heap.size, 2, none⟩ = some (.slice A2 es.length c2) := by rw [blk_cell hq2]; rfl
          have HQ := Aside0.mk (show Rd2 w wc d (.slice A1 zs.length c1) (.slice A2 es.length c2) zs (es.take 0) from ⟨rfl, hq1, hq2, hq3⟩)
          clear hq1 hq2 hq3
          go_wp2
          go_loopw [73] (fun i wr => ∃ k : Nat, k ≤ es.length ∧ i = .int .i64 k ∧ Aside0 (Rd2 w wr d (.slice A1 zs.length c1) (.slice A2 es.length c2) zs (es.take k))) (fun i _ => es.length - (intOf i).toNat)
          case atStart => exact ⟨0, Nat.zero_le _, rfl, HQ⟩
          case round =>
            clear HQ hg1
            obtain ⟨k, hk, rfl, hQ⟩ := hrel
            by_cases hlt : k < es.length
            · obtain ⟨ad, rfl, hc0, hc1, hc2⟩ := at_T38 (Kd.C_below HE.out ⟨hQ.out.bel.os, hQ.out.bel.tape, hQ.out.bel.output, hQ.out.bel.size, hQ.out.bel.block⟩) (k : Int) (by omega) (by omega)
              rw [Int.toNat_natCast] at hc0 hc1 hc2
              have hrd : rd_T38 es (k : Int) = es[k] := by unfold rd_T38; simp [List.getD_eq_getElem?_getD, hlt]
              have hts : es.take (k + 1) = es.take k ++ [rd_T38 es (k : Int)] := by rw [hrd]; exact List.take_succ_eq_append_getElem hlt
              have hal : es.all (goodE zs) = true → goodE zs (rd_T38 es (k : Int)) = true := fun h => by rw [hrd]; exact (List.all_eq_true.1 h) _ (List.getElem_mem _)
              have HTS := Aside0.mk hts
              have HAL := Aside0.mk hal
              clear hrd hts hal
              generalize rd_T38 es (k : Int) = e at hc0 hc1 hc2 HTS HAL
              have hw8 : Below wr.heap.size wr (wr.alloc (.cells #[.int .i64 e.f0, .int .i64 e.f1, .int .i64 e.f2] 38)) := (Below.refl _ _).alloc (Nat.le_refl _) _
              have HP8 := Aside0.mk (hQ.out.ok.below hw8)
              have HID := Aside0.mk (plOf_ids d zs (es.take k))
              have HSO := Aside0.mk (show (plOf d zs (es.take k)).ids.Pairwise (· < ·) by rw [HID.out]; exact HND.out)
              have HLE2 := Aside0.mk (show (plOf d zs (es.take k)).ids.length ≤ 1000 by rw [HID.out, srt_length]; exact hn)
              clear hw8
              have hgd : wr.cell? ⟨w.heap.size, 0, none⟩ = some (.bool d) := by rw [blk_cell hQ.out.g]; rfl
              have hbz := blk_lt hQ.out.g
              rcases edge_ways HND.out e with ⟨hgo, m0, m1, m2, m3, m4⟩ | ⟨hbad, hways⟩
              · have HGO := Aside0.mk hgo
                clear hgo
                have hr := goodE_rank HND.out HGO.out
                have HRK := Aside0.mk hr
                clear hr
                have hpg := plOf_good d zs hn HND.out (es.take k) hQ.out.all
                have HPG := Aside0.mk hpg
                clear hpg
                go_wp2_with (first | (go_at_call 109; refine (pl_index w.heap.size (w.heap.size + 1) (plOf d zs (es.take k)) _ _ HP8.out HSO.out HLE2.out).mono ?_; rintro e' w' ⟨rfl, rfl⟩; rw [HID.out]) | (go_at_call 142; refine (lay_any w.heap.size (w.heap.size + 1) (plOf d zs (es.take k)) (rank (srt zs) e.f0) (rank (srt zs) e.f1) _ d _ HP8.out HPG.out (by rw [HID.out]; exact HRK.out.1) (by rw [HID.out]; exact HRK.out.2) (by simp; omega)).mono ?_; rintro e' w4 ⟨rfl, hok4, hbl4, hkt4⟩))
                go_roundw
                case rel =>
                  refine ⟨k + 1, by omega, by go_num, ⟨?_, ?_, ?_, ?_⟩⟩
                  · rw [HTS.out, List.all_append, hQ.out.all]; simp [HGO.out]
                  · rw [HTS.out, plOf_snoc]; unfold layE; rw [HID.out]; exact hok4
                  · exact (hkt4 _ _ _ ((Below.heap_alloc _ _ _ hbz).trans hQ.out.g) (by decide) (by decide)).trans ((Below.heap_alloc _ _ _ hbz).trans hQ.out.g)
                  · exact (hQ.out.bel.alloc hQ.out.bel.size _).trans hbl4
                case measure => simp [intOf]; omega
              · have HBAD := Aside0.mk hbad
                clear hbad
                rcases hways with m0 | ⟨m0, m1⟩ | ⟨m0, m1, m2⟩ | ⟨m0, m1, m2, m3⟩ | ⟨m0, m1, m2, m3, m4⟩
                all_goals
                  have hro : readOk zs es = false := by
                    cases h : readOk zs es with
                    | false => rfl
                    | true =>
                      unfold readOk at h
                      rw [Bool.and_eq_true] at h
                      have := HAL.out h.2
                      rw [HBAD.out] at this; cases this
                  have HRO := Aside0.mk hro
                  clear hro
                  go_wp2_with (go_at_call 109; refine (pl_index w.heap.size (w.heap.size + 1) (plOf d zs (es.take k)) _ _ HP8.out HSO.out HLE2.out).mono ?_; rintro e' w' ⟨rfl, rfl⟩; rw [HID.out])
                  go_ret2
                  exact ⟨by rw [HRO.out]; rfl, hQ.out.bel.alloc hQ.out.bel.size _, ids_of_pl HP8.out HLE2.out, fun h => by rw [HRO.out] at h; cases h⟩
            · have hk' : k = es.length := by omega
              have hts : es.take k = es := by rw [hk', List.take_length]
              have h1 := hQ.out
              rw [hts] at h1
              have hro : readOk zs es = true := by unfold readOk; rw [decide_eq_true HND.out, h1.all]; rfl
              have HRO := Aside0.mk hro
              have H1 := Aside0.mk h1
              clear hro h1 hts hQ
              go_wp2
              go_ret2
              exact ⟨by rw [HRO.out]; rfl, H1.out.bel, ids_of_pl H1.out.ok (by rw [plOf_ids, srt_length]; exact hn), fun _ => H1.out.ok⟩
      · have hmm : ((m3 : Int) != (zs.length : Int)) = true := by
          simp
          intro e
          exact hnd (HM.out.1 (by omega))
        have hro : readOk zs es = false := by unfold readOk; rw [decide_eq_false hnd]; rfl
        have HRO := Aside0.mk hro
        clear hro hnd
        go_wp2
        go_ret2
        exact ⟨by rw [HRO.out]; rfl, HR3.out.bel, ids_of_rd HR3.out (by rw [srt_length]; exact hn), fun h => by rw [HRO.out] at h; cases h⟩
end Go.Proofs.YtfkmpnpliadohaaGreat.R

set_option linter.unusedVariables false
set_option linter.unusedSimpArgs false
/- impl.open and impl.from. -/
namespace Go.Proofs.YtfkmpnpliadohaaGreat.R
open Go.RowKit Go.Lab Go.Proofs.YtfkmpnpliadohaaGreatW.PrintWords Go.Proofs.YtfkmpnpliadohaaGreatW.PrintLast Go.Proofs.YtfkmpnpliadohaaGreatW.PrintMore PL

theorem IdsAt.below {w w1 : World} {base bp : Nat} (h : IdsAt w base bp) (hb : Below w.heap.size w w1) : IdsAt w1 base bp := by
  obtain ⟨vi, ids, hc, ho, hn⟩ := h
  refine ⟨vi, ids, ?_, pw_own_below ho hb, hn⟩
  rw [hb.cell (p := ⟨bp, 0, none⟩) (World.block_lt_of_cell? w ⟨bp, 0, none⟩ hc)]; exact hc

/-- the type of an opened graph -/
def gT (d : Bool) : TypeId := if d = true then 75 else 177
/-- what open returns: the graph, ready to be walked -/
structure Opened (w w' : World) (d : Bool) (zs : List Int) (es : List S38) (t : TypeId) (bp : Nat) : Prop where
  ty : t = gT d
  bel : Below w.heap.size w w'
  base : ∃ base, w.heap.size ≤ base ∧ IdsAt w' base bp ∧ (readOk zs es = true → PlOk w' base bp (plOf d zs es))

set_option maxHeartbeats 1000000 in
set_option maxRecDepth 100000 in
theorem open_any (d : Bool) (A1 A2 : Option Addr) (c1 c2 : Nat) (zs : List Int) (es : List S38) (w : World)
    (hN : Kd.C (Kd.int .i64) w A1 zs.length zs) (hE : Kd.C k38 w A2 es.length es) (hn : zs.length ≤ 1000) (he : es.length ≤ 1000000) :
    Calls Tryz.prog 80 #[.agg #[.bool d, .slice A1 zs.length c1, .slice A2 es.length c2]] w fun e w' => ∃ t bp, e = .returned (.tuple #[.iface t (.agg #[.pointer (some ⟨bp, 0, none⟩)]), .pointer (some ⟨bp, 0, none⟩), .bool (readOk zs es)]) ∧ Opened w w' d zs es t bp := by
  have hb1 : Below w.heap.size w (w.alloc (.cells #[.bool d, .slice A1 zs.length c1, .slice A2 es.length c2] 25)) := (Below.refl _ _).alloc (Nat.le_refl _) _
  have HN := Aside0.mk (Kd.C_below hN hb1)
  have HE := Aside0.mk (Kd.C_below hE hb1)
  have HB1 := Aside0.mk hb1
  have hc0 : (w.alloc (.cells #[.bool d, .slice A1 zs.length c1, .slice A2 es.length c2] 25)).cell? ⟨w.heap.size, 0, none⟩ = some (.bool d) := by rw [blk_cell (heap_alloc_new _ _)]; rfl
  have hlt : w.heap.size < (w.alloc (.cells #[.bool d, .slice A1 zs.length c1, .slice A2 es.length c2] 25)).heap.size := by simp
  have HC0 := Aside0.mk (And.intro hc0 hlt)
  clear hN hE hb1 hc0 hlt
  cases d with
  | true =>
    go_enter Tryz.func80, Tryz.ntmps80
    go_wp2_with (go_at_call 103; refine (read_any2 true A1 A2 c1 c2 zs es _ HN.out HE.out hn he).mono ?_; rintro e w1 ⟨rfl, hbel, hids, hpl⟩; have hcb := (hbel.cell (p := ⟨w.heap.size, 0, none⟩) HC0.out.2).trans HC0.out.1; have HR := Aside0.mk (And.intro hbel (And.intro hids hpl)); clear hbel hids hpl)
    go_ret3
    have h2 := HR.out.2.1
    have h3 := HR.out.2.2
    have e1 : (w.alloc (.cells #[.bool true, .slice A1 zs.length c1, .slice A2 es.length c2] 25)).heap.size = w.heap.size + 1 := by simp
    rw [e1] at h2 h3
    exact ⟨_, _, rfl, ⟨rfl, Below.up HB1.out HR.out.1 (Nat.le_refl _), _, Nat.le_succ _, h2, h3⟩⟩
  | false =>
    go_enter Tryz.func80, Tryz.ntmps80
    go_wp2_with (go_at_call 103; refine (read_any2 false A1 A2 c1 c2 zs es _ HN.out HE.out hn he).mono ?_; rintro e w1 ⟨rfl, hbel, hids, hpl⟩; have hcb := (hbel.cell (p := ⟨w.heap.size, 0, none⟩) HC0.out.2).trans HC0.out.1; have HR := Aside0.mk (And.intro hbel (And.intro hids hpl)); clear hbel hids hpl)
    go_ret3
    have h2 := HR.out.2.1
    have h3 := HR.out.2.2
    have e1 : (w.alloc (.cells #[.bool false, .slice A1 zs.length c1, .slice A2 es.length c2] 25)).heap.size = w.heap.size + 1 := by simp
    rw [e1] at h2 h3
    exact ⟨_, _, rfl, ⟨rfl, Below.up HB1.out HR.out.1 (Nat.le_refl _), _, Nat.le_succ _, h2, h3⟩⟩

set_option maxHeartbeats 1000000 in
set_option maxRecDepth 100000 in
theorem from1_any (d : Bool) (A1 A2 : Option Addr) (c1 c2 r : Nat) (zs : List Int) (es : List S38) (u : Int) (w : World)
    (hN : Kd.C (Kd.int .i64) w A1 zs.length zs) (hE : Kd.C k38 w A2 es.length es) (hn : zs.length ≤ 1000) (he : es.length ≤ 1000000)
    (hr : w.cell? ⟨r, 0, none⟩ = some (.int .i64 u)) :
    Calls Tryz.prog 64 #[.agg #[.bool d, .slice A1 zs.length c1, .slice A2 es.length c2], .slice (some ⟨r, 0, none⟩) 1 1] w fun e w' => ∃ t bp, e = .returned (.tuple #[.iface t (.agg #[.pointer (some ⟨bp, 0, none⟩)]), .pointer (some ⟨bp, 0, none⟩), .bool (readOk zs es && decide (u ∈ zs))]) ∧ Opened w w' d zs es t bp := by
  have hb1 : Below w.heap.size w (w.alloc (.cells #[.bool d, .slice A1 zs.length c1, .slice A2 es.length c2] 25)) := (Below.refl _ _).alloc (Nat.le_refl _) _
  have HN := Aside0.mk (Kd.C_below hN hb1)
  have HE := Aside0.mk (Kd.C_below hE hb1)
  have HB1 := Aside0.mk hb1
  have hrl := World.block_lt_of_cell? w ⟨r, 0, none⟩ hr
  have hr1 : (w.alloc (.cells #[.bool d, .slice A1 zs.length c1, .slice A2 es.length c2] 25)).cell? ⟨r, 0, none⟩ = some (.int .i64 u) := (hb1.cell (p := ⟨r, 0, none⟩) hrl).trans hr
  have HRL := Aside0.mk (show r < (w.alloc (.cells #[.bool d, .slice A1 zs.length c1, .slice A2 es.length c2] 25)).heap.size by simp; exact Nat.lt_succ_of_lt hrl)
  have HR1 := Aside0.mk hr1
  have hgr : (Below w.heap.size w (w.alloc (.cells #[.bool d, .slice A1 zs.length c1, .slice A2 es.length c2] 25))) ∧ w.heap.size ≤ (w.alloc (.cells #[.bool d, .slice A1 zs.length c1, .slice A2 es.length c2] 25)).heap.size := ⟨hb1, hb1.size⟩
  have HGR := Aside0.mk hgr
  clear hN hE hb1 hr1 hr hrl hgr
  obtain ⟨q, hq⟩ : ∃ q, (readOk zs es && decide (u ∈ zs)) = q := ⟨_, rfl⟩
  rw [hq]
  have HQ := Aside0.mk hq
  clear hq
  go_enter Tryz.func64, Tryz.ntmps64
  go_wp2_with (go_at_call 80; refine (open_any d A1 A2 c1 c2 zs es _ HN.out HE.out hn he).mono ?_; rintro e w1 ⟨t, bp, rfl, hop⟩; have HOP := Aside0.mk hop; have hcr := (hop.bel.cell (p := ⟨r, 0, none⟩) HRL.out).trans HR1.out; clear hop)
  have HFIN : Aside0 (Opened w w1 d zs es t bp) := ⟨HOP.out.ty, Below.up HGR.out.1 HOP.out.bel (Nat.le_refl _), by obtain ⟨b, h1, h2⟩ := HOP.out.base; exact ⟨b, Nat.le_trans HGR.out.2 h1, h2⟩⟩
  obtain ⟨rb, hrb⟩ : ∃ rb, readOk zs es = rb := ⟨_, rfl⟩
  rw [hrb]
  have HRB := Aside0.mk hrb
  clear hrb
  go_loopw [9, 22] (fun v i wr => ∃ k : Nat, k ≤ 1 ∧ i = .int .i64 k ∧ v = .bool (if k = 0 then rb else q) ∧ wr = w1) (fun _ i _ => 1 - (intOf i).toNat)
  case atStart => exact ⟨0, Nat.zero_le _, rfl, rfl, rfl⟩
  case round =>
    obtain ⟨k, hk, rfl, rfl, rfl⟩ := hrel
    rcases k with _ | k
    · cases rb with
      | true =>
        obtain ⟨base, hb1, hids, hpl⟩ := HOP.out.base
        have HPL := Aside0.mk (hpl HRB.out)
        have HSO := Aside0.mk (show (plOf d zs es).ids.Pairwise (· < ·) by rw [plOf_ids]; have := HRB.out; unfold readOk at this; simp only [Bool.and_eq_true, decide_eq_true_eq] at this; exact this.1)
        have hm : decide (u ∈ (plOf d zs es).ids) = q := by rw [← HQ.out, HRB.out, Bool.true_and, plOf_ids, decide_eq_decide]; exact mem_srt _ _
        have HM := Aside0.mk hm
        clear hb1 hids hpl hm
        go_wp2_with (go_at_call 109; refine (pl_index base bp (plOf d zs es) _ _ HPL.out HSO.out (by rw [plOf_ids, srt_length]; exact hn)).mono ?_; rintro e w' ⟨rfl, rfl⟩; rw [HM.out])
        go_roundw
        case rel => exact ⟨1, Nat.le_refl _, by go_num, by simp, trivial⟩
        case measure => simp [intOf]
      | false =>
        obtain ⟨base, hb1, hids, hpl⟩ := HOP.out.base
        have HID := Aside0.mk hids
        have hm : q = false := by rw [← HQ.out, HRB.out, Bool.false_and]
        subst hm
        clear hb1 hids hpl
        go_wp2_with (go_at_call 109; refine (index_weak base bp _ _ HID.out).mono ?_; rintro e w' ⟨⟨ix, bx, rfl⟩, rfl⟩)
        go_roundw
        case rel => exact ⟨1, Nat.le_refl _, by go_num, by simp, trivial⟩
        case measure => simp [intOf]
    · have : k = 0 := by omega
      subst this
      go_wp2
      go_ret3
      exact ⟨_, _, rfl, HFIN.out⟩
end Go.Proofs.YtfkmpnpliadohaaGreat.R

set_option linter.unusedVariables false
set_option linter.unusedSimpArgs false
/- From and Edge of a plain graph of either kind, exactly. -/
namespace Go.Proofs.YtfkmpnpliadohaaGreat.R
open Go.RowKit Go.Lab Go.Maps Go.Proofs.YtfkmpnpliadohaaGreatW.PrintWords Go.Proofs.YtfkmpnpliadohaaGreatW.PrintLast Go.Proofs.YtfkmpnpliadohaaGreatW.PrintMore PL

/-- the arcs of a graph: those of an undirected one both ways -/
def dbl (d : Bool) (es : List S38) : List S38 := if d = true then es else es.flatMap fun e => [e, ⟨e.f1, e.f0, e.f2⟩]
theorem dbl_good {zs : List Int} (d : Bool) {es : List S38} (h : es.all (goodE zs) = true) : (dbl d es).all (goodE zs) = true := by
  unfold dbl
  split
  · exact h
  · rw [List.all_eq_true] at h ⊢
    intro e he
    obtain ⟨a, ha, hm⟩ := List.mem_flatMap.1 he
    have hg := h a ha
    rcases List.mem_cons.1 hm with rfl | hm
    · exact hg
    · rw [List.mem_singleton] at hm
      subst hm
      unfold goodE at hg ⊢
      simp only [Bool.and_eq_true, decide_eq_true_eq, Bool.not_eq_true', decide_eq_false_iff_not] at hg ⊢
      obtain ⟨⟨⟨⟨h1, h2⟩, h3⟩, h4⟩, h5⟩ := hg
      exact ⟨⟨⟨⟨h2, h1⟩, fun e => h3 e.symm⟩, h4⟩, h5⟩
theorem plOf_dbl (d : Bool) (zs : List Int) (es : List S38) : plOf d zs es = plOf true zs (dbl d es) := by
  cases d with
  | true => rfl
  | false =>
    unfold plOf dbl
    rw [if_neg (by decide)]
    suffices h : ∀ (es : List S38) (p : Pl), es.foldl (layE false) p = (es.flatMap fun e => [e, ⟨e.f1, e.f0, e.f2⟩]).foldl (layE true) p from h es _
    intro es
    induction es with
    | nil => intro p; rfl
    | cons e es ih =>
      intro p
      rw [List.foldl_cons, List.flatMap_cons, List.foldl_append, ih]
      congr 1

/-- a plain graph in memory, by its arcs -/
structure GrOk (w : World) (base bp : Nat) (zs : List Int) (es : List S38) (p : Pl) : Prop where
  ok : PlOk w base bp p
  good : p.Good
  adj : Adj zs es p
  hs : (srt zs).Pairwise (· < ·)
  hn : zs.length ≤ 1000
theorem GrOk.below {w w1 : World} {base bp : Nat} {zs : List Int} {es : List S38} {p : Pl} (h : GrOk w base bp zs es p) (hb : Below w.heap.size w w1) : GrOk w1 base bp zs es p := ⟨h.ok.below hb, h.good, h.adj, h.hs, h.hn⟩
theorem GrOk.mk' {w w' : World} {d : Bool} {zs : List Int} {es : List S38} {base bp : Nat} (hn : zs.length ≤ 1000) (hro : readOk zs es = true) (hpl : PlOk w' base bp (plOf d zs es)) : GrOk w' base bp zs (dbl d es) (plOf d zs es) := by
  unfold readOk at hro
  simp only [Bool.and_eq_true, decide_eq_true_eq] at hro
  refine ⟨hpl, plOf_good d zs hn hro.1 es hro.2, ?_, hro.1, hn⟩
  rw [plOf_dbl]
  exact plOf_adj zs hn hro.1 _ (dbl_good d hro.2)
theorem GrOk.sorted {w : World} {base bp : Nat} {zs : List Int} {es : List S38} {p : Pl} (h : GrOk w base bp zs es p) : p.ids.Pairwise (· < ·) := by rw [h.adj.ids]; exact h.hs

set_option maxHeartbeats 4000000 in
set_option maxRecDepth 100000 in
theorem fromU_any (base bp : Nat) (p : Pl) (u : Int) (w : World) (h : PlOk w base bp p) (hs : p.ids.Pairwise (· < ·)) (hg : p.Good) (hu : u ∈ p.ids) :
    Calls Tryz.prog 330 #[.agg #[.pointer (some ⟨bp, 0, none⟩)], .int .i64 u] w fun e w' => ∃ b, e = .returned (.iface 354 (.pointer (some ⟨b, 0, none⟩))) ∧ OIt w.heap.size w'.heap.size w' b (endsN p.ids (p.out.getD (rank p.ids u) [])) 0 ∧ Below w.heap.size w w' := by
  have hb1 : Below w.heap.size w (w.alloc (.cells #[.pointer (some ⟨bp, 0, none⟩)] 177)) := (Below.refl _ _).alloc (Nat.le_refl _) _
  have hP1 : PlOk (w.alloc (.cells #[.pointer (some ⟨bp, 0, none⟩)] 177)) base bp p := h.below hb1
  have hd : decide (u ∈ p.ids) = true := decide_eq_true hu
  obtain ⟨hr, _⟩ := (rank_mem hs u).1 hu
  obtain ⟨ro, ri, vi, vn, g, cap, hi', hp, hcb, hce, hfr, hbw, hgw, hbg, hrl⟩ := hP1.open_out (rank p.ids u) hr
  have hn := hg.n
  have HP := Aside0.mk hP1
  have HP2 := Aside0.mk (show PlOk (World.drew (w.alloc (.cells #[.pointer (some ⟨bp, 0, none⟩)] 177))) base bp p from hP1.below ((Below.refl _ _).drew))
  have HROW := Aside0.mk (show (World.drew (w.alloc (.cells #[.pointer (some ⟨bp, 0, none⟩)] 177))).ownsRow base 285 2 ro[rank p.ids u] (p.out.getD (rank p.ids u) []).length (fl (p.out.getD (rank p.ids u) [])) from hp.rows.rowA _ hi')
  obtain ⟨VA, vc, hve⟩ := own_slice HROW.out
  rw [hve] at HROW hce
  have HS := Aside0.mk hs
  have HG := Aside0.mk (hg.out (rank p.ids u))
  have hc1 : (w.alloc (.cells #[.pointer (some ⟨bp, 0, none⟩)] 177)).cell? ⟨w.heap.size, 0, none⟩ = some (.pointer (some ⟨bp, 0, none⟩)) := (blk_cell (heap_alloc_new _ _) 0).trans rfl
  have hx1 : (0 : Int) ≤ ((rank p.ids u : Nat) : Int) := by omega
  have hx2 : ((rank p.ids u : Nat) : Int) < (ro.length : Int) := by omega
  clear h hs hg hu hP1 hp hve
  go_enter Tryz.func330, Tryz.ntmps330
  go_wp2_with (go_at_call 109; refine (pl_index base bp p _ _ HP.out HS.out hn).mono ?_; rintro e w1 ⟨rfl, rfl⟩; rw [hd])
  go_region_held3 (fun w' => w'.cell? ⟨w.heap.size, 0, none⟩ = some (.pointer (some ⟨bp, 0, none⟩)) ∧ w'.cell? ⟨bp, 1, none⟩ = some (.slice (some ⟨g, 0, none⟩) ro.length cap) ∧ w'.cell? ⟨g, rank p.ids u, none⟩ = some (.slice VA (p.out.getD (rank p.ids u) []).length vc))
    (first | (exact ⟨(hbel.cell (p := ⟨w.heap.size, 0, none⟩) (by simp)).trans hc1, (hbel.cell (p := ⟨bp, 1, none⟩) hbw).trans hcb, (hbel.cell (p := ⟨g, rank p.ids u, none⟩) hgw).trans hce⟩) | go_keep)
    (first
      | (go_at_call 275; refine (ends_any base bp base p _ (p.out.getD (rank p.ids u) []) _ HP2.out HROW.out hn (Nat.le_trans HG.out.len hn) HG.out.2).mono ?_; rintro e w2 ⟨b, rfl, hit, hbel⟩; have HIT := Aside0.mk hit; have HBEL := Aside0.mk hbel; clear hit))
  all_goals
    go_wp2
    go_ret
    have hz : w.heap.size ≤ (World.drew (w.alloc (.cells #[.pointer (some ⟨bp, 0, none⟩)] 177))).heap.size := by simp
    exact ⟨b, rfl, HIT.out.wide hz (Nat.le_refl _), (show Below w.heap.size w (World.drew (w.alloc (.cells #[.pointer (some ⟨bp, 0, none⟩)] 177))) from hb1.drew).trans (HBEL.out.mono hz)⟩


theorem gFromD (base bp : Nat) (zs : List Int) (es : List S38) (p : Pl) (u : Int) (w : World) (h : GrOk w base bp zs es p) (hu : u ∈ zs) :
    Calls Tryz.prog 267 #[.agg #[.pointer (some ⟨bp, 0, none⟩)], .int .i64 u] w fun e w' => ∃ b, e = .returned (.iface 354 (.pointer (some ⟨b, 0, none⟩))) ∧ OIt w.heap.size w'.heap.size w' b (outN zs es u) 0 ∧ Below w.heap.size w w' := by
  have hu' : u ∈ srt zs := (mem_srt _ _).2 hu
  refine (from_any base bp p u w h.ok h.sorted h.good (by rw [h.adj.ids]; exact hu')).mono ?_
  rintro e w' ⟨b, rfl, h1, h2⟩
  refine ⟨b, rfl, ?_, h2⟩
  have := h.adj.outN h.good h.hs hu'
  unfold endsN at h1
  rw [this] at h1
  exact h1
theorem gFromU (base bp : Nat) (zs : List Int) (es : List S38) (p : Pl) (u : Int) (w : World) (h : GrOk w base bp zs es p) (hu : u ∈ zs) :
    Calls Tryz.prog 330 #[.agg #[.pointer (some ⟨bp, 0, none⟩)], .int .i64 u] w fun e w' => ∃ b, e = .returned (.iface 354 (.pointer (some ⟨b, 0, none⟩))) ∧ OIt w.heap.size w'.heap.size w' b (outN zs es u) 0 ∧ Below w.heap.size w w' := by
  have hu' : u ∈ srt zs := (mem_srt _ _).2 hu
  refine (fromU_any base bp p u w h.ok h.sorted h.good (by rw [h.adj.ids]; exact hu')).mono ?_
  rintro e w' ⟨b, rfl, h1, h2⟩
  refine ⟨b, rfl, ?_, h2⟩
  have := h.adj.outN h.good h.hs hu'
  unfold endsN at h1
  rw [this] at h1
  exact h1

/-- an edge -/
def eV (u v : Int) (x : Nat) : Value := .iface 353 (.agg #[.iface 118 (.int .i64 u), .iface 118 (.int .i64 v), .float .f64 x])

set_option maxHeartbeats 2000000 in
theorem edge_x (base bp : Nat) (p : Pl) (u v : Int) (a : Int × Nat) (w : World) (h : PlOk w base bp p) (hs : p.ids.Pairwise (· < ·)) (hg : p.Good) (hf : p.find u v = some a) :
    Calls Tryz.prog 274 #[.pointer (some ⟨bp, 0, none⟩), .int .i64 u, .int .i64 v] w fun e w' => e = .returned (eV u v a.2) ∧ Below w.heap.size w w' := by
  have HP := Aside0.mk h
  have HS := Aside0.mk hs
  have HG := Aside0.mk hg
  have HFF := Aside0.mk hf
  clear h hs hg hf
  go_enter Tryz.func274, Tryz.ntmps274
  go_wp2_with (go_at_call 279; refine (find_any base bp p u v _ HP.out HS.out HG.out).mono ?_; rintro e w1 ⟨rfl, hbel⟩; rw [HFF.out]; unfold arcV; have HB := Aside0.mk hbel; clear hbel)
  go_ret
  exact ⟨rfl, HB.out.alloc HB.out.size _⟩

set_option maxHeartbeats 2000000 in
theorem gEdgeD (base bp : Nat) (zs : List Int) (es : List S38) (p : Pl) (u v : Int) (w : World) (h : GrOk w base bp zs es p) (hu : u ∈ zs) (hv : v ∈ zs) (he : (arcW es u v).isSome = true) :
    Calls Tryz.prog 266 #[.agg #[.pointer (some ⟨bp, 0, none⟩)], .int .i64 u, .int .i64 v] w fun e w' => ∃ x, e = .returned (eV u v x) ∧ Below w.heap.size w w' := by
  have hb1 : Below w.heap.size w (w.alloc (.cells #[.pointer (some ⟨bp, 0, none⟩)] 75)) := (Below.refl _ _).alloc (Nat.le_refl _) _
  have HP := Aside0.mk (h.ok.below hb1)
  have HS := Aside0.mk h.sorted
  have HG := Aside0.mk h.good
  obtain ⟨a, ha⟩ : ∃ a, p.find u v = some a := by
    have := h.adj.find h.good h.hs ((mem_srt _ _).2 hu) ((mem_srt _ _).2 hv)
    rw [this]
    obtain ⟨n, hn⟩ := Option.isSome_iff_exists.1 he
    exact ⟨_, by rw [hn]; rfl⟩
  have HF := Aside0.mk ha
  have HFF := Aside0.mk (show p.has u v = true by unfold Pl.has; rw [ha]; rfl)
  clear h ha hu hv he
  go_enter Tryz.func266, Tryz.ntmps266
  go_wp2_with (first
    | (go_at_call 273; refine (hasFromTo_any base bp p u v _ HP.out HS.out HG.out).mono ?_; rintro e w1 ⟨rfl, hbel⟩; rw [HFF.out]; have HB := Aside0.mk hbel; have hcb := (hbel.cell (p := ⟨w.heap.size, 0, none⟩) (by simp)).trans ((blk_cell (heap_alloc_new _ _) 0).trans rfl); clear hbel)
    | (go_at_call 274; refine (edge_x base bp p u v a _ (HP.out.below HB.out) HS.out HG.out HF.out).mono ?_; rintro e w2 ⟨rfl, hbel⟩; unfold eV; have HB2 := Aside0.mk hbel; clear hbel))
  go_ret
  exact ⟨a.2, rfl, (hb1.trans (HB.out.mono (by simp))).trans (HB2.out.mono (Nat.le_trans (by simp) HB.out.size))⟩

set_option maxHeartbeats 2000000 in
theorem gEdgeU (base bp : Nat) (zs : List Int) (es : List S38) (p : Pl) (u v : Int) (w : World) (h : GrOk w base bp zs es p) (hu : u ∈ zs) (hv : v ∈ zs) (he : (arcW es u v).isSome = true) :
    Calls Tryz.prog 329 #[.agg #[.pointer (some ⟨bp, 0, none⟩)], .int .i64 u, .int .i64 v] w fun e w' => ∃ x, e = .returned (eV u v x) ∧ Below w.heap.size w w' := by
  have hb1 : Below w.heap.size w (w.alloc (.cells #[.pointer (some ⟨bp, 0, none⟩)] 177)) := (Below.refl _ _).alloc (Nat.le_refl _) _
  have HP := Aside0.mk (h.ok.below hb1)
  have HS := Aside0.mk h.sorted
  have HG := Aside0.mk h.good
  obtain ⟨a, ha⟩ : ∃ a, p.find u v = some a := by
    have := h.adj.find h.good h.hs ((mem_srt _ _).2 hu) ((mem_srt _ _).2 hv)
    rw [this]
    obtain ⟨n, hn⟩ := Option.isSome_iff_exists.1 he
    exact ⟨_, by rw [hn]; rfl⟩
  have HF := Aside0.mk ha
  have HFF := Aside0.mk (show p.has u v = true by unfold Pl.has; rw [ha]; rfl)
  clear h ha hu hv he
  go_enter Tryz.func329, Tryz.ntmps329
  go_wp2_with (first
    | (go_at_call 331; refine (hasBetween_any base bp p u v _ HP.out HS.out HG.out).mono ?_; rintro e w1 ⟨rfl, hbel⟩; rw [HFF.out]; have HB := Aside0.mk hbel; have hcb := (hbel.cell (p := ⟨w.heap.size, 0, none⟩) (by simp)).trans ((blk_cell (heap_alloc_new _ _) 0).trans rfl); clear hbel)
    | (go_at_call 274; refine (edge_x base bp p u v a _ (HP.out.below HB.out) HS.out HG.out HF.out).mono ?_; rintro e w2 ⟨rfl, hbel⟩; unfold eV; have HB2 := Aside0.mk hbel; clear hbel))
  go_ret
  exact ⟨a.2, rfl, (hb1.trans (HB.out.mono (by simp))).trans (HB2.out.mono (Nat.le_trans (by simp) HB.out.size))⟩

set_option maxHeartbeats 1000000 in
theorem weFrom_any (u v : Int) (x : Nat) (w : World) : Calls Tryz.prog 352 #[.agg #[.iface 118 (.int .i64 u), .iface 118 (.int .i64 v), .float .f64 x]] w fun e w' => e = .returned (.iface 118 (.int .i64 u)) ∧ Below w.heap.size w w' := by
  go_enter Tryz.func352, Tryz.ntmps352
  go_wp2
  go_ret
  exact ⟨rfl, (Below.refl _ _).alloc (Nat.le_refl _) _⟩
set_option maxHeartbeats 1000000 in
theorem weTo_any (u v : Int) (x : Nat) (w : World) : Calls Tryz.prog 354 #[.agg #[.iface 118 (.int .i64 u), .iface 118 (.int .i64 v), .float .f64 x]] w fun e w' => e = .returned (.iface 118 (.int .i64 v)) ∧ Below w.heap.size w w' := by
  go_enter Tryz.func354, Tryz.ntmps354
  go_wp2
  go_ret
  exact ⟨rfl, (Below.refl _ _).alloc (Nat.le_refl _) _⟩
end Go.Proofs.YtfkmpnpliadohaaGreat.R

/- Printed by a program (the kit's printer, run over contracts that were proved by hand). -/
namespace Go.Proofs.YtfkmpnpliadohaaGreat.PL
open Go.RowKit Go.Proofs.YtfkmpnpliadohaaGreatW.PrintWords Go.Proofs.YtfkmpnpliadohaaGreatW.PrintLast Go.Proofs.YtfkmpnpliadohaaGreatW.PrintMore
attribute [local go_sem] max2_int min2_int max_two min_two max_three min_three max_four min_four   -- for this text's walks alone
set_option linter.unusedVariables false
set_option linter.unusedSimpArgs false

theorem eqA38 (d : Nat) (w : World) (x0 y0 : Int) (x1 y1 : Int) (x2 y2 : Int) :
    (Op.equalIn (d + 2) 38 (.agg #[.int .i64 x0, .int .i64 x1, .int .i64 x2]) (.agg #[.int .i64 y0, .int .i64 y1, .int .i64 y2])).run Tryz.prog w = .ok (x0 == y0 && (x1 == y1 && (x2 == y2))) w := by
  refine eqA_of Tryz.underlying38 (by kernel_rfl) ?_
  refine eqf_cons (by rfl) (by go_simp; rfl) (by go_simp; rfl) (by go_simp) ?_
  refine eqf_cons (by rfl) (by go_simp; rfl) (by go_simp; rfl) (by go_simp) ?_
  exact eqf_last (by rfl) (by go_simp; rfl) (by go_simp; rfl) (by go_simp)
end Go.Proofs.YtfkmpnpliadohaaGreat.PL

set_option linter.unusedVariables false
set_option linter.unusedSimpArgs false
/- ordered (as the printer printed it for an elder seat). -/
namespace Go.Proofs.YtfkmpnpliadohaaGreat.PL
open Go.RowKit Go.Proofs.YtfkmpnpliadohaaGreatW.PrintWords Go.Proofs.YtfkmpnpliadohaaGreatW.PrintLast Go.Proofs.YtfkmpnpliadohaaGreatW.PrintMore
/-! ### impl_ordered: function 111 -/
def impl_ordered.f (a0 : Bool) (a1_0 : Int) (a1_1 : Int) (a1_2 : Int) : Option (Int × Int × Int) := if a0 = true then (some (a1_0, a1_1, a1_2)) else (if a1_0 > a1_1 then (some (a1_1, a1_0, a1_2)) else (some (a1_0, a1_1, a1_2)))
set_option maxHeartbeats 8000000 in
set_option maxRecDepth 100000 in
theorem impl_ordered.calls (a0 : Bool) (a1_0 : Int) (a1_1 : Int) (a1_2 : Int) (r1 : Int) (r2 : Int) (r3 : Int) (w : World) (h : impl_ordered.f a0 a1_0 a1_1 a1_2 = some (r1, r2, r3)) :
    Calls Tryz.prog 111 #[.bool a0, .agg #[.int .i64 a1_0, .int .i64 a1_1, .int .i64 a1_2]] w fun e w' => e = .returned (.agg #[.int .i64 r1, .int .i64 r2, .int .i64 r3]) ∧ Below w.heap.size w w' := by
  have hu38 := Tryz.underlying38
  have HB := Aside0.mk (Below.refl w.heap.size w)
  have H : (if a0 = true then (some (a1_0, a1_1, a1_2)) else (if a1_0 > a1_1 then (some (a1_1, a1_0, a1_2)) else (some (a1_0, a1_1, a1_2)))) = some (r1, r2, r3) := h
  clear h
  by_cases c3 : a0 = true
  · subst c3
    have H1 : (some (a1_0, a1_1, a1_2)) = some (r1, r2, r3) := by rw [if_pos rfl] at H; exact H
    clear H
    have H := H1
    clear H1
    simp only [Option.some.injEq, Prod.mk.injEq] at H
    obtain ⟨rfl, rfl, rfl⟩ := H
    go_enter Tryz.func111, Tryz.ntmps111
    go_wp2_with (first | ((with_reducible refine gate_dst (N := 3) rfl ?_); refine box_event ?hg (N := 3) ?hd (cs := #[.int .i64 a1_0, .int .i64 a1_1, .int .i64 a1_2]) (t := 38) ?hr ?_; (case hd => rfl); (case hg => rfl); (case hr => first | (go_simp; done) | (go_simp; rfl)); intro gb123 hg w4 hbox hb; have n0_ := Aside0.mk (below_step (by repeat (first | (with_reducible first | exact HB.out | apply below_alloc | apply pw_below_drewN | apply below_drew1) | exact HB.out)) hb); have n1_ := Aside0.mk (hbox); have n2_ := Aside0.mk ((by rw [hg]; exact (below_size (by repeat (first | (with_reducible first | exact HB.out | apply below_alloc | apply pw_below_drewN | apply below_drew1) | exact HB.out))) : w.heap.size ≤ gb123)); have n3_ := Aside0.mk ((by rw [hg]; exact (below_size (by repeat (first | (with_reducible first | exact HB.out | apply below_alloc | apply pw_below_drewN | apply below_drew1) | exact HB.out))) : w.heap.size ≤ gb123)); clear HB; have HB := n0_; have BK123 := n1_; have GW123 := n2_; have GE123 := n3_; clear n0_ n1_ n2_ n3_; clear hb hbox hg) | ((with_reducible refine gate_dst (N := 4) rfl ?_); refine box_event ?hg (N := 4) ?hd (cs := #[.int .i64 0, .int .i64 0, .int .i64 0]) (t := 38) ?hr ?_; (case hd => rfl); (case hg => rfl); (case hr => first | (go_simp; done) | (go_simp; rfl)); intro gb124 hg w5 hbox hb; have n0_ := Aside0.mk (blk_below (g := gb123) (o := .cells #[.int .i64 a1_0, .int .i64 a1_1, .int .i64 a1_2] 38 (0, 0)) (by (with_reducible repeat (first | refine blk_drewN ?_ _ | refine blk_drew ?_ | refine blk_alloc ?_ _)); exact BK123.out) hb); have n1_ := Aside0.mk (below_step (by repeat (first | (with_reducible first | exact HB.out | apply below_alloc | apply pw_below_drewN | apply below_drew1 | refine below_set ?_ GE123.out) | exact HB.out)) hb); have n2_ := Aside0.mk (hbox); have n3_ := Aside0.mk ((by rw [hg]; exact (below_size (by repeat (first | (with_reducible first | exact HB.out | apply below_alloc | apply pw_below_drewN | apply below_drew1 | refine below_set ?_ GE123.out) | exact HB.out))) : w.heap.size ≤ gb124)); have n4_ := Aside0.mk ((by rw [hg]; exact (below_size (by repeat (first | (with_reducible first | exact HB.out | apply below_alloc | apply pw_below_drewN | apply below_drew1 | refine below_set ?_ GE123.out) | exact HB.out))) : w.heap.size ≤ gb124)); have n5_ := Aside0.mk ((by rw [hg]; exact Nat.ne_of_lt (blk_lt (g := gb123) (o := .cells #[.int .i64 a1_0, .int .i64 a1_1, .int .i64 a1_2] 38 (0, 0)) (by (with_reducible repeat (first | refine blk_drewN ?_ _ | refine blk_drew ?_ | refine blk_alloc ?_ _)); exact BK123.out)) : gb123 ≠ gb124)); have n6_ := Aside0.mk ((by rw [hg]; exact Nat.ne_of_gt (blk_lt (g := gb123) (o := .cells #[.int .i64 a1_0, .int .i64 a1_1, .int .i64 a1_2] 38 (0, 0)) (by (with_reducible repeat (first | refine blk_drewN ?_ _ | refine blk_drew ?_ | refine blk_alloc ?_ _)); exact BK123.out)) : gb124 ≠ gb123)); clear BK123; clear HB; have BK123 := n0_; have HB := n1_; have BK124 := n2_; have GW124 := n3_; have GE124 := n4_; have NB123_124 := n5_; have NB124_123 := n6_; clear n0_ n1_ n2_ n3_ n4_ n5_ n6_; clear hb hbox hg; have hnb6 := NB123_124.out; have hnc6 := NB124_123.out; have hcz7_0 : w5.cell? ⟨gb123, 0, none⟩ = some (.int .i64 a1_0) := (blk_cell BK123.out 0).trans rfl; have hcz7_1 : w5.cell? ⟨gb123, 1, none⟩ = some (.int .i64 a1_1) := (blk_cell BK123.out 1).trans rfl; have hcz7_2 : w5.cell? ⟨gb123, 2, none⟩ = some (.int .i64 a1_2) := (blk_cell BK123.out 2).trans rfl; have hfz7_0 := blk_frozen BK123.out 0; have hfz7_1 := blk_frozen BK123.out 1; have hfz7_2 := blk_frozen BK123.out 2; have hcz8_0 : w5.cell? ⟨gb124, 0, none⟩ = some (.int .i64 0) := (blk_cell BK124.out 0).trans rfl; have hcz8_1 : w5.cell? ⟨gb124, 1, none⟩ = some (.int .i64 0) := (blk_cell BK124.out 1).trans rfl; have hcz8_2 : w5.cell? ⟨gb124, 2, none⟩ = some (.int .i64 0) := (blk_cell BK124.out 2).trans rfl; have hfz8_0 := blk_frozen BK124.out 0; have hfz8_1 := blk_frozen BK124.out 1; have hfz8_2 := blk_frozen BK124.out 2))
    refine bodyPost_ret (results_cell_row rfl _ _ gb124 38 #[.int .i64 a1_0, .int .i64 a1_1, .int .i64 a1_2] (0, 0) _ rfl (by (with_reducible repeat (first | refine blk_drewN ?_ _ | refine blk_drew ?_ | refine blk_alloc ?_ _)); refine blk_put (cs := #[.int .i64 a1_0, .int .i64 a1_1, .int .i64 0]) ?_ 2 _ rfl; (with_reducible repeat (first | refine blk_drewN ?_ _ | refine blk_drew ?_ | refine blk_alloc ?_ _)); refine blk_put (cs := #[.int .i64 a1_0, .int .i64 0, .int .i64 0]) ?_ 1 _ rfl; (with_reducible repeat (first | refine blk_drewN ?_ _ | refine blk_drew ?_ | refine blk_alloc ?_ _)); refine blk_put (cs := #[.int .i64 0, .int .i64 0, .int .i64 0]) ?_ 0 _ rfl; (with_reducible repeat (first | refine blk_drewN ?_ _ | refine blk_drew ?_ | refine blk_alloc ?_ _)); exact BK124.out) Tryz.underlying38 rfl (by kernel_rfl)) rfl ?_
    exact ⟨by first | rfl | (simp [errW_none, errW_some] <;> rfl) | (simp [*, errW_none, errW_some] <;> rfl), by repeat (first | (with_reducible first | exact HB.out | apply below_alloc | apply pw_below_drewN | apply below_drew1 | refine below_set ?_ GE123.out | refine below_set ?_ GE124.out) | exact HB.out)⟩
  · replace c3 := Bool.eq_false_iff.mpr c3
    subst c3
    have H1 : (if a1_0 > a1_1 then (some (a1_1, a1_0, a1_2)) else (some (a1_0, a1_1, a1_2))) = some (r1, r2, r3) := by rw [if_neg (show ¬ (false = true) by decide)] at H; exact H
    clear H
    have H := H1
    clear H1
    by_cases c9 : a1_0 > a1_1
    · rw [if_pos c9] at H
      have c9b0 : decide (a1_1 < a1_0) = true := decide_eq_true c9
      clear c9
      simp only [Option.some.injEq, Prod.mk.injEq] at H
      obtain ⟨rfl, rfl, rfl⟩ := H
      go_enter Tryz.func111, Tryz.ntmps111
      go_wp2_with (first | ((with_reducible refine gate_dst (N := 3) rfl ?_); refine box_event ?hg (N := 3) ?hd (cs := #[.int .i64 a1_0, .int .i64 a1_1, .int .i64 a1_2]) (t := 38) ?hr ?_; (case hd => rfl); (case hg => rfl); (case hr => first | (go_simp; done) | (go_simp; rfl)); intro gb123 hg w10 hbox hb; have n0_ := Aside0.mk (below_step (by repeat (first | (with_reducible first | exact HB.out | apply below_alloc | apply pw_below_drewN | apply below_drew1) | exact HB.out)) hb); have n1_ := Aside0.mk (hbox); have n2_ := Aside0.mk ((by rw [hg]; exact (below_size (by repeat (first | (with_reducible first | exact HB.out | apply below_alloc | apply pw_below_drewN | apply below_drew1) | exact HB.out))) : w.heap.size ≤ gb123)); have n3_ := Aside0.mk ((by rw [hg]; exact (below_size (by repeat (first | (with_reducible first | exact HB.out | apply below_alloc | apply pw_below_drewN | apply below_drew1) | exact HB.out))) : w.heap.size ≤ gb123)); clear HB; have HB := n0_; have BK123 := n1_; have GW123 := n2_; have GE123 := n3_; clear n0_ n1_ n2_ n3_; clear hb hbox hg) | ((with_reducible refine gate_dst (N := 4) rfl ?_); refine box_event ?hg (N := 4) ?hd (cs := #[.int .i64 0, .int .i64 0, .int .i64 0]) (t := 38) ?hr ?_; (case hd => rfl); (case hg => rfl); (case hr => first | (go_simp; done) | (go_simp; rfl)); intro gb124 hg w11 hbox hb; have n0_ := Aside0.mk (blk_below (g := gb123) (o := .cells #[.int .i64 a1_0, .int .i64 a1_1, .int .i64 a1_2] 38 (0, 0)) (by (with_reducible repeat (first | refine blk_drewN ?_ _ | refine blk_drew ?_ | refine blk_alloc ?_ _)); exact BK123.out) hb); have n1_ := Aside0.mk (below_step (by repeat (first | (with_reducible first | exact HB.out | apply below_alloc | apply pw_below_drewN | apply below_drew1 | refine below_set ?_ GE123.out) | exact HB.out)) hb); have n2_ := Aside0.mk (hbox); have n3_ := Aside0.mk ((by rw [hg]; exact (below_size (by repeat (first | (with_reducible first | exact HB.out | apply below_alloc | apply pw_below_drewN | apply below_drew1 | refine below_set ?_ GE123.out) | exact HB.out))) : w.heap.size ≤ gb124)); have n4_ := Aside0.mk ((by rw [hg]; exact (below_size (by repeat (first | (with_reducible first | exact HB.out | apply below_alloc | apply pw_below_drewN | apply below_drew1 | refine below_set ?_ GE123.out) | exact HB.out))) : w.heap.size ≤ gb124)); have n5_ := Aside0.mk ((by rw [hg]; exact Nat.ne_of_lt (blk_lt (g := gb123) (o := .cells #[.int .i64 a1_0, .int .i64 a1_1, .int .i64 a1_2] 38 (0, 0)) (by (with_reducible repeat (first | refine blk_drewN ?_ _ | refine blk_drew ?_ | refine blk_alloc ?_ _)); exact BK123.out)) : gb123 ≠ gb124)); have n6_ := Aside0.mk ((by rw [hg]; exact Nat.ne_of_gt (blk_lt (g := gb123) (o := .cells #[.int .i64 a1_0, .int .i64 a1_1, .int .i64 a1_2] 38 (0, 0)) (by (with_reducible repeat (first | refine blk_drewN ?_ _ | refine blk_drew ?_ | refine blk_alloc ?_ _)); exact BK123.out)) : gb124 ≠ gb123)); clear BK123; clear HB; have BK123 := n0_; have HB := n1_; have BK124 := n2_; have GW124 := n3_; have GE124 := n4_; have NB123_124 := n5_; have NB124_123 := n6_; clear n0_ n1_ n2_ n3_ n4_ n5_ n6_; clear hb hbox hg; have hnb12 := NB123_124.out; have hnc12 := NB124_123.out; have hcz13_0 : w11.cell? ⟨gb123, 0, none⟩ = some (.int .i64 a1_0) := (blk_cell BK123.out 0).trans rfl; have hcz13_1 : w11.cell? ⟨gb123, 1, none⟩ = some (.int .i64 a1_1) := (blk_cell BK123.out 1).trans rfl; have hcz13_2 : w11.cell? ⟨gb123, 2, none⟩ = some (.int .i64 a1_2) := (blk_cell BK123.out 2).trans rfl; have hfz13_0 := blk_frozen BK123.out 0; have hfz13_1 := blk_frozen BK123.out 1; have hfz13_2 := blk_frozen BK123.out 2; have hcz14_0 : w11.cell? ⟨gb124, 0, none⟩ = some (.int .i64 0) := (blk_cell BK124.out 0).trans rfl; have hcz14_1 : w11.cell? ⟨gb124, 1, none⟩ = some (.int .i64 0) := (blk_cell BK124.out 1).trans rfl; have hcz14_2 : w11.cell? ⟨gb124, 2, none⟩ = some (.int .i64 0) := (blk_cell BK124.out 2).trans rfl; have hfz14_0 := blk_frozen BK124.out 0; have hfz14_1 := blk_frozen BK124.out 1; have hfz14_2 := blk_frozen BK124.out 2))
      refine bodyPost_ret (results_cell_row rfl _ _ gb124 38 #[.int .i64 a1_1, .int .i64 a1_0, .int .i64 a1_2] (0, 0) _ rfl (by (with_reducible repeat (first | refine blk_drewN ?_ _ | refine blk_drew ?_ | refine blk_alloc ?_ _)); refine blk_put (cs := #[.int .i64 a1_1, .int .i64 a1_0, .int .i64 0]) ?_ 2 _ rfl; (with_reducible repeat (first | refine blk_drewN ?_ _ | refine blk_drew ?_ | refine blk_alloc ?_ _)); refine blk_put (cs := #[.int .i64 a1_1, .int .i64 0, .int .i64 0]) ?_ 1 _ rfl; (with_reducible repeat (first | refine blk_drewN ?_ _ | refine blk_drew ?_ | refine blk_alloc ?_ _)); refine blk_put (cs := #[.int .i64 0, .int .i64 0, .int .i64 0]) ?_ 0 _ rfl; (with_reducible repeat (first | refine blk_drewN ?_ _ | refine blk_drew ?_ | refine blk_alloc ?_ _)); exact BK124.out) Tryz.underlying38 rfl (by kernel_rfl)) rfl ?_
      exact ⟨by first | rfl | (simp [errW_none, errW_some] <;> rfl) | (simp [*, errW_none, errW_some] <;> rfl), by repeat (first | (with_reducible first | exact HB.out | apply below_alloc | apply pw_below_drewN | apply below_drew1 | refine below_set ?_ GE123.out | refine below_set ?_ GE124.out) | exact HB.out)⟩
    · rw [if_neg c9] at H
      have c9b0 : decide (a1_1 < a1_0) = false := decide_eq_false c9
      clear c9
      simp only [Option.some.injEq, Prod.mk.injEq] at H
      obtain ⟨rfl, rfl, rfl⟩ := H
      go_enter Tryz.func111, Tryz.ntmps111
      go_wp2_with (first | ((with_reducible refine gate_dst (N := 3) rfl ?_); refine box_event ?hg (N := 3) ?hd (cs := #[.int .i64 a1_0, .int .i64 a1_1, .int .i64 a1_2]) (t := 38) ?hr ?_; (case hd => rfl); (case hg => rfl); (case hr => first | (go_simp; done) | (go_simp; rfl)); intro gb123 hg w15 hbox hb; have n0_ := Aside0.mk (below_step (by repeat (first | (with_reducible first | exact HB.out | apply below_alloc | apply pw_below_drewN | apply below_drew1) | exact HB.out)) hb); have n1_ := Aside0.mk (hbox); have n2_ := Aside0.mk ((by rw [hg]; exact (below_size (by repeat (first | (with_reducible first | exact HB.out | apply below_alloc | apply pw_below_drewN | apply below_drew1) | exact HB.out))) : w.heap.size ≤ gb123)); have n3_ := Aside0.mk ((by rw [hg]; exact (below_size (by repeat (first | (with_reducible first | exact HB.out | apply below_alloc | apply pw_below_drewN | apply below_drew1) | exact HB.out))) : w.heap.size ≤ gb123)); clear HB; have HB := n0_; have BK123 := n1_; have GW123 := n2_; have GE123 := n3_; clear n0_ n1_ n2_ n3_; clear hb hbox hg) | ((with_reducible refine gate_dst (N := 4) rfl ?_); refine box_event ?hg (N := 4) ?hd (cs := #[.int .i64 0, .int .i64 0, .int .i64 0]) (t := 38) ?hr ?_; (case hd => rfl); (case hg => rfl); (case hr => first | (go_simp; done) | (go_simp; rfl)); intro gb124 hg w16 hbox hb; have n0_ := Aside0.mk (blk_below (g := gb123) (o := .cells #[.int .i64 a1_0, .int .i64 a1_1, .int .i64 a1_2] 38 (0, 0)) (by (with_reducible repeat (first | refine blk_drewN ?_ _ | refine blk_drew ?_ | refine blk_alloc ?_ _)); exact BK123.out) hb); have n1_ := Aside0.mk (below_step (by repeat (first | (with_reducible first | exact HB.out | apply below_alloc | apply pw_below_drewN | apply below_drew1 | refine below_set ?_ GE123.out) | exact HB.out)) hb); have n2_ := Aside0.mk (hbox); have n3_ := Aside0.mk ((by rw [hg]; exact (below_size (by repeat (first | (with_reducible first | exact HB.out | apply below_alloc | apply pw_below_drewN | apply below_drew1 | refine below_set ?_ GE123.out) | exact HB.out))) : w.heap.size ≤ gb124)); have n4_ := Aside0.mk ((by rw [hg]; exact (below_size (by repeat (first | (with_reducible first | exact HB.out | apply below_alloc | apply pw_below_drewN | apply below_drew1 | refine below_set ?_ GE123.out) | exact HB.out))) : w.heap.size ≤ gb124)); have n5_ := Aside0.mk ((by rw [hg]; exact Nat.ne_of_lt (blk_lt (g := gb123) (o := .cells #[.int .i64 a1_0, .int .i64 a1_1, .int .i64 a1_2] 38 (0, 0)) (by (with_reducible repeat (first | refine blk_drewN ?_ _ | refine blk_drew ?_ | refine blk_alloc ?_ _)); exact BK123.out)) : gb123 ≠ gb124)); have n6_ := Aside0.mk ((by rw [hg]; exact Nat.ne_of_gt (blk_lt (g := gb123) (o := .cells #[.int .i64 a1_0, .int .i64 a1_1, .int .i64 a1_2] 38 (0, 0)) (by (with_reducible repeat (first | refine blk_drewN ?_ _ | refine blk_drew ?_ | refine blk_alloc ?_ _)); exact BK123.out)) : gb124 ≠ gb123)); clear BK123; clear HB; have BK123 := n0_; have HB := n1_; have BK124 := n2_; have GW124 := n3_; have GE124 := n4_; have NB123_124 := n5_; have NB124_123 := n6_; clear n0_ n1_ n2_ n3_ n4_ n5_ n6_; clear hb hbox hg; have hnb17 := NB123_124.out; have hnc17 := NB124_123.out; have hcz18_0 : w16.cell? ⟨gb123, 0, none⟩ = some (.int .i64 a1_0) := (blk_cell BK123.out 0).trans rfl; have hcz18_1 : w16.cell? ⟨gb123, 1, none⟩ = some (.int .i64 a1_1) := (blk_cell BK123.out 1).trans rfl; have hcz18_2 : w16.cell? ⟨gb123, 2, none⟩ = some (.int .i64 a1_2) := (blk_cell BK123.out 2).trans rfl; have hfz18_0 := blk_frozen BK123.out 0; have hfz18_1 := blk_frozen BK123.out 1; have hfz18_2 := blk_frozen BK123.out 2; have hcz19_0 : w16.cell? ⟨gb124, 0, none⟩ = some (.int .i64 0) := (blk_cell BK124.out 0).trans rfl; have hcz19_1 : w16.cell? ⟨gb124, 1, none⟩ = some (.int .i64 0) := (blk_cell BK124.out 1).trans rfl; have hcz19_2 : w16.cell? ⟨gb124, 2, none⟩ = some (.int .i64 0) := (blk_cell BK124.out 2).trans rfl; have hfz19_0 := blk_frozen BK124.out 0; have hfz19_1 := blk_frozen BK124.out 1; have hfz19_2 := blk_frozen BK124.out 2))
      refine bodyPost_ret (results_cell_row rfl _ _ gb124 38 #[.int .i64 a1_0, .int .i64 a1_1, .int .i64 a1_2] (0, 0) _ rfl (by (with_reducible repeat (first | refine blk_drewN ?_ _ | refine blk_drew ?_ | refine blk_alloc ?_ _)); refine blk_put (cs := #[.int .i64 a1_0, .int .i64 a1_1, .int .i64 0]) ?_ 2 _ rfl; (with_reducible repeat (first | refine blk_drewN ?_ _ | refine blk_drew ?_ | refine blk_alloc ?_ _)); refine blk_put (cs := #[.int .i64 a1_0, .int .i64 0, .int .i64 0]) ?_ 1 _ rfl; (with_reducible repeat (first | refine blk_drewN ?_ _ | refine blk_drew ?_ | refine blk_alloc ?_ _)); refine blk_put (cs := #[.int .i64 0, .int .i64 0, .int .i64 0]) ?_ 0 _ rfl; (with_reducible repeat (first | refine blk_drewN ?_ _ | refine blk_drew ?_ | refine blk_alloc ?_ _)); exact BK124.out) Tryz.underlying38 rfl (by kernel_rfl)) rfl ?_
      exact ⟨by first | rfl | (simp [errW_none, errW_some] <;> rfl) | (simp [*, errW_none, errW_some] <;> rfl), by repeat (first | (with_reducible first | exact HB.out | apply below_alloc | apply pw_below_drewN | apply below_drew1 | refine below_set ?_ GE123.out | refine below_set ?_ GE124.out) | exact HB.out)⟩


end Go.Proofs.YtfkmpnpliadohaaGreat.PL

set_option linter.unusedVariables false
set_option linter.unusedSimpArgs false
/- What free makes: whether an edge may be gone. -/
namespace Go.Proofs.YtfkmpnpliadohaaGreat.R
open Go.RowKit Go.Lab Go.Maps Go.Proofs.YtfkmpnpliadohaaGreatW.PrintWords Go.Proofs.YtfkmpnpliadohaaGreatW.PrintLast Go.Proofs.YtfkmpnpliadohaaGreatW.PrintMore PL

theorem below_cellOf {w w' : World} {a : Addr} {v : Value} (h : Below w.heap.size w w') (hc : w.cell? a = some v) : w'.cell? a = some v := by
  rw [h.cell (World.block_lt_of_cell? w a hc)]; exact hc
theorem blk_keep {W w1 : World} {b : Nat} {o : Obj} (h : Below W.heap.size W w1) (hb : W.heap[b]? = some o) : w1.heap[b]? = some o := (h.block b (blk_lt hb)).trans hb
theorem blk_new1 {W w1 : World} {cs : Array Value} {t : TypeId} (h : Below (W.alloc (.cells cs t)).heap.size (W.alloc (.cells cs t)) w1) : w1.heap[W.heap.size]? = some (.cells cs t (0, 0)) := blk_keep h (heap_alloc_new _ _)
theorem blk_new2 {W w1 : World} {cs : Array Value} {t : TypeId} (h : Below (W.alloc (.cells cs t)).drew.heap.size (W.alloc (.cells cs t)).drew w1) : w1.heap[W.heap.size]? = some (.cells cs t (0, 0)) := blk_keep h (heap_alloc_new W _)
theorem blk_three {W : World} {b : Nat} {x y z : Value} {t : TypeId} (h : W.heap[b]? = some (.cells #[x, y, z] t (0, 0))) : W.cell? ⟨b, 0, none⟩ = some x ∧ W.cell? ⟨b, 1, none⟩ = some y ∧ W.cell? ⟨b, 2, none⟩ = some z ∧ W.frozen? ⟨b, 0, none⟩ = false ∧ W.frozen? ⟨b, 1, none⟩ = false ∧ W.frozen? ⟨b, 2, none⟩ = false :=
  ⟨(blk_cell h 0).trans rfl, (blk_cell h 1).trans rfl, (blk_cell h 2).trans rfl, blk_frozen h 0, blk_frozen h 1, blk_frozen h 2⟩
/-- an edge in its order -/
def ordE (d : Bool) (a b : Int) : Int × Int := if d = true then (a, b) else if a > b then (b, a) else (a, b)
theorem ordered_any (d : Bool) (a b c : Int) (w : World) :
    Calls Tryz.prog 111 #[.bool d, .agg #[.int .i64 a, .int .i64 b, .int .i64 c]] w fun e w' => e = .returned (.agg #[.int .i64 (ordE d a b).1, .int .i64 (ordE d a b).2, .int .i64 c]) ∧ Below w.heap.size w w' :=
  impl_ordered.calls d a b c _ _ _ w (by unfold impl_ordered.f ordE; split; rfl; split <;> rfl)
theorem beq_dec (a b c e : Int) : (a == b && (c == e && ((0 : Int) == 0))) = (decide (a = b) && decide (c = e)) := by
  by_cases h : a = b <;> by_cases g : c = e <;> simp [h, g]
/-- whether an edge may be gone -/
def freeB (d : Bool) (bs : List S38) (u v : Int) : Bool := !bs.any fun b => decide ((ordE d u v).1 = (ordE d b.f0 b.f1).1) && decide ((ordE d u v).2 = (ordE d b.f0 b.f1).2)

theorem meth_WFrom (u v : Int) (x : Nat) (w : World) : (method 487 353 (.agg #[.iface 118 (.int .i64 u), .iface 118 (.int .i64 v), .float .f64 x]) "From").run Tryz.prog w = .ok (352, .agg #[.iface 118 (.int .i64 u), .iface 118 (.int .i64 v), .float .f64 x]) w := by kernel_rfl
theorem meth_WTo (u v : Int) (x : Nat) (w : World) : (method 487 353 (.agg #[.iface 118 (.int .i64 u), .iface 118 (.int .i64 v), .float .f64 x]) "To").run Tryz.prog w = .ok (354, .agg #[.iface 118 (.int .i64 u), .iface 118 (.int .i64 v), .float .f64 x]) w := by kernel_rfl

set_option maxHeartbeats 8000000 in
set_option maxRecDepth 100000 in
theorem free1_any (d : Bool) (g1 g2 : Nat) (A : Option Addr) (c : Nat) (bs : List S38) (u v : Int) (x : Nat) (w : World) (h1 : w.cell? ⟨g1, 0, none⟩ = some (.bool d)) (h2 : w.cell? ⟨g2, 0, none⟩ = some (.slice A bs.length c)) (hC : Kd.C k38 w A bs.length bs) (hn : bs.length ≤ 100000) :
    Calls Tryz.prog 110 #[eV u v x, .pointer (some ⟨g1, 0, none⟩), .pointer (some ⟨g2, 0, none⟩)] w fun e w' => e = .returned (.bool (freeB d bs u v)) ∧ Below w.heap.size w w' := by
  have HC := Aside0.mk hC
  have m1 := meth_WFrom u v x
  have m2 := meth_WTo u v x
  have hg1 := World.block_lt_of_cell? w ⟨g1, 0, none⟩ h1
  have hg2 := World.block_lt_of_cell? w ⟨g2, 0, none⟩ h2
  have H1 := Aside0.mk (And.intro h1 hg1)
  have H2 := Aside0.mk (And.intro h2 hg2)
  have HQ := Aside0.mk (show freeB d bs u v = freeB d bs u v from rfl)
  clear hC hg1 hg2
  unfold eV
  go_enter Tryz.func110, Tryz.ntmps110
  go_upto_region 1 with fail
  go_cut [5] from 9 (fun v5 w' => ∃ bx : Nat, v5 = .pointer (some ⟨bx, 0, none⟩) ∧ Aside0 (w.heap.size ≤ bx ∧ w'.heap[bx]? = some (.cells #[.int .i64 (ordE d u v).1, .int .i64 (ordE d u v).2, .int .i64 0] 38 (0, 0)) ∧ Below w.heap.size w w'))
  case first =>
    go_region_held3 (fun w' => w'.cell? ⟨g1, 0, none⟩ = some (.bool d))
      (first | exact below_cellOf hbel (by assumption) | (refine below_cellOf (w := w) ?_ H1.out.1; repeat (first | exact Below.refl _ _ | assumption | apply below_drew1 | apply below_alloc | apply pw_below_drewN | refine below_set ?_ (below_size ?_) | refine below_step ?_ (by assumption))) | go_keep)
      (first
        | (go_at_call 352; refine (weFrom_any u v x _).mono ?_; rintro e w1 ⟨rfl, hbel⟩; first | (have fb := blk_keep hbel (by assumption); obtain ⟨f0, f1, f2, f3, f4, f5⟩ := blk_three fb) | (have fb := blk_new1 hbel; obtain ⟨f0, f1, f2, f3, f4, f5⟩ := blk_three fb) | (have fb := blk_new2 hbel; obtain ⟨f0, f1, f2, f3, f4, f5⟩ := blk_three fb) | skip)
        | (go_at_call 354; refine (weTo_any u v x _).mono ?_; rintro e w1 ⟨rfl, hbel⟩; first | (have fb := blk_keep hbel (by assumption); obtain ⟨f0, f1, f2, f3, f4, f5⟩ := blk_three fb) | (have fb := blk_new1 hbel; obtain ⟨f0, f1, f2, f3, f4, f5⟩ := blk_three fb) | (have fb := blk_new2 hbel; obtain ⟨f0, f1, f2, f3, f4, f5⟩ := blk_three fb) | skip)
        | (go_at_call 66; refine (number_any _ _).mono ?_; rintro e w1 ⟨rfl, rfl⟩)
        | (go_at_call 111; refine (ordered_any d u v 0 _).mono ?_; rintro e w1 ⟨rfl, hbel⟩; first | (have fb := blk_keep hbel (by assumption); obtain ⟨f0, f1, f2, f3, f4, f5⟩ := blk_three fb) | (have fb := blk_new1 hbel; obtain ⟨f0, f1, f2, f3, f4, f5⟩ := blk_three fb) | (have fb := blk_new2 hbel; obtain ⟨f0, f1, f2, f3, f4, f5⟩ := blk_three fb) | skip))
    all_goals
      go_wp2
      go_meet
      case rel =>
        refine ⟨_, rfl, ⟨below_size ?_, ?_, ?_⟩⟩
        · repeat (first | exact Below.refl _ _ | assumption | apply below_drew1 | apply below_alloc | apply pw_below_drewN | refine below_set ?_ (below_size ?_) | refine below_step ?_ (by assumption))
        · (with_reducible repeat (first | refine blk_drewN ?_ _ | refine blk_drew ?_))
          first
            | exact heap_alloc_new _ _
            | (refine blk_put (cs := #[.int .i64 (ordE d u v).1, .int .i64 (ordE d u v).2, .int .i64 0]) ?_ 2 _ rfl; refine blk_put (cs := #[.int .i64 (ordE d u v).1, .int .i64 0, .int .i64 0]) ?_ 1 _ rfl; refine blk_put (cs := #[.int .i64 0, .int .i64 0, .int .i64 0]) ?_ 0 _ rfl; exact fb)
        · repeat (first | exact Below.refl _ _ | assumption | apply below_drew1 | apply below_alloc | apply pw_below_drewN | refine below_set ?_ (below_size ?_) | refine below_step ?_ (by assumption))
  case rest =>
    obtain ⟨bx, rfl, HX⟩ := hcut
    have hg2 := below_cellOf (HX.out.2.2.mono (Nat.le_refl _)) H2.out.1
    have hg1 := below_cellOf (HX.out.2.2.mono (Nat.le_refl _)) H1.out.1
    clear h1 h2 m1 m2
    go_wp2
    go_loopw [20] (fun i wr => ∃ k : Nat, k ≤ bs.length ∧ i = .int .i64 k ∧ Aside0 (((bs.take k).any fun b => decide ((ordE d u v).1 = (ordE d b.f0 b.f1).1) && decide ((ordE d u v).2 = (ordE d b.f0 b.f1).2)) = false ∧ w.heap.size ≤ bx ∧ wr.heap[bx]? = some (.cells #[.int .i64 (ordE d u v).1, .int .i64 (ordE d u v).2, .int .i64 0] 38 (0, 0)) ∧ Below w.heap.size w wr)) (fun i _ => bs.length - (intOf i).toNat)
    case atStart => exact ⟨0, Nat.zero_le _, rfl, ⟨rfl, HX.out⟩⟩
    case round =>
      obtain ⟨k, hk, rfl, HR⟩ := hrel
      by_cases hlt : k < bs.length
      · obtain ⟨ad, rfl, hc0, hc1, hc2⟩ := at_T38 (Kd.C_below HC.out HR.out.2.2.2) (k : Int) (by omega) (by omega)
        rw [Int.toNat_natCast] at hc0 hc1 hc2
        have hrd : rd_T38 bs (k : Int) = bs[k] := by unfold rd_T38; simp [List.getD_eq_getElem?_getD, hlt]
        have HTS := Aside0.mk (show bs.take (k + 1) = bs.take k ++ [rd_T38 bs (k : Int)] by rw [hrd]; exact List.take_succ_eq_append_getElem hlt)
        have HMEM := Aside0.mk (show rd_T38 bs (k : Int) ∈ bs by rw [hrd]; exact List.getElem_mem _)
        clear hrd
        generalize rd_T38 bs (k : Int) = b at hc0 hc1 hc2 HTS HMEM
        have hd1 := below_cellOf (HR.out.2.2.2.mono (Nat.le_refl _)) H1.out.1
        obtain ⟨r, hr⟩ : ∃ r, ((ordE d u v).1 == (ordE d b.f0 b.f1).1 && ((ordE d u v).2 == (ordE d b.f0 b.f1).2 && ((0 : Int) == 0))) = r := ⟨_, rfl⟩
        have heq := fun (dd : Nat) (W : World) => eqA38 dd W (ordE d u v).1 (ordE d b.f0 b.f1).1 (ordE d u v).2 (ordE d b.f0 b.f1).2 0 0
        rw [hr] at heq
        have HRR := Aside0.mk hr
        clear hr
        generalize hO : ordE d u v = O at *
        generalize hB : ordE d b.f0 b.f1 = B at *
        have hbx := HR.out.2.2.1
        have hbxl := blk_lt hbx
        obtain ⟨x0, x1, x2, _, _, _⟩ := blk_three hbx
        have hd2 : (wr.alloc (.cells #[.int .i64 b.f0, .int .i64 b.f1, .int .i64 b.f2] 38)).cell? ⟨g1, 0, none⟩ = some (.bool d) := Lib.cell?_alloc_some _ hd1
        cases r
        · have HNE := Aside0.mk (show (decide (O.1 = B.1) && decide (O.2 = B.2)) = false by
            rw [← beq_dec]; exact HRR.out)
          go_wp2_with (go_at_call 111; refine (ordered_any d b.f0 b.f1 0 _).mono ?_; rintro e w1 ⟨rfl, hbel⟩; rw [hB]; have fbx : w1.heap[bx]? = some (.cells #[.int .i64 O.1, .int .i64 O.2, .int .i64 0] 38 (0, 0)) := blk_keep hbel (by (with_reducible repeat (first | refine blk_drewN ?_ _ | refine blk_drew ?_ | refine blk_alloc ?_ _)); exact hbx); obtain ⟨y0, y1, y2, _, _, _⟩ := blk_three (show (w1.alloc (.cells #[.int .i64 B.1, .int .i64 B.2, .int .i64 0] 38)).heap[bx]? = some (.cells #[.int .i64 O.1, .int .i64 O.2, .int .i64 0] 38 (0, 0)) from blk_alloc fbx _))
          go_roundw
          case rel =>
            refine ⟨k + 1, by omega, by go_num, ⟨?_, HR.out.2.1, ?_, ?_⟩⟩
            · rw [HTS.out, List.any_append, HR.out.1, List.any_cons, List.any_nil, hB, HNE.out]; rfl
            · (with_reducible repeat (first | refine blk_drewN ?_ _ | refine blk_drew ?_ | refine blk_alloc ?_ _)); exact fbx
            · repeat (first | exact HR.out.2.2.2 | exact Below.refl _ _ | apply below_drew1 | apply below_alloc | apply pw_below_drewN | refine below_step ?_ (by assumption))
          case measure => simp [intOf]; omega
        · have HEQ := Aside0.mk (show freeB d bs u v = false by
            have h1 := HRR.out
            rw [beq_dec] at h1
            have h2 : (bs.any fun b => decide ((ordE d u v).1 = (ordE d b.f0 b.f1).1) && decide ((ordE d u v).2 = (ordE d b.f0 b.f1).2)) = true := List.any_eq_true.2 ⟨b, HMEM.out, by rw [hO, hB]; exact h1⟩
            unfold freeB
            rw [h2]; rfl)
          go_wp2_with (go_at_call 111; refine (ordered_any d b.f0 b.f1 0 _).mono ?_; rintro e w1 ⟨rfl, hbel⟩; rw [hB]; have fbx : w1.heap[bx]? = some (.cells #[.int .i64 O.1, .int .i64 O.2, .int .i64 0] 38 (0, 0)) := blk_keep hbel (by (with_reducible repeat (first | refine blk_drewN ?_ _ | refine blk_drew ?_ | refine blk_alloc ?_ _)); exact hbx); obtain ⟨y0, y1, y2, _, _, _⟩ := blk_three (show (w1.alloc (.cells #[.int .i64 B.1, .int .i64 B.2, .int .i64 0] 38)).heap[bx]? = some (.cells #[.int .i64 O.1, .int .i64 O.2, .int .i64 0] 38 (0, 0)) from blk_alloc fbx _))
          go_ret
          refine ⟨by rw [HEQ.out]; rfl, ?_⟩
          repeat (first | exact HR.out.2.2.2 | exact Below.refl _ _ | apply below_drew1 | apply below_alloc | apply pw_below_drewN | refine below_step ?_ (by assumption))
      · have hk' : k = bs.length := by omega
        have HF := Aside0.mk (show freeB d bs u v = true by
          have := HR.out.1
          rw [hk', List.take_length] at this
          unfold freeB
          rw [this]; rfl)
        go_wp2
        go_ret
        exact ⟨by rw [HF.out]; rfl, HR.out.2.2.2⟩
end Go.Proofs.YtfkmpnpliadohaaGreat.R
