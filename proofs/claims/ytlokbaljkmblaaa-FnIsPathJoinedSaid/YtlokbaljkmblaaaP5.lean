import Derived.Test.YtlokbaljkmblaaaP4
namespace Go.Proofs.Ytlokbaljkmblaaa
open Go.RowKit Go.Lab Go.Proofs.YtlokbaljkmblaaaW.PrintWords Go.Proofs.YtlokbaljkmblaaaW.PrintLast Go.Proofs.YtlokbaljkmblaaaW.PrintMore PFnIsPathJoined

/-- the ways through well's test of an edge -/
theorem well_ways (zs : List Int) (e : S42) :
    (goodE zs e = true ∧ ((e.f0 == e.f1) = false ∧ decide (e.f0 ∈ zs) = true ∧ decide (e.f1 ∈ zs) = true ∧ decide (1099511627776 < e.f2) = false ∧ decide (e.f2 < -1099511627776) = false)) ∨
    (goodE zs e = false ∧ ((e.f0 == e.f1) = true ∨
      ((e.f0 == e.f1) = false ∧ decide (e.f0 ∈ zs) = false) ∨
      ((e.f0 == e.f1) = false ∧ decide (e.f0 ∈ zs) = true ∧ decide (e.f1 ∈ zs) = false) ∨
      ((e.f0 == e.f1) = false ∧ decide (e.f0 ∈ zs) = true ∧ decide (e.f1 ∈ zs) = true ∧ decide (1099511627776 < e.f2) = true) ∨
      ((e.f0 == e.f1) = false ∧ decide (e.f0 ∈ zs) = true ∧ decide (e.f1 ∈ zs) = true ∧ decide (1099511627776 < e.f2) = false ∧ decide (e.f2 < -1099511627776) = true))) := by
  have h5 : decide (e.f0 = e.f1) = (e.f0 == e.f1) := by by_cases h : e.f0 = e.f1 <;> simp [h]
  unfold goodE
  rw [h5]
  generalize decide (e.f0 ∈ zs) = x0
  generalize decide (e.f1 ∈ zs) = x1
  generalize decide (1099511627776 < e.f2) = x3
  generalize decide (e.f2 < -1099511627776) = x4
  generalize (e.f0 == e.f1) = x5
  cases x0 <;> cases x1 <;> cases x3 <;> cases x4 <;> cases x5 <;> simp

structure Wl (w wr : World) (d : Bool) (s1 s2 : Value) (zs : List Int) (es : List S42) : Prop where
  bel : Below w.heap.size w wr
  g : wr.heap[w.heap.size]? = some (.cells #[.bool d, s1, s2] 25 (0, 0))
  all : es.all (goodE zs) = true

set_option maxHeartbeats 8000000 in
set_option maxRecDepth 100000 in
theorem well_any (d : Bool) (A1 A2 : Option Addr) (c1 c2 : Nat) (zs : List Int) (es : List S42) (w : World)
    (hN : Kd.C (Kd.int .i64) w A1 zs.length zs) (hE : Kd.C k42 w A2 es.length es) (hn : zs.length ≤ 1000) (hcn : zs.length ≤ c1) (he : es.length ≤ 1000000) :
    Calls Try.prog 8 #[.agg #[.bool d, .slice A1 zs.length c1, .slice A2 es.length c2]] w fun e w' => e = .returned (.bool (readOk zs es)) ∧ Below w.heap.size w w' := by
  have hb1 : Below w.heap.size w (w.alloc (.cells #[.bool d, .slice A1 zs.length c1, .slice A2 es.length c2] 25)) := (Below.refl _ _).alloc (Nat.le_refl _) _
  have HN := Aside0.mk hN
  have HE := Aside0.mk hE
  have HN1 := Aside0.mk (Kd.C_below hN hb1)
  have HB1 := Aside0.mk hb1
  have hsl := srt_length zs
  have HSL := Aside0.mk hsl
  clear hN hE hb1 hsl
  go_enter Try.func8, Try.ntmps8
  go_wp2_with fail
  refine (sorted_any A1 c1 zs _ HN1.out hn).mono ?_
  rintro e w1 ⟨v, rfl, hown, hbel⟩
  obtain ⟨V, C, hv, hrd⟩ := own_reads (by rw [← HSL.out] at hown; exact hown)
  have hC := Kd.C_of_reads (h1 := fun _ => rfl) hrd
  have hlc : (srt zs).length ≤ C := by
    rcases hown.2 with ⟨h1, h2⟩ | ⟨g', cap', cur, hv', _, _, h1, _⟩
    · rw [HSL.out, h2]; exact Nat.zero_le _
    · rw [hv'] at hv; injection hv with e1 e2 e3; rw [HSL.out]; omega
  subst hv
  have HC := Aside0.mk hC
  have HG := Aside0.mk (keep_box hbel)
  have HB2 := Aside0.mk (HB1.out.trans (hbel.mono (by simp)))
  clear hown hbel hrd hC
  go_wp2_with fail
  refine (rising_any V C (srt zs) _ HC.out hlc (by rw [HSL.out]; omega)).mono ?_
  rintro e w2 ⟨rfl, ⟨nd, rfl⟩⟩
  have hb3 : Below w1.heap.size w1 (w1.drewN nd) := ⟨rfl, rfl, rfl, Nat.le_refl _, fun _ _ => rfl⟩
  have HB3 := Aside0.mk (HB2.out.trans (hb3.mono HB2.out.size))
  have HG3 := Aside0.mk ((hb3.block _ (blk_lt HG.out)).trans HG.out)
  clear hb3
  generalize w1.drewN nd = w3 at HB3 HG3 ⊢
  by_cases hnd : (srt zs).Pairwise (· < ·)
  · have hd : decide ((srt zs).Pairwise (· < ·)) = true := decide_eq_true hnd
    have HND := Aside0.mk hnd
    clear hnd
    have hg2 : w3.cell? ⟨w.heap.size, 2, none⟩ = some (.slice A2 es.length c2) := by rw [blk_cell HG3.out]; rfl
    rw [hd]
    go_wp2
    go_loopw [3] (fun i wr => ∃ k : Nat, k ≤ es.length ∧ i = .int .i64 k ∧ Aside0 (Wl w wr d (.slice A1 zs.length c1) (.slice A2 es.length c2) zs (es.take k))) (fun i _ => es.length - (intOf i).toNat)
    case atStart => exact ⟨0, Nat.zero_le _, rfl, ⟨⟨HB3.out, HG3.out, rfl⟩⟩⟩
    case round =>
      clear hg2
      obtain ⟨k, hk, rfl, hQ⟩ := hrel
      have hg1 : wr.cell? ⟨w.heap.size, 1, none⟩ = some (.slice A1 zs.length c1) := by rw [blk_cell hQ.out.g]; rfl
      have hg2 : wr.cell? ⟨w.heap.size, 2, none⟩ = some (.slice A2 es.length c2) := by rw [blk_cell hQ.out.g]; rfl
      have hbz := blk_lt hQ.out.g
      by_cases hlt : k < es.length
      · obtain ⟨ad, rfl, hc0, hc1, hc2⟩ := at_T42 (Kd.C_below HE.out hQ.out.bel) (k : Int) (by omega) (by omega)
        rw [Int.toNat_natCast] at hc0 hc1 hc2
        have hrd : rd_T42 es (k : Int) = es[k] := by unfold rd_T42; simp [List.getD_eq_getElem?_getD, hlt]
        have hts : es.take (k + 1) = es.take k ++ [rd_T42 es (k : Int)] := by rw [hrd]; exact List.take_succ_eq_append_getElem hlt
        have hal : es.all (goodE zs) = true → goodE zs (rd_T42 es (k : Int)) = true := fun h => by rw [hrd]; exact (List.all_eq_true.1 h) _ (List.getElem_mem _)
        have HTS := Aside0.mk hts
        have HAL := Aside0.mk hal
        clear hrd hts hal
        generalize rd_T42 es (k : Int) = e at hc0 hc1 hc2 HTS HAL
        have hw8 : Below wr.heap.size wr (wr.alloc (.cells #[.int .i64 e.f0, .int .i64 e.f1, .int .i64 e.f2] 42)) := (Below.refl _ _).alloc (Nat.le_refl _) _
        have HN8 := Aside0.mk (Kd.C_below (Kd.C_below HN.out hQ.out.bel) hw8)
        have HB8 := Aside0.mk (hQ.out.bel.trans (hw8.mono hQ.out.bel.size))
        have HG8 := Aside0.mk ((hw8.block _ hbz).trans hQ.out.g)
        clear hw8
        rcases well_ways zs e with ⟨hgo, m0, m1, m2, m3, m4⟩ | ⟨hbad, hways⟩
        · have HGO := Aside0.mk hgo
          clear hgo
          go_wp2_with (go_at_call 14; refine (has_any A1 c1 zs _ _ (by exact Kd.C_below HN8.out ⟨rfl, rfl, rfl, Nat.le_refl _, fun _ _ => rfl⟩) hcn (by omega)).mono ?_; rintro e' w' ⟨rfl, ⟨nd, rfl⟩⟩)
          go_roundw
          case rel => exact ⟨k + 1, by omega, by go_num, ⟨⟨⟨HB8.out.os, HB8.out.tape, HB8.out.output, HB8.out.size, HB8.out.block⟩, HG8.out, by rw [HTS.out, List.all_append, hQ.out.all]; simp [HGO.out]⟩⟩⟩
          case measure => simp [intOf]; omega
        · have hro : readOk zs es = false := by
            cases h : readOk zs es with
            | false => rfl
            | true =>
              unfold readOk at h
              rw [Bool.and_eq_true] at h
              have := HAL.out h.2
              rw [hbad] at this; cases this
          have HRO := Aside0.mk hro
          clear hro hbad
          rcases hways with m0 | ⟨m0, m1⟩ | ⟨m0, m1, m2⟩ | ⟨m0, m1, m2, m3⟩ | ⟨m0, m1, m2, m3, m4⟩
          all_goals
            go_wp2_with (go_at_call 14; refine (has_any A1 c1 zs _ _ (by exact Kd.C_below HN8.out ⟨rfl, rfl, rfl, Nat.le_refl _, fun _ _ => rfl⟩) hcn (by omega)).mono ?_; rintro e' w' ⟨rfl, ⟨nd, rfl⟩⟩)
            go_ret
            exact ⟨by rw [HRO.out]; rfl, ⟨HB8.out.os, HB8.out.tape, HB8.out.output, HB8.out.size, HB8.out.block⟩⟩
      · have hk' : k = es.length := by omega
        have hts : es.take k = es := by rw [hk', List.take_length]
        have h1 := hQ.out
        rw [hts] at h1
        have hro : readOk zs es = true := by unfold readOk; rw [decide_eq_true HND.out, h1.all]; rfl
        have HRO := Aside0.mk hro
        have H1 := Aside0.mk h1
        clear hro h1 hts hQ
        go_wp2
        go_ret
        exact ⟨by rw [HRO.out]; rfl, H1.out.bel⟩
  · have hd : decide ((srt zs).Pairwise (· < ·)) = false := decide_eq_false hnd
    have hro : readOk zs es = false := by unfold readOk; rw [hd]; rfl
    have HRO := Aside0.mk hro
    clear hro hnd
    rw [hd]
    go_wp2
    go_ret
    exact ⟨by rw [HRO.out]; rfl, HB3.out⟩

/-- whether a graph is not too great, and good -/
def fewOk (m : Nat) (zs : List Int) (es : List S42) : Bool := decide (zs.length ≤ m) && decide (es.length ≤ 8 * m) && readOk zs es

set_option maxHeartbeats 2000000 in
set_option maxRecDepth 100000 in
theorem few_any (m : Nat) (hm : m ≤ 1000) (d : Bool) (A1 A2 : Option Addr) (c1 c2 : Nat) (zs : List Int) (es : List S42) (w : World)
    (hN : Kd.C (Kd.int .i64) w A1 zs.length zs) (hE : Kd.C k42 w A2 es.length es) (hcn : zs.length ≤ c1) :
    Calls Try.prog 5 #[.agg #[.bool d, .slice A1 zs.length c1, .slice A2 es.length c2], .int .i64 m] w fun e w' => e = .returned (.bool (fewOk m zs es)) ∧ Below w.heap.size w w' := by
  have hb1 : Below w.heap.size w (w.alloc (.cells #[.bool d, .slice A1 zs.length c1, .slice A2 es.length c2] 25)) := (Below.refl _ _).alloc (Nat.le_refl _) _
  have HN := Aside0.mk (Kd.C_below hN hb1)
  have HE := Aside0.mk (Kd.C_below hE hb1)
  have HB1 := Aside0.mk hb1
  clear hN hE hb1
  by_cases h1 : zs.length ≤ m
  · by_cases h2 : es.length ≤ 8 * m
    · have hf : fewOk m zs es = readOk zs es := by unfold fewOk; rw [decide_eq_true h1, decide_eq_true h2]; rfl
      rw [hf]
      have g1 : (zs.length : Int) ≤ (m : Int) := by omega
      have g2 : (es.length : Int) ≤ 8 * (m : Int) := by omega
      clear hf
      go_enter Try.func5, Try.ntmps5
      go_wp2_with (go_at_call 8; refine (well_any d A1 A2 c1 c2 zs es _ HN.out HE.out (by omega) hcn (by omega)).mono ?_; rintro e w1 ⟨rfl, hbel⟩; have HBEL := Aside0.mk hbel; clear hbel)
      go_ret
      exact ⟨rfl, HB1.out.trans (HBEL.out.mono (by simp))⟩
    · have hf : fewOk m zs es = false := by unfold fewOk; rw [decide_eq_true h1, decide_eq_false h2]; rfl
      rw [hf]
      have g1 : (zs.length : Int) ≤ (m : Int) := by omega
      have g2 : ¬ (es.length : Int) ≤ 8 * (m : Int) := by omega
      clear hf
      go_enter Try.func5, Try.ntmps5
      go_wp2
      go_ret
      exact ⟨rfl, HB1.out⟩
  · have hf : fewOk m zs es = false := by unfold fewOk; rw [decide_eq_false h1]; rfl
    rw [hf]
    have g1 : ¬ (zs.length : Int) ≤ (m : Int) := by omega
    clear hf
    go_enter Try.func5, Try.ntmps5
    go_wp2
    go_ret
    exact ⟨rfl, HB1.out⟩
end Go.Proofs.Ytlokbaljkmblaaa
