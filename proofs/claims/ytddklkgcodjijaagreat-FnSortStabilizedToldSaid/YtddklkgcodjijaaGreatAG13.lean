import Derived.Test.YtddklkgcodjijaaGreatAG12
import Derived.Test.YtddklkgcodjijaaGreatAG10
import Derived.Test.YtddklkgcodjijaaGreatAG8
set_option linter.unusedVariables false
set_option linter.unusedSimpArgs false
/- FnSortStabilizedTold answers true, in plain lists. -/
namespace Go.Proofs.YtddklkgcodjijaaGreat.R
open Go.RowKit Go.Lab Go.Proofs.YtddklkgcodjijaaGreatW.PrintWords PL Q

theorem RchW.same {adj adj' : Int → List Int} (h : ∀ u x, x ∈ adj u ↔ x ∈ adj' u) {a b : Int} : RchW adj a b ↔ RchW adj' a b :=
  ⟨fun hr S h0 hs => hr S h0 fun u hu x hx => hs u hu x ((h u x).1 hx), fun hr S h0 hs => hr S h0 fun u hu x hx => hs u hu x ((h u x).2 hx)⟩

/-- the components as the reference lists them, up to a place -/
structure SInv (adj : Int → List Int) (zs l : List Int) (out : List (List Int)) (done : List Int) (i : Nat) : Prop where
  srt : ∀ c ∈ out, c.Pairwise (· < ·)
  comp : ∀ c ∈ out, ∀ u ∈ c, ∀ y, y ∈ c ↔ RchW adj u y ∧ RchW adj y u
  all : ∀ x ∈ l.take i, x ∈ done
  dn : ∀ x ∈ done, ∃ c ∈ out, x ∈ c
  len : out.length ≤ i
  dl : done.length ≤ i * zs.length
  each : ∀ c ∈ out, c.length ≤ zs.length
structure SGood (adj : Int → List Int) (zs : List Int) (ps : List (List Int)) : Prop where
  ok : PartsOk adj zs ps
  len : ps.length ≤ zs.length
  each : ∀ c ∈ ps, c.length ≤ zs.length

set_option maxHeartbeats 2000000 in
theorem sccS_l1 (zs : List Int) (es : List S95) (hz : zs.length ≤ 300) (he : es.length ≤ 100000) (l : List Int) (out : List (List Int)) (done : List Int) (i : Nat) (hi : i < l.length) (hl : l.length ≤ 300) (ho : out.length ≤ i) (hd : done.length ≤ i * zs.length) (u : Int) (re : List Int) (hre : re.length ≤ zs.length) (hrin : ∀ x ∈ re, x ∈ zs)
    (hnext : ∀ c, c.Sublist re → (∀ x, x ∈ c ↔ x ∈ re ∧ RchW (outN zs es) x u) → ∃ ps, Ev (fun k => spec_SCC.l0 k (out ++ [c]) (done ++ c) l (l.length : Int) ((i + 1 : Nat) : Int) true zs es) ps ∧ SGood (outN zs es) zs ps) :
    ∀ m j, re.length - j ≤ m → j ≤ re.length → ∀ acc : List Int, acc.Sublist (re.take j) → (∀ x, x ∈ acc ↔ x ∈ re.take j ∧ RchW (outN zs es) x u) →
      ∃ ps, Ev (fun k => spec_SCC.l1 k out done u acc l (l.length : Int) (i : Int) re (re.length : Int) (j : Int) true zs es) ps ∧ SGood (outN zs es) zs ps := by
  have stop : ∀ acc : List Int, acc.Sublist re → (∀ x, x ∈ acc ↔ x ∈ re ∧ RchW (outN zs es) x u) → ∃ ps, Ev (fun k => spec_SCC.l1 k out done u acc l (l.length : Int) (i : Int) re (re.length : Int) (re.length : Int) true zs es) ps ∧ SGood (outN zs es) zs ps := by
    intro acc hs hm
    obtain ⟨ps, h1, h2⟩ := hnext acc hs hm
    refine ⟨ps, Ev.step (fun k => ?_) h1, h2⟩
    have hal := hs.length_le
    have hmul : i * zs.length ≤ 300 * 300 := Nat.mul_le_mul (by omega) hz
    have w2 : wrap64 ((i : Int) + 1) = ((i + 1 : Nat) : Int) := by unfold wrap64; omega
    simp only [spec_SCC.l1]
    rw [if_neg (by omega), if_pos (by omega), if_pos (by omega), w2]
  intro m
  induction m with
  | zero =>
    intro j hm hj acc hs hmem
    obtain rfl : j = re.length := by omega
    rw [List.take_length] at hs hmem
    exact stop acc hs hmem
  | succ m ih =>
    intro j hm hj acc hs hmem
    by_cases hlt : j < re.length
    · have k1 : (j : Int) < (re.length : Int) := by omega
      have k0 : (0 : Int) ≤ (j : Int) := by omega
      have km : re.length - (j + 1) ≤ m := by omega
      have kj : j + 1 ≤ re.length := by omega
      have kz : zs.length ≤ 1000 := by omega
      have hbig : acc.length < 17592186044416 := by have hal := hs.length_le; rw [List.length_take] at hal; omega
      have w2 : wrap64 ((j : Int) + 1) = ((j + 1 : Nat) : Int) := by unfold wrap64; omega
      have hr : rd re (j : Int) = re[j] := by unfold rd; rw [Int.toNat_natCast, List.getD_eq_getElem?_getD, List.getElem?_eq_getElem hlt]; rfl
      have hxz : re[j] ∈ zs := hrin _ (List.getElem_mem hlt)
      obtain ⟨b, hb1, hb2⟩ := reachesS_ev zs es re[j] u kz he hxz
      have htk : re.take (j + 1) = re.take j ++ [re[j]] := by rw [List.take_succ_eq_append_getElem hlt]
      cases b with
      | true =>
        have hru := hb2.1 rfl
        obtain ⟨ps, h1, h2⟩ := ih (j + 1) km kj (acc ++ [re[j]]) (by rw [htk]; exact hs.append (List.Sublist.refl _)) (fun x => by
          rw [htk, List.mem_append, List.mem_append, hmem x]
          constructor
          · rintro (⟨a, b⟩ | a)
            · exact ⟨.inl a, b⟩
            · exact ⟨.inr a, by rw [List.mem_singleton.1 a]; exact hru⟩
          · rintro ⟨a | a, b⟩
            · exact .inl ⟨a, b⟩
            · exact .inr a)
        refine ⟨ps, Ev.step (f := fun k => (spec_Reaches.f k true zs es re[j] u).bind fun t193 => (if t193 = true then (if acc.length < 17592186044416 then (spec_SCC.l1 k out done u (acc ++ [re[j]]) l (l.length : Int) (i : Int) re (re.length : Int) (((j + 1 : Nat) : Int)) true zs es) else (none)) else (spec_SCC.l1 k out done u acc l (l.length : Int) (i : Int) re (re.length : Int) (((j + 1 : Nat) : Int)) true zs es))) (fun k => ?_) (Ev.bind hb1 ?_), h2⟩
        · simp only [spec_SCC.l1]
          rw [if_pos k1, if_pos k0, if_pos k1, hr, w2]
        · exact Ev.congr (fun k => (if_pos rfl).trans (if_pos hbig)) h1
      | false =>
        have hru : ¬ RchW (outN zs es) re[j] u := fun h => by have := hb2.2 h; cases this
        obtain ⟨ps, h1, h2⟩ := ih (j + 1) km kj acc (by rw [htk]; exact hs.trans (List.sublist_append_left _ _)) (fun x => by
          rw [htk, List.mem_append, hmem x]
          constructor
          · rintro ⟨a, b⟩
            exact ⟨.inl a, b⟩
          · rintro ⟨a | a, b⟩
            · exact ⟨a, b⟩
            · rw [List.mem_singleton.1 a] at b; exact absurd b hru)
        refine ⟨ps, Ev.step (f := fun k => (spec_Reaches.f k true zs es re[j] u).bind fun t193 => (if t193 = true then (if acc.length < 17592186044416 then (spec_SCC.l1 k out done u (acc ++ [re[j]]) l (l.length : Int) (i : Int) re (re.length : Int) (((j + 1 : Nat) : Int)) true zs es) else (none)) else (spec_SCC.l1 k out done u acc l (l.length : Int) (i : Int) re (re.length : Int) (((j + 1 : Nat) : Int)) true zs es))) (fun k => ?_) (Ev.bind hb1 ?_), h2⟩
        · simp only [spec_SCC.l1]
          rw [if_pos k1, if_pos k0, if_pos k1, hr, w2]
        · exact Ev.congr (fun k => if_neg (by simp)) h1
    · obtain rfl : j = re.length := by omega
      rw [List.take_length] at hs hmem
      exact stop acc hs hmem

set_option maxHeartbeats 2000000 in
theorem sccS_l0 (zs : List Int) (es : List S95) (hz : zs.length ≤ 300) (he : es.length ≤ 100000) (l : List Int) (hl : l.length ≤ zs.length) (hlm : ∀ x, x ∈ l ↔ x ∈ zs) : ∀ m i out done, l.length - i ≤ m → i ≤ l.length → SInv (outN zs es) zs l out done i →
    ∃ ps, Ev (fun k => spec_SCC.l0 k out done l (l.length : Int) (i : Int) true zs es) ps ∧ SGood (outN zs es) zs ps := by
  have stop : ∀ out done, SInv (outN zs es) zs l out done l.length → ∃ ps, Ev (fun k => spec_SCC.l0 k out done l (l.length : Int) (l.length : Int) true zs es) ps ∧ SGood (outN zs es) zs ps := by
    intro out done h
    refine ⟨out, Ev.step (fun k => ?_) (Ev.now _), ⟨h.srt, h.comp, fun u hu => ?_⟩, by have := h.len; omega, h.each⟩
    · simp only [spec_SCC.l0]
      rw [if_neg (by omega)]
    · exact h.dn u (h.all u (by rw [List.take_length]; exact (hlm u).2 hu))
  intro m
  induction m with
  | zero =>
    intro i out done hm hi h
    obtain rfl : i = l.length := by omega
    exact stop out done h
  | succ m ih =>
    intro i out done hm hi h
    by_cases hlt : i < l.length
    · have k1 : (i : Int) < (l.length : Int) := by omega
      have k0 : (0 : Int) ≤ (i : Int) := by omega
      have km : l.length - (i + 1) ≤ m := by omega
      have kj : i + 1 ≤ l.length := by omega
      have kz : zs.length ≤ 1000 := by omega
      have kl : l.length ≤ 300 := by omega
      have hmul : i * zs.length ≤ 300 * 300 := Nat.mul_le_mul (by omega) hz
      have hdl := h.dl
      have kd : done.length ≤ 100000 := by omega
      have w2 : wrap64 ((i : Int) + 1) = ((i + 1 : Nat) : Int) := by unfold wrap64; omega
      have hr : rd l (i : Int) = l[i] := by unfold rd; rw [Int.toNat_natCast, List.getD_eq_getElem?_getD, List.getElem?_eq_getElem hlt]; rfl
      have hxz : l[i] ∈ zs := (hlm _).1 (List.getElem_mem hlt)
      have hhas := hasI_ev done l[i] kd
      have htk : l.take (i + 1) = l.take i ++ [l[i]] := by rw [List.take_succ_eq_append_getElem hlt]
      by_cases hin : l[i] ∈ done
      · obtain ⟨ps, h1, h2⟩ := ih (i + 1) out done km kj ⟨h.srt, h.comp, fun x hx => by
          rw [htk] at hx
          rcases List.mem_append.1 hx with hx | hx
          · exact h.all x hx
          · rw [List.mem_singleton.1 hx]; exact hin, h.dn, Nat.le_succ_of_le h.len, Nat.le_trans hdl (Nat.mul_le_mul_right _ (Nat.le_succ i)), h.each⟩
        rw [decide_eq_true hin] at hhas
        refine ⟨ps, Ev.step (f := fun k => (spec_hasInt.f k done l[i]).bind fun t188 => (if t188 = true then (spec_SCC.l0 k out done l (l.length : Int) ((i + 1 : Nat) : Int) true zs es) else ((spec_reached.f k true zs es l[i]).bind fun t189 => (spec_SCC.l1 k out done l[i] ([] : List Int) l (l.length : Int) (i : Int) t189 (t189.length : Int) 0 true zs es)))) (fun k => ?_) (Ev.bind hhas (Ev.congr (fun k => if_pos rfl) h1)), h2⟩
        simp only [spec_SCC.l0]
        rw [if_pos k1, if_pos k0, if_pos k1, hr, w2]
      · obtain ⟨re, hre1, hre2⟩ := reachedS_ev zs es l[i] kz he hxz
        have hrl := hre2.len hxz
        obtain ⟨ps, h1, h2⟩ := sccS_l1 zs es hz he l out done i hlt kl h.len hdl l[i] re hrl.1 hrl.2 (fun c hs hm => by
          refine ih (i + 1) (out ++ [c]) (done ++ c) km kj ⟨fun q hq => ?_, fun q hq u hu y => ?_, fun x hx => ?_, fun x hx => ?_, by rw [List.length_append]; exact Nat.add_le_add_right h.len 1, ?_, fun q hq => ?_⟩
          · rcases List.mem_append.1 hq with hq | hq
            · exact h.srt q hq
            · rw [List.mem_singleton.1 hq]; exact hre2.1.sublist hs
          · rcases List.mem_append.1 hq with hq | hq
            · exact h.comp q hq u hu y
            · rw [List.mem_singleton.1 hq] at hu ⊢
              obtain ⟨a, b⟩ := (hm u).1 hu
              have a' := (hre2.2 u).1 a
              rw [hm y, hre2.2 y]
              constructor
              · rintro ⟨p, q⟩; exact ⟨b.trans p, q.trans a'⟩
              · rintro ⟨p, q⟩; exact ⟨a'.trans p, q.trans b⟩
          · rw [htk] at hx
            rcases List.mem_append.1 hx with hx | hx
            · exact List.mem_append_left _ (h.all x hx)
            · rw [List.mem_singleton.1 hx]
              exact List.mem_append_right _ ((hm _).2 ⟨(hre2.2 _).2 RchW.here, RchW.here⟩)
          · rcases List.mem_append.1 hx with hx | hx
            · obtain ⟨q, hq, hxq⟩ := h.dn x hx
              exact ⟨q, List.mem_append_left _ hq, hxq⟩
            · exact ⟨c, List.mem_append_right _ (List.mem_singleton.2 rfl), hx⟩
          · rw [List.length_append, Nat.succ_mul]; exact Nat.add_le_add hdl (Nat.le_trans hs.length_le hrl.1)
          · rcases List.mem_append.1 hq with hq | hq
            · exact h.each q hq
            · rw [List.mem_singleton.1 hq]; exact Nat.le_trans hs.length_le hrl.1) re.length 0 (Nat.le_of_eq (Nat.sub_zero _)) (Nat.zero_le _) [] (List.nil_sublist _) (fun x => by simp)
        rw [decide_eq_false hin] at hhas
        refine ⟨ps, Ev.step (f := fun k => (spec_hasInt.f k done l[i]).bind fun t188 => (if t188 = true then (spec_SCC.l0 k out done l (l.length : Int) ((i + 1 : Nat) : Int) true zs es) else ((spec_reached.f k true zs es l[i]).bind fun t189 => (spec_SCC.l1 k out done l[i] ([] : List Int) l (l.length : Int) (i : Int) t189 (t189.length : Int) 0 true zs es)))) (fun k => ?_) (Ev.bind hhas (Ev.congr (fun k => if_neg (by simp)) (Ev.bind hre1 h1))), h2⟩
        simp only [spec_SCC.l0]
        rw [if_pos k1, if_pos k0, if_pos k1, hr, w2]
    · obtain rfl : i = l.length := by omega
      exact stop out done h

theorem sccS_ev (zs : List Int) (es : List S95) (hz : zs.length ≤ 300) (he : es.length ≤ 100000) : ∃ ps, Ev (fun k => spec_SCC.f k true zs es) ps ∧ SGood (outN zs es) zs ps := by
  obtain ⟨ps, h1, h2⟩ := sccS_l0 zs es hz he (srt zs) (by rw [srt_length]; exact Nat.le_refl _) (fun x => mem_srt _ _) (srt zs).length 0 [] [] (by omega) (Nat.zero_le _) ⟨fun _ h => absurd h List.not_mem_nil, fun _ h => absurd h List.not_mem_nil, fun x hx => by simp at hx, fun _ h => absurd h List.not_mem_nil, Nat.le_refl _, by simp, fun _ h => absurd h List.not_mem_nil⟩
  refine ⟨ps, Ev.congr (fun k => ?_) h1, h2⟩
  unfold spec_SCC.f
  rw [nodesS zs es (by omega)]
  rfl
end Go.Proofs.YtddklkgcodjijaaGreat.R

/- FnSortStabilizedTold answers true, in plain lists: the rest. -/
namespace Go.Proofs.YtddklkgcodjijaaGreat.R
open Go.RowKit Go.Lab Go.Proofs.YtddklkgcodjijaaGreatW.PrintWords PL Q

theorem flat_nodup : ∀ {out : List (List Int)}, (∀ c ∈ out, c.Nodup) → out.Pairwise (fun a b => ∀ x ∈ a, x ∉ b) → out.flatten.Nodup
  | [], _, _ => by simp
  | c :: out, h, hp => by
    rw [List.flatten_cons, List.nodup_append]
    obtain ⟨h1, h2⟩ := List.pairwise_cons.1 hp
    refine ⟨h c (by simp), flat_nodup (fun q hq => h q (by simp [hq])) h2, fun a ha b hb e => ?_⟩
    subst e
    obtain ⟨q, hq, hx⟩ := List.mem_flatten.1 hb
    exact h1 q hq a ha hx
theorem len_flat : ∀ {out : List (List Int)}, (∀ c ∈ out, 0 < c.length) → out.length ≤ out.flatten.length
  | [], _ => by simp
  | c :: out, h => by
    rw [List.flatten_cons, List.length_append, List.length_cons]
    have h1 := h c (by simp)
    have h2 := len_flat (out := out) (fun q hq => h q (by simp [hq]))
    omega
theorem scc_len {adj : Int → List Int} {ns ns' : List Int} {out : List (List Int)} (h : SccOk adj ns out) (hin : ∀ c ∈ out, ∀ x ∈ c, x ∈ ns') : out.length ≤ ns'.length ∧ ∀ c ∈ out, c.length ≤ ns'.length := by
  refine ⟨?_, fun c hc => nodup_len (h.comp c hc).1 (hin c hc)⟩
  have h1 := len_flat (out := out) (fun c hc => by obtain ⟨_, r, hr, _⟩ := h.comp c hc; exact List.length_pos_of_mem hr)
  have h2 : out.flatten.length ≤ ns'.length := nodup_len (flat_nodup (fun c hc => (h.comp c hc).1) h.dis) (fun x hx => by obtain ⟨c, hc, hxc⟩ := List.mem_flatten.1 hx; exact hin c hc x hxc)
  omega
theorem slotS_P (p : List Int) : slotS p = ⟨(slotP p).1, (slotP p).2⟩ := by
  unfold slotS slotP
  split <;> rfl
theorem emitQ_S (met : List Int) (ps : List (List Int)) (u : Int) : (emitQ met ps u).map slotS = (emitS met ps u).map fun p => (⟨p.1, p.2⟩ : S36) := by
  unfold emitQ emitS
  by_cases h1 : firstL met (compL ps u) ≠ u
  · rw [if_pos h1, if_pos h1]; rfl
  · rw [if_neg h1, if_neg h1]
    by_cases h2 : 1 < (compL ps u).length
    · rw [if_pos h2, if_pos h2]
      simp only [List.map_cons, List.map_nil]
      unfold slotS
      rw [if_neg (by omega)]
    · rw [if_neg h2, if_neg h2]; rfl
theorem emitQ_all (met : List Int) (ps : List (List Int)) : ∀ L : List Int, (L.flatMap (emitQ met ps)).map slotS = (L.flatMap (emitS met ps)).map fun p => (⟨p.1, p.2⟩ : S36)
  | [] => rfl
  | u :: L => by rw [List.flatMap_cons, List.flatMap_cons, List.map_append, List.map_append, emitQ_S, emitQ_all met ps L]

theorem both_f (zs : List Int) (es : List S95) (hz : zs.length ≤ 90) (he : es.length ≤ 100000) (hwf : ∀ x ∈ zs, (Lit.int .i64 x).wf = true) (hro : readOk zs es = true) :
    ∃ (o : List S36) (c : List (List Int)), impl_SortStabilized.f true zs es = some (o, c, decide (c = []), false) ∧ Ev (fun k => spec_Stabilized.f k true zs es) (o, c) ∧ o.length ≤ 100 ∧ smallL c = true := by
  have hin : ∀ u, ∀ x ∈ adjR zs es u, x ∈ zs := fun u x hx => (outN_mem' (adjR_mem.1 hx)).1
  obtain ⟨r, hr, hg⟩ := allT_ends hin 1000 (srt zs).reverse TS.none (fun v hv => (mem_srt _ _).1 (List.mem_reverse.1 hv)) (Nat.le_trans List.countP_le_length (by omega))
  obtain ⟨hok, _⟩ := sccs_ok hr
  obtain ⟨i, _, _⟩ := allT_ok (adjR zs es) 1000 (srt zs).reverse TS.none r (TInv.none _) hr
  have hnum : ∀ x, r.num x ≠ 0 → x ∈ zs := fun x hx => by
    rcases hg.2 x hx with h | h
    · exact absurd rfl h
    · exact h
  have hsub : ∀ c ∈ r.out, ∀ x ∈ c, x ∈ zs := fun c hc x hx => hnum x ((i.all x).2 (.inr ⟨c, hc, hx⟩))
  obtain ⟨l1, l2⟩ := scc_len hok hsub
  obtain ⟨ps, hps, hgood⟩ := sccS_ev zs es (by omega) he
  have hpo : PartsOk (adjR zs es) zs ps := ⟨hgood.ok.srt, fun c hc u hu y => by
    have hs : ∀ u x, x ∈ outN zs es u ↔ x ∈ adjR zs es u := fun u x => adjR_mem.symm
    rw [hgood.ok.comp c hc u hu y, RchW.same hs, RchW.same hs], hgood.ok.all⟩
  obtain ⟨m, hm, e1, e2, _⟩ := stable_is hr (fun x => by rw [List.mem_reverse]; exact mem_srt _ _) hin hnum hpo
  have e3 : (m.left.reverse.flatMap (emitQ m.met ps)).map slotS = r.out.reverse.map slotS := by
    rw [emitQ_all, e1, ← List.map_reverse, List.map_map]
    exact List.map_congr_left fun p _ => (slotS_P p).symm
  have hcl : (cyc r.out).length ≤ 90 := by
    unfold cyc
    rw [List.length_map]
    exact Nat.le_trans (List.length_filter_le _ _) (by omega)
  refine ⟨r.out.reverse.map slotS, (cyc r.out).reverse, ?_, ?_, by rw [List.length_map, List.length_reverse]; omega, ?_⟩
  · unfold impl_SortStabilized.f
    rw [if_pos ⟨hz, by omega, List.all_eq_true.2 hwf⟩, hro, if_pos (show (true && true) = true from rfl), hr]
    simp only [Option.bind_some]
    rw [if_pos ⟨by omega, List.all_eq_true.2 fun q hq => decide_eq_true (by have := l2 q hq; omega)⟩]
    congr 4
    rw [decide_eq_decide, List.reverse_eq_nil_iff]
  · refine Ev.congr (fun k => ?_) (Ev.bind hps (f := fun _ ps => if ps.length ≤ 1000 ∧ (ps.all fun q => decide (q.length ≤ 1000)) = true then some ((m.left.reverse.flatMap (R.emitQ m.met ps)).map R.slotS, m.left.reverse.flatMap (R.emitC m.met ps)) else none) ?_)
    · unfold spec_Stabilized.f
      rw [if_pos ⟨by omega, by omega, rfl⟩, hm]
      rfl
    · refine Ev.congr (fun k => if_pos ⟨by have := hgood.len; omega, List.all_eq_true.2 fun q hq => decide_eq_true (by have := hgood.each q hq; omega)⟩) ?_
      rw [e3, e2]
      exact Ev.now _
  · rw [smallL_iff]
    refine ⟨by rw [List.length_reverse]; omega, fun q hq => ?_⟩
    unfold cyc at hq
    obtain ⟨x, hx, rfl⟩ := List.mem_map.1 (List.mem_reverse.1 hq)
    rw [srt_length]
    have := l2 x (List.mem_filter.1 hx).1
    omega
theorem none_f : impl_SortStabilized.f true [] [] = some ([], [], true, false) := by
  have hs : srt [] = [] := List.eq_nil_of_length_eq_zero (by rw [srt_length]; rfl)
  unfold impl_SortStabilized.f
  rw [if_pos ⟨Nat.zero_le _, Nat.zero_le _, rfl⟩, if_pos (by simp [readOk, hs]), hs]
  rfl

/-- the law, in plain lists -/
theorem stabTold_ev (d : Bool) (zs : List Int) (es : List S95) (hwf : ∀ x ∈ zs, (Lit.int .i64 x).wf = true) : Ev (fun k => laws_FnSortStabilizedTold.f k d zs es) true := by
  by_cases hz : (decide (zs.length ≤ 2147483647) && decide (es.length ≤ 2147483647)) = true
  · simp only [Bool.and_eq_true, decide_eq_true_eq] at hz
    have h0 : laws_zzFits1.f d zs es = some true := by
      unfold laws_zzFits1.f
      rw [if_neg (by omega), if_neg (by omega)]
    refine Ev.congr (fun k => by unfold laws_FnSortStabilizedTold.f; rw [h0]; rfl) (Ev.bind (fewOf_ev d true zs es 14 (by omega)) ?_)
    cases hf : fewB d true zs es 14 with
    | false => exact Ev.congr (fun k => if_neg (by simp)) (Ev.now _)
    | true =>
      unfold fewB at hf
      simp only [Bool.and_eq_true, decide_eq_true_eq, beq_iff_eq] at hf
      obtain ⟨rfl, h1, h2, hro⟩ := hf
      refine Ev.congr (fun k => if_pos rfl) ?_
      obtain ⟨o, c, e1, e2, e3, e4⟩ := both_f zs es (by omega) (by omega) hwf hro
      rw [e1]
      simp only [Option.bind_some]
      refine Ev.bind e2 ?_
      rw [none_f]
      simp only [Option.bind_some]
      have hdc : (decide (c = []) == ((c.length : Int) == 0)) = true := by
        cases c with
        | nil => rfl
        | cons a l => simp; omega
      refine Ev.congr (fun k => (if_neg (by simp)).trans (if_pos hdc)) (Ev.bind (slotSame_ev o (by omega)) ?_)
      refine Ev.congr (fun k => if_pos rfl) ?_
      have hsl : laws_sameLists.f c c = some true := by
        unfold laws_sameLists.f
        rw [e4, if_pos (show (true && true) = true from rfl), decide_eq_true rfl]
      rw [hsl]
      simp only [Option.bind_some]
      exact Ev.now _
  · refine Ev.congr (fun k => ?_) (Ev.now _)
    unfold laws_FnSortStabilizedTold.f laws_zzFits1.f
    simp only [Bool.and_eq_true, decide_eq_true_eq] at hz
    by_cases h1 : (zs.length : Int) > 2147483647
    · rw [if_pos h1]; rfl
    · rw [if_neg h1, if_pos (by omega)]; rfl
end Go.Proofs.YtddklkgcodjijaaGreat.R
