import Derived.Test.YtolbfjjgdheikaaGreatEG3
import Derived.Test.YtolbfjjgdheikaaGreatEV7
set_option linter.unusedVariables false
set_option linter.unusedSimpArgs false
/- FnSCCBoth answers true, in plain lists. -/
namespace Go.Proofs.YtolbfjjgdheikaaGreat.R
open Go.RowKit Go.Lab Go.Proofs.YtolbfjjgdheikaaGreatW.PrintWords PL Q

def flipE (e : S34) : S34 := ⟨e.f1, e.f0, e.f2⟩
theorem both_l0 (d : Bool) (zs : List Int) (es : List S34) (hes : es.length ≤ 100000) : ∀ m i acc, es.length - i ≤ m → i ≤ es.length → acc.length + (es.length - i) ≤ 1000000 → Ev (fun k => laws_both.l0 k (i : Int) d zs es true zs acc) (true, zs, acc ++ (es.drop i).map flipE)
  | 0, i, acc, hm, hi, ha => by
    refine Ev.step (fun k => ?_) (Ev.now _)
    simp only [laws_both.l0]
    rw [if_neg (by omega), List.drop_eq_nil_of_le (by omega), List.map_nil, List.append_nil]
  | m + 1, i, acc, hm, hi, ha => by
    by_cases hlt : i < es.length
    · have w2 : wrap64 ((i : Int) + 1) = ((i + 1 : Nat) : Int) := by unfold wrap64; omega
      have ih := both_l0 d zs es hes m (i + 1) (acc ++ [flipE es[i]]) (by omega) (by omega) (by rw [List.length_append, List.length_singleton]; omega)
      rw [List.drop_eq_getElem_cons hlt, List.map_cons]
      rw [List.append_assoc] at ih
      refine Ev.step (f := fun k => laws_both.l0 k ((i + 1 : Nat) : Int) d zs es true zs (acc ++ [flipE es[i]])) (fun k => ?_) ih
      simp only [laws_both.l0]
      rw [if_pos (by omega), if_pos (by omega), if_pos (by omega), rdT es i hlt, w2]
      rfl
    · refine Ev.step (fun k => ?_) (Ev.now _)
      simp only [laws_both.l0]
      rw [if_neg (by omega), List.drop_eq_nil_of_le (by omega), List.map_nil, List.append_nil]
theorem both_ev (d : Bool) (zs : List Int) (es : List S34) (hes : es.length ≤ 100000) : Ev (fun k => laws_both.f k d zs es) (true, zs, es ++ es.map flipE) := by
  have := both_l0 d zs es hes es.length 0 es (by omega) (Nat.zero_le _) (by omega)
  rw [List.drop_zero] at this
  refine Ev.congr (fun k => ?_) this
  unfold laws_both.f impl_Edge.f
  rw [if_pos (by omega)]
  rfl
theorem both_mem {es : List S34} {e : S34} : e ∈ es ++ es.map flipE ↔ e ∈ dbl false es := by
  unfold dbl
  rw [if_neg (by decide), List.mem_append, List.mem_map, List.mem_flatMap]
  constructor
  · rintro (h | ⟨a, h, rfl⟩)
    · exact ⟨e, h, by simp⟩
    · exact ⟨a, h, by simp [flipE]⟩
  · rintro ⟨a, h, hm⟩
    rcases List.mem_cons.1 hm with rfl | hm
    · exact .inl h
    · rw [List.mem_singleton] at hm
      exact .inr ⟨a, h, hm.symm⟩
theorem outN_both (zs : List Int) (es : List S34) : outN zs (es ++ es.map flipE) = outN zs (dbl false es) := by
  funext u
  unfold outN
  refine List.filter_congr fun v _ => ?_
  rw [Bool.eq_iff_iff, arcW_some, arcW_some]
  exact ⟨fun ⟨e, h, r⟩ => ⟨e, both_mem.1 h, r⟩, fun ⟨e, h, r⟩ => ⟨e, both_mem.2 h, r⟩⟩
theorem readOk_both {zs : List Int} {es : List S34} (h : readOk zs es = true) : readOk zs (es ++ es.map flipE) = true := by
  obtain ⟨h1, h2⟩ := read_good h
  unfold readOk
  rw [decide_eq_true h1, Bool.true_and, List.all_eq_true]
  exact fun e he => List.all_eq_true.1 (dbl_good (zs := zs) false h2) e (both_mem.1 he)
theorem components_f : laws_components.f = some true := by
  have hs : srt [7] = [7] := List.perm_singleton.1 (srt_perm [7])
  unfold laws_components.f
  rw [comps_f [7] [] (by simp) (by simp) (by decide) (by unfold readOk; rw [hs]; simp)]
  simp only [Option.bind_some]
  rw [hs]
  unfold canonC
  simp
/-- what SCC answers of a good graph whose edges go both ways -/
theorem scc_f (zs : List Int) (es : List S34) (hz : zs.length ≤ 90) (he : es.length ≤ 100000) (hwf : ∀ x ∈ zs, (Lit.int .i64 x).wf = true) (hro : readOk zs es = true) :
    ∃ m, impl_SCC.f true zs (es ++ es.map flipE) = some (m, false) ∧ smallL m = true ∧ m.Nodup ∧ sortL m = canonC (RchW (outN zs (dbl false es))) (srt zs) := by
  obtain ⟨h1, h2⟩ := read_good hro
  have hsy : ∀ u v, v ∈ outN zs (dbl false es) u → u ∈ outN zs (dbl false es) v := fun u v hv => outN_sym (outN_in (dbl_good (zs := zs) false h2) hv) hv
  obtain ⟨r, hr, hok, _, hsub⟩ := sccs_all (adj := outN zs (dbl false es)) (ns := srt zs) (fun u x hx => (mem_srt _ _).2 (outN_mem' hx).1) 1000 (by rw [srt_length]; omega)
  have hln := hok.lens hsub
  rw [srt_length] at hln
  obtain ⟨c1, c2⟩ := hok.canon h1 hsy hsub
  refine ⟨r.out.map srt, ?_, smallL_iff.2 ⟨by rw [List.length_map]; omega, fun q hq => ?_⟩, c1, c2⟩
  · unfold impl_SCC.f
    rw [if_pos ⟨hz, by simp; omega, List.all_eq_true.2 hwf⟩, readOk_both hro, outN_both, hr]
    rfl
  · obtain ⟨p, hp, rfl⟩ := List.mem_map.1 hq
    rw [srt_length]
    have := hln.2 p hp
    omega
/-- the law, in plain lists -/
theorem sccBoth_ev (d : Bool) (zs : List Int) (es : List S34) (hwf : ∀ x ∈ zs, (Lit.int .i64 x).wf = true) : Ev (fun k => laws_FnSCCBoth.f k d zs es) true := by
  by_cases hz : (decide (zs.length ≤ 2147483647) && decide (es.length ≤ 2147483647)) = true
  · simp only [Bool.and_eq_true, decide_eq_true_eq] at hz
    have h0 : laws_zzFits1.f d zs es = some true := by
      unfold laws_zzFits1.f
      rw [if_neg (by omega), if_neg (by omega)]
    refine Ev.congr (fun k => by unfold laws_FnSCCBoth.f; rw [h0]; rfl) (Ev.bind (fewOf_ev d false zs es 40 (by omega)) ?_)
    cases hf : fewB d false zs es 40 with
    | false => exact Ev.congr (fun k => if_neg (by simp)) (Ev.now _)
    | true =>
      unfold fewB at hf
      simp only [Bool.and_eq_true, decide_eq_true_eq, beq_iff_eq] at hf
      obtain ⟨rfl, h1, h2, hro⟩ := hf
      refine Ev.congr (fun k => if_pos rfl) ?_
      have e1 := comps_f zs es (by omega) (by omega) hwf hro
      obtain ⟨m, e2, hsm, hnd, hcn⟩ := scc_f zs es (by omega) (by omega) hwf hro
      obtain ⟨g1, g2⟩ := read_good hro
      have hsy : ∀ u v, v ∈ outN zs (dbl false es) u → u ∈ outN zs (dbl false es) v := fun u v hv => outN_sym (outN_in (dbl_good (zs := zs) false g2) hv) hv
      have hs1 := canonC_small (rch_eqv hsy) g1 (by omega)
      refine Ev.congr (fun k => by rw [e1]; rfl) (Ev.bind (both_ev false zs es (by omega)) ?_)
      refine Ev.congr (fun k => ?_) (Ev.now true)
      rw [e2]
      simp only [Option.bind_some]
      rw [if_neg (by decide), if_neg (by decide)]
      unfold laws_sortedLists.f
      rw [if_pos (by rw [hsm, decide_eq_true hnd]; rfl)]
      simp only [Option.bind_some]
      unfold laws_sameLists.f
      rw [hcn, if_pos (by rw [hs1]; rfl), decide_eq_true rfl]
      simp only [Option.bind_some]
      rw [if_pos trivial, components_f]
      rfl
  · refine Ev.congr (fun k => ?_) (Ev.now _)
    unfold laws_FnSCCBoth.f laws_zzFits1.f
    simp only [Bool.and_eq_true, decide_eq_true_eq] at hz
    by_cases h1 : (zs.length : Int) > 2147483647
    · rw [if_pos h1]; rfl
    · rw [if_neg h1, if_pos (by omega)]; rfl
end Go.Proofs.YtolbfjjgdheikaaGreat.R
