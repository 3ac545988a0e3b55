import Derived.Test.YtolbfjjgdheikaaGreatDG3
import Derived.Test.YtolbfjjgdheikaaGreatDV6
set_option linter.unusedVariables false
set_option linter.unusedSimpArgs false
/- FnWalkAll answers true, in plain lists. -/
namespace Go.Proofs.YtolbfjjgdheikaaGreat.R
open Go.RowKit Go.Lab Go.Proofs.YtolbfjjgdheikaaGreatW.PrintWords PL Q

theorem walkB_some (zs : List Int) (es : List S34) (hz : zs.length ≤ 90) (vis : List Int) (u : Int) : ∃ pt, walkB zs es vis u = some pt := by
  refine bfsV_ends (outN zs es) vis zs (fun u v hv => (outN_mem hv).1) 9000 [u] [] ?_
  have := lefts_bound (fun _ => 1) 1 (fun u => Nat.le_refl _) (vis ++ [] ++ [u]) zs
  simp only [List.length_singleton]
  omega

/-- what Components tells of these parts -/
theorem comps_map {zs : List Int} {es : List S34} {out : List (List Int)} (hro : readOk zs es = true) (hcs : Comps (outN zs (dbl false es)) (srt zs) out) : out.map srt = canonC (RchW (outN zs (dbl false es))) (srt zs) := by
  obtain ⟨h1, h2⟩ := read_good hro
  have hsy : ∀ u v, v ∈ outN zs (dbl false es) u → u ∈ outN zs (dbl false es) v := fun u v hv => outN_sym (outN_in (dbl_good (zs := zs) false h2) hv) hv
  rw [← hcs.canon h1 hsy]
  refine List.map_congr_left fun pt hpt => ?_
  obtain ⟨u, hu, l, rfl, hm, hnd, _⟩ := hcs.parts pt hpt
  exact (srt_part h1 hnd (fun x hx => rch_in zs _ u hu x ((hm x).1 hx))).trans (List.filter_congr fun x _ => decide_eq_decide.2 Iff.rfl)

/-- what WalkAll answers of a good undirected graph -/
theorem walks_f (zs : List Int) (es : List S34) (deep : Bool) (hz : zs.length ≤ 90) (he : es.length ≤ 1000000) (hwf : ∀ x ∈ zs, (Lit.int .i64 x).wf = true) (hro : readOk zs es = true) :
    ∃ out, impl_WalkAll.f false zs es deep = some (out, false) ∧ Comps (outN zs (dbl false es)) (srt zs) out := by
  obtain ⟨out, hout⟩ := allV_ends' (fun vis u => if deep = true then walkD zs (dbl false es) vis u else walkB zs (dbl false es) vis u) zs (fun vis u hu => by
    cases deep with
    | true => exact walkD_some zs _ hz vis u hu
    | false => exact walkB_some zs _ hz vis u) (srt zs) [] [] (fun u hu => (mem_srt _ _).1 hu)
  refine ⟨out, ?_, parts_comps hro (fun vis u => if deep = true then walkD zs (dbl false es) vis u else walkB zs (dbl false es) vis u) (fun vis u pt a b c => ?_) hout⟩
  · unfold impl_WalkAll.f
    rw [if_pos ⟨hz, he, List.all_eq_true.2 hwf⟩, if_pos (by rw [hro]; rfl), hout]
    rfl
  · cases deep with
    | true => exact walkD_ok zs (dbl false es) vis u pt a b c
    | false => exact walkB_ok zs (dbl false es) vis u pt a b c

/-- a part's least node is its first -/
theorem srt_head {u : Int} {l : List Int} (h : ∀ x ∈ u :: l, u ≤ x) : ∃ t, srt (u :: l) = u :: t := by
  have hl := srt_length (u :: l)
  cases hs : srt (u :: l) with
  | nil => rw [hs] at hl; simp at hl
  | cons a t =>
    have h1 : a ∈ u :: l := (mem_srt _ _).1 (by rw [hs]; simp)
    have h2 : u ∈ srt (u :: l) := (mem_srt _ _).2 (by simp)
    rw [hs] at h2
    have h3 := srt_le (u :: l)
    rw [hs] at h3
    have h4 := h a h1
    rcases List.mem_cons.1 h2 with e | e
    · exact ⟨t, by rw [e]⟩
    · have h5 := (List.pairwise_cons.1 h3).1 u e
      have : a = u := by omega
      exact ⟨t, by rw [this]⟩

theorem walk_alone (zs : List Int) (deep : Bool) (vis : List Int) (u : Int) (hu : u ∉ vis) : (if deep = true then walkD zs (dbl false []) vis u else walkB zs (dbl false []) vis u) = some [u] := by
  have ha : outN zs (dbl false []) u = [] := by
    unfold outN
    rw [List.filter_eq_nil_iff]
    intro v hv hc
    obtain ⟨e, he, _⟩ := arcW_some.1 hc
    simp [dbl] at he
  cases deep with
  | true =>
    rw [if_pos rfl]
    unfold walkD
    have h1 := dfsV_snoc (outN zs (dbl false [])) vis 8999 [] u []
    rw [List.append_nil, if_neg hu, ha] at h1
    exact h1.trans (dfsV_nil _ _ _ _)
  | false =>
    rw [if_neg (by simp)]
    unfold walkB
    show bfsV (outN zs (dbl false [])) vis 8999 (newQ (vis ++ ([] ++ [u])) (outN zs (dbl false []) u) []) ([] ++ [u]) = some [u]
    rw [ha]
    rfl

theorem wanders_f (deep : Bool) : laws_wanders.f deep = some true := by
  have hs : srt [9, 7] = [7, 9] := int_ext (srt_lt (by decide)) (by decide) (fun x => by rw [mem_srt]; simp [or_comm])
  have hro : readOk [9, 7] [] = true := by
    unfold readOk
    rw [decide_eq_true (srt_lt (by decide))]
    rfl
  unfold laws_wanders.f impl_WalkAll.f
  rw [if_pos ⟨by decide, by decide, by decide⟩, if_pos (by rw [hro]; rfl), hs]
  have h1 : allV (fun vis u => if deep = true then walkD [9, 7] (dbl false []) vis u else walkB [9, 7] (dbl false []) vis u) [7, 9] [] [] = some [[7], [9]] := by
    rw [allV, if_neg (by simp), walk_alone [9, 7] deep [] 7 (by simp)]
    simp only [Option.bind_some]
    rw [allV, if_neg (by simp), walk_alone [9, 7] deep ([] ++ [7]) 9 (by simp)]
    rfl
  rw [h1]
  rfl

theorem rdL (l : List (List Int)) (i : Nat) (h : i < l.length) : rd_L2 l (i : Int) = l[i] := by unfold rd_L2; simp [List.getD_eq_getElem?_getD, h]
theorem walkAll_l0 (deep : Bool) (out : List (List Int)) (hl : out.length ≤ 100000) (hs : ∀ q ∈ out, q.length ≤ 100000 ∧ ∃ u l, q = u :: l ∧ ∀ x ∈ q, u ≤ x) :
    ∀ n i, out.length - i ≤ n → i ≤ out.length → Ev (fun k => laws_FnWalkAll.l0 k deep out (out.map srt) (i : Int)) true := by
  have stop : ∀ i : Nat, ¬ i < out.length → Ev (fun k => laws_FnWalkAll.l0 k deep out (out.map srt) (i : Int)) true := fun i hi => by
    refine Ev.step (fun k => ?_) (Ev.now _)
    simp only [laws_FnWalkAll.l0]
    rw [if_neg (by omega), wanders_f]
    rfl
  intro n
  induction n with
  | zero => intro i hn hi; exact stop i (by omega)
  | succ n ih =>
    intro i hn hi
    by_cases hlt : i < out.length
    · have w2 : wrap64 ((i : Int) + 1) = ((i + 1 : Nat) : Int) := by unfold wrap64; omega
      obtain ⟨hq, u, l, he, hu⟩ := hs _ (List.getElem_mem hlt)
      have hm : (out.map srt).length = out.length := List.length_map _
      have e2 : rd_L2 (out.map srt) (i : Int) = srt out[i] := by rw [rdL _ _ (by omega), List.getElem_map]
      obtain ⟨t, ht⟩ := srt_head (u := u) (l := l) (by rw [← he]; exact hu)
      have hr : rd out[i] 0 = rd (srt out[i]) 0 := by rw [he, ht]; rfl
      have hp : 0 < out[i].length := by rw [he]; simp
      have hp2 : 0 < (srt out[i]).length := by rw [srt_length]; exact hp
      refine Ev.step (f := fun k => (laws_sorted.f k out[i]).bind fun t165 => ((slices_Equal_int_int.f k t165 (srt out[i])).bind fun t169 => (if t169 = true then (laws_FnWalkAll.l0 k deep out (out.map srt) ((i + 1 : Nat) : Int)) else (some false)))) (fun k => ?_) ?_
      · simp only [laws_FnWalkAll.l0]
        rw [if_pos (by omega), if_pos (by omega), e2, rdL out i hlt, if_neg (by omega), if_pos (by omega), if_pos (by omega), if_pos (by omega), if_pos hr, w2]
      · refine Ev.bind (sorted_ev _ hq) (Ev.bind (equal_ev _ _ (by rw [srt_length]; exact hq)) ?_)
        rw [decide_eq_true rfl]
        exact Ev.congr (fun k => if_pos rfl) (ih (i + 1) (by omega) (by omega))
    · exact stop i hlt

/-- the law, in plain lists -/
theorem walkAll_ev (d : Bool) (zs : List Int) (es : List S34) (deep : Bool) (hwf : ∀ x ∈ zs, (Lit.int .i64 x).wf = true) : Ev (fun k => laws_FnWalkAll.f k d zs es deep) true := by
  by_cases hz : (decide (zs.length ≤ 2147483647) && decide (es.length ≤ 2147483647)) = true
  · simp only [Bool.and_eq_true, decide_eq_true_eq] at hz
    have h0 : laws_zzFits1.f d zs es = some true := by
      unfold laws_zzFits1.f
      rw [if_neg (by omega), if_neg (by omega)]
    refine Ev.congr (fun k => by unfold laws_FnWalkAll.f; rw [h0]; rfl) (Ev.bind (fewOf_ev d false zs es 30 (by omega)) ?_)
    cases hf : fewB d false zs es 30 with
    | false => exact Ev.congr (fun k => if_neg (by simp)) (Ev.now _)
    | true =>
      unfold fewB at hf
      simp only [Bool.and_eq_true, decide_eq_true_eq, beq_iff_eq] at hf
      obtain ⟨rfl, h1, h2, hro⟩ := hf
      obtain ⟨out, ho, hcs⟩ := walks_f zs es deep (by omega) (by omega) hwf hro
      have e1 := comps_f zs es (by omega) (by omega) hwf hro
      rw [← comps_map hro hcs] at e1
      have hln := hcs.len (rch_in zs _)
      rw [srt_length] at hln
      have hj : ((out.length : Int) != ((out.map srt).length : Int)) = false := by rw [List.length_map, bne_self_eq_false]
      refine Ev.congr (f := fun k => laws_FnWalkAll.j0 k deep out (out.map srt) false) (fun k => by rw [if_pos rfl, ho, e1]; simp only [Option.bind_some]; rw [if_neg (by simp), if_neg (by simp), hj]) ?_
      refine Ev.step (f := fun k => laws_FnWalkAll.l0 k deep out (out.map srt) ((0 : Nat) : Int)) (fun k => by simp only [laws_FnWalkAll.j0]; rfl) ?_
      refine walkAll_l0 deep out (by omega) (fun q hq => ?_) _ 0 (Nat.le_refl _) (Nat.zero_le _)
      obtain ⟨u, hu, l, rfl, hm, hnd, hmin⟩ := hcs.parts q hq
      refine ⟨?_, u, l, rfl, fun x hx => hmin x (rch_in zs _ u hu x ((hm x).1 hx)) ((hm x).1 hx)⟩
      have := nodup_len hnd (xs := srt zs) (fun x hx => rch_in zs _ u hu x ((hm x).1 hx))
      rw [srt_length] at this
      omega
  · refine Ev.congr (fun k => ?_) (Ev.now _)
    unfold laws_FnWalkAll.f laws_zzFits1.f
    simp only [Bool.and_eq_true, decide_eq_true_eq] at hz
    by_cases h1 : (zs.length : Int) > 2147483647
    · rw [if_pos h1]; rfl
    · rw [if_neg h1, if_pos (by omega)]; rfl
end Go.Proofs.YtolbfjjgdheikaaGreat.R
