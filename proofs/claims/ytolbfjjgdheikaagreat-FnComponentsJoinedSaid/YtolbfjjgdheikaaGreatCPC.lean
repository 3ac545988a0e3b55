import Derived.Test.YtolbfjjgdheikaaGreatCG3
set_option linter.unusedVariables false
set_option linter.unusedSimpArgs false
/- What Components answers, in plain lists. -/
namespace Go.Proofs.YtolbfjjgdheikaaGreat.R
open Go.RowKit Go.Lab Go.Proofs.YtolbfjjgdheikaaGreatW.PrintWords PL Q

theorem srt_lt {xs : List Int} (h : xs.Nodup) : (srt xs).Pairwise (· < ·) := by
  have h1 : (srt xs).Nodup := (srt_perm xs).nodup_iff.2 h
  have h2 := srt_le xs
  rw [List.pairwise_iff_getElem] at h2 ⊢
  intro i j hi hj hij
  have h3 := h2 i j hi hj hij
  have h4 : (srt xs)[i] ≠ (srt xs)[j] := fun e => by
    have := (List.pairwise_iff_getElem.1 h1) i j hi hj hij
    exact this e
  omega
theorem srt_nodup {xs : List Int} (h : (srt xs).Pairwise (· < ·)) : xs.Nodup := by
  refine (srt_perm xs).nodup_iff.1 (h.imp (fun h => ?_))
  omega
theorem allV_ends' (walk : List Int → Int → Option (List Int)) (ns : List Int) (hw : ∀ vis, ∀ u ∈ ns, ∃ pt, walk vis u = some pt) : ∀ (l vis : List Int) (out : List (List Int)), (∀ u ∈ l, u ∈ ns) → ∃ r, allV walk l vis out = some r := by
  intro l
  induction l with
  | nil => intro vis out _; exact ⟨_, rfl⟩
  | cons u l ih =>
    intro vis out hl
    have hl2 : ∀ x ∈ l, x ∈ ns := fun x hx => hl x (by simp [hx])
    by_cases h : u ∈ vis
    · obtain ⟨r, hr⟩ := ih vis out hl2
      exact ⟨r, by rw [allV, if_pos h]; exact hr⟩
    · obtain ⟨pt, hpt⟩ := hw vis u (hl u (by simp))
      obtain ⟨r, hr⟩ := ih (vis ++ pt) (out ++ [pt]) hl2
      exact ⟨r, by rw [allV, if_neg h, hpt]; exact hr⟩
theorem walkD_some (zs : List Int) (es : List S34) (hz : zs.length ≤ 90) (vis : List Int) (u : Int) (hu : u ∈ zs) : ∃ pt, walkD zs es vis u = some pt := by
  refine dfsV_ends (outN zs es) vis zs (fun u v hv => (outN_mem hv).1) 9000 [u] [] (fun x hx => by simp at hx; subst hx; exact hu) ?_
  have := lefts_bound (fun u => (outN zs es u).length) 90 (fun u => Nat.le_trans (outN_len zs es u) hz) (vis ++ []) zs
  simp only [List.length_singleton]
  have h2 : zs.length * 90 ≤ 90 * 90 := Nat.mul_le_mul_right _ hz
  omega

theorem srt_part {ns pt : List Int} (hns : ns.Pairwise (· < ·)) (hnd : pt.Nodup) (hin : ∀ x ∈ pt, x ∈ ns) : srt pt = ns.filter fun v => decide (v ∈ pt) := by
  refine int_ext (srt_lt hnd) (hns.filter _) fun x => ?_
  rw [mem_srt, List.mem_filter]
  exact ⟨fun h => ⟨hin x h, decide_eq_true h⟩, fun h => of_decide_eq_true h.2⟩
/-- what Components answers of a good undirected graph -/
theorem comps_f (zs : List Int) (es : List S34) (hz : zs.length ≤ 90) (he : es.length ≤ 1000000) (hwf : ∀ x ∈ zs, (Lit.int .i64 x).wf = true) (hro : readOk zs es = true) :
    impl_Components.f false zs es = some (canonC (RchW (outN zs (dbl false es))) (srt zs), false) := by
  obtain ⟨h1, h2⟩ := read_good hro
  obtain ⟨out, hout⟩ := allV_ends' (walkD zs (dbl false es)) zs (fun vis u hu => walkD_some zs _ hz vis u hu) (srt zs) [] [] (fun u hu => (mem_srt _ _).1 hu)
  have hcs := parts_comps hro (walkD zs (dbl false es)) (fun vis u pt a b c => walkD_ok zs (dbl false es) vis u pt a b c) hout
  have hsy : ∀ u v, v ∈ outN zs (dbl false es) u → u ∈ outN zs (dbl false es) v := fun u v hv => outN_sym (outN_in (dbl_good (zs := zs) false h2) hv) hv
  have hcn := hcs.canon h1 hsy
  have hsm : out.map srt = canonC (RchW (outN zs (dbl false es))) (srt zs) := by
    rw [← hcn]
    refine List.map_congr_left fun pt hpt => ?_
    obtain ⟨u, hu, l, rfl, hm, hnd, _⟩ := hcs.parts pt hpt
    exact (srt_part h1 hnd (fun x hx => rch_in zs _ u hu x ((hm x).1 hx))).trans (List.filter_congr fun x _ => decide_eq_decide.2 Iff.rfl)
  have hns := hcs.srt_nodup (rch_in zs _)
  have hlex := canonC_lex (rch_eqv hsy) h1
  unfold impl_Components.f
  rw [if_pos ⟨hz, he, List.all_eq_true.2 hwf⟩, if_pos (by rw [hro]; rfl), hout]
  simp only [Option.map_some]
  have : sortL (out.map srt) = canonC (RchW (outN zs (dbl false es))) (srt zs) := by
    rw [hsm] at hns ⊢
    exact (sortL_eq hns (List.Perm.refl _) hlex).symm
  rw [this]
theorem canonC_small {zs : List Int} {R : Int → Int → Prop} (hE : Eqv R) (h1 : (srt zs).Pairwise (· < ·)) (hz : zs.length ≤ 1000) : smallL (canonC R (srt zs)) = true := by
  refine smallL_iff.2 ⟨?_, fun q hq => ?_⟩
  · unfold canonC
    rw [List.length_map]
    have := List.length_filter_le (fun u => (open Classical in decide (∀ w ∈ srt zs, R u w → u ≤ w))) (srt zs)
    rw [srt_length] at this
    omega
  · obtain ⟨w, hw, rfl⟩ := (canonC_mem hE h1 q).1 hq
    have := List.length_filter_le (fun x => (open Classical in decide (R w x))) (srt zs)
    rw [srt_length] at this
    omega
end Go.Proofs.YtolbfjjgdheikaaGreat.R
