import Derived.Test.YtolbfjjgdheikaaGreatFK8
set_option linter.unusedVariables false
set_option linter.unusedSimpArgs false
/- impl.Components: the parts, each ascending, in order. -/
namespace Go.Proofs.YtolbfjjgdheikaaGreat.R
open Go.RowKit Go.Lab Go.Maps Go.Proofs.YtolbfjjgdheikaaGreatW.PrintWords Go.Proofs.YtolbfjjgdheikaaGreatW.PrintLast Go.Proofs.YtolbfjjgdheikaaGreatW.PrintMore PL

/-- lists in order -/
def sortL (qs : List (List Int)) : List (List Int) := qs.mergeSort fun x y => !lexB y x
theorem sortL_perm (qs : List (List Int)) : (sortL qs).Perm qs := List.mergeSort_perm _ _
theorem sortL_le (qs : List (List Int)) : (sortL qs).Pairwise fun x y => lexB y x = false := by
  have h1 := List.pairwise_mergeSort (le := fun x y => !lexB y x)
    (fun a b c h1 h2 => by simp at *; exact lexB_ntrans h2 h1)
    (fun a b => by
      cases h4 : lexB b a with
      | false => rfl
      | true => rw [lexB_asymm h4]; rfl) qs
  exact h1.imp fun h => by simpa using h
theorem sortL_lt {qs : List (List Int)} (h : qs.Nodup) : (sortL qs).Pairwise fun x y => lexB x y = true := by
  refine ((sortL_le qs).and ((sortL_perm qs).nodup_iff.2 h)).imp ?_
  rintro x y ⟨h1, h3⟩
  cases h4 : lexB x y with
  | true => rfl
  | false => exact absurd (lexB_total h4 h1) h3
theorem sortL_eq {qs qs' : List (List Int)} (h : qs.Nodup) (hp : qs'.Perm qs) (hs : qs'.Pairwise fun x y => lexB x y = true) : qs' = sortL qs :=
  ord_ext (fun x y => lexB x y = true) (fun x y h1 h2 => by rw [lexB_asymm h1] at h2; cases h2) hs (sortL_lt h) (fun x => by rw [hp.mem_iff, (sortL_perm qs).mem_iff])

theorem read_good {zs : List Int} {es : List S34} (h : readOk zs es = true) : (srt zs).Pairwise (· < ·) ∧ es.all (goodE zs) = true := by
  unfold readOk at h
  simpa only [Bool.and_eq_true, decide_eq_true_eq] using h
theorem Comps.srt_nodup {adj : Int → List Int} {ns : List Int} {out : List (List Int)} (h : Comps adj ns out) (hin : ∀ u ∈ ns, ∀ v, RchW adj u v → v ∈ ns) : (out.map srt).Nodup := by
  unfold List.Nodup
  rw [List.pairwise_map]
  refine (List.Pairwise.and_mem.1 h.heads).imp ?_
  rintro a b ⟨ha, hb, hab⟩ e
  obtain ⟨u, hu, l, rfl, hm, _, hmin⟩ := h.parts a ha
  obtain ⟨v, hv, l2, rfl, hm2, _, hmin2⟩ := h.parts b hb
  have hmem : ∀ x, x ∈ u :: l ↔ x ∈ v :: l2 := fun x => by rw [← mem_srt, e, mem_srt]
  have h1 := hmin2 u hu ((hm2 u).1 ((hmem u).1 (by simp)))
  simp only [List.headD_cons] at hab
  omega
theorem Comps.len {adj : Int → List Int} {ns : List Int} {out : List (List Int)} (h : Comps adj ns out) (hin : ∀ u ∈ ns, ∀ v, RchW adj u v → v ∈ ns) : out.length ≤ ns.length ∧ ∀ q ∈ out, q.length ≤ ns.length := by
  constructor
  · have h1 : (out.map fun p => p.headD 0).Nodup := by
      unfold List.Nodup
      rw [List.pairwise_map]
      exact h.heads.imp fun h => by omega
    have := nodup_len h1 (xs := ns) (fun x hx => by
      obtain ⟨p, hp, rfl⟩ := List.mem_map.1 hx
      obtain ⟨u, hu, l, rfl, _⟩ := h.parts p hp
      exact hu)
    simpa using this
  · intro q hq
    obtain ⟨u, hu, l, rfl, hm, hnd, _⟩ := h.parts q hq
    exact nodup_len hnd fun x hx => hin u hu x ((hm x).1 hx)
end Go.Proofs.YtolbfjjgdheikaaGreat.R

namespace Go.Proofs.YtolbfjjgdheikaaGreat.PL
open Go.RowKit Go.Lab Go.Proofs.YtolbfjjgdheikaaGreatW.PrintWords Go.Proofs.YtolbfjjgdheikaaGreatW.PrintLast Go.Proofs.YtolbfjjgdheikaaGreatW.PrintMore
end Go.Proofs.YtolbfjjgdheikaaGreat.PL
