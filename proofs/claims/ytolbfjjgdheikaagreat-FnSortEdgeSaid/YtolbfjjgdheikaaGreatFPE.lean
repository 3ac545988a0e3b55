import Derived.Test.YtolbfjjgdheikaaGreatFG3
import Derived.Test.YtolbfjjgdheikaaGreatFV8
set_option linter.unusedVariables false
set_option linter.unusedSimpArgs false
/- FnSortEdge answers true, in plain lists. -/
namespace Go.Proofs.YtolbfjjgdheikaaGreat.R
open Go.RowKit Go.Lab Go.Proofs.YtolbfjjgdheikaaGreatW.PrintWords PL Q

/-- no two nodes that reach each other -/
def Acyc (adj : Int → List Int) (ns : List Int) : Prop := ∀ x ∈ ns, ∀ y ∈ ns, RchW adj x y → RchW adj y x → x = y
theorem ones_acyc {adj : Int → List Int} {ns : List Int} {out : List (List Int)} (h : SccOk adj ns out) (hsub : ∀ c ∈ out, ∀ x ∈ c, x ∈ ns) : ones out = true ↔ Acyc adj ns := by
  rw [ones_iff]
  constructor
  · intro h1 x hx y hy hxy hyx
    obtain ⟨c, hc, hxc⟩ := h.all x hx
    obtain ⟨z, rfl⟩ := List.length_eq_one_iff.1 (h1 c hc)
    obtain ⟨_, r, hr, hm⟩ := h.comp _ hc
    obtain rfl := List.mem_singleton.1 hxc
    obtain rfl := List.mem_singleton.1 hr
    have := (hm y).2 ⟨hxy, hyx⟩
    exact (List.mem_singleton.1 this).symm
  · intro ha c hc
    obtain ⟨hnd, r, hr, hm⟩ := h.comp c hc
    have all : ∀ y ∈ c, y = r := fun y hy => (ha r (hsub c hc r hr) y (hsub c hc y hy) ((hm y).1 hy).1 ((hm y).1 hy).2).symm
    cases c with
    | nil => cases hr
    | cons a l =>
      cases l with
      | nil => rfl
      | cons b l =>
        have e1 := all a (by simp)
        have e2 := all b (by simp)
        exact absurd (by rw [e1, e2] : a = b) (by
          have := (List.nodup_cons.1 hnd).1
          intro e
          exact this (by rw [e]; simp))
theorem rch_more {adj adj' : Int → List Int} {u v : Int} (hj : ∀ x y, y ∈ adj' x ↔ y ∈ adj x ∨ (x = u ∧ y = v)) (x y : Int) : RchW adj' x y ↔ RchW adj x y ∨ (RchW adj x u ∧ RchW adj v y) := by
  constructor
  · intro h
    refine h (fun z => RchW adj x z ∨ (RchW adj x u ∧ RchW adj v z)) (.inl RchW.here) fun z hz w hw => ?_
    rcases (hj z w).1 hw with h1 | ⟨rfl, rfl⟩
    · rcases hz with hz | ⟨hz1, hz2⟩
      · exact .inl (hz.step h1)
      · exact .inr ⟨hz1, hz2.step h1⟩
    · rcases hz with hz | ⟨hz1, hz2⟩
      · exact .inr ⟨hz, RchW.here⟩
      · exact .inr ⟨hz1, RchW.here⟩
  · have mono : ∀ a b, RchW adj a b → RchW adj' a b := fun a b h => h (fun z => RchW adj' a z) RchW.here fun z hz w hw => hz.step ((hj z w).2 (.inl hw))
    rintro (h | ⟨h1, h2⟩)
    · exact mono x y h
    · exact ((mono x u h1).step ((hj u v).2 (.inr ⟨rfl, rfl⟩))).trans (mono v y h2)
theorem acyc_more {adj adj' : Int → List Int} {ns : List Int} {u v : Int} (hj : ∀ x y, y ∈ adj' x ↔ y ∈ adj x ∨ (x = u ∧ y = v)) (huv : u ≠ v) (hu : u ∈ ns) (hv : v ∈ ns) : Acyc adj' ns ↔ Acyc adj ns ∧ ¬ RchW adj v u := by
  have R := rch_more hj
  constructor
  · intro h
    refine ⟨fun x hx y hy a b => h x hx y hy ((R x y).2 (.inl a)) ((R y x).2 (.inl b)), fun hvu => huv ?_⟩
    exact h u hu v hv ((R u v).2 (.inr ⟨RchW.here, RchW.here⟩)) ((R v u).2 (.inl hvu))
  · rintro ⟨h, hn⟩ x hx y hy a b
    rcases (R x y).1 a with a | ⟨a1, a2⟩
    · rcases (R y x).1 b with b | ⟨b1, b2⟩
      · exact h x hx y hy a b
      · exact absurd ((b2.trans a).trans b1) hn
    · rcases (R y x).1 b with b | ⟨b1, b2⟩
      · exact absurd ((a2.trans b).trans a1) hn
      · exact absurd (a2.trans b1) hn
theorem outN_more {zs : List Int} (es : List S34) {u v : Int} (hv : v ∈ zs) (x y : Int) : y ∈ outN zs (es ++ [⟨u, v, 0⟩]) x ↔ y ∈ outN zs es x ∨ (x = u ∧ y = v) := by
  unfold outN
  rw [List.mem_filter, List.mem_filter, arcW_some, arcW_some, mem_srt]
  constructor
  · rintro ⟨h1, e, he, h2, h3⟩
    rcases List.mem_append.1 he with he | he
    · exact .inl ⟨h1, e, he, h2, h3⟩
    · rw [List.mem_singleton] at he
      subst he
      exact .inr ⟨h2.symm, h3.symm⟩
  · rintro (⟨h1, e, he, h2, h3⟩ | ⟨rfl, rfl⟩)
    · exact ⟨h1, e, List.mem_append.2 (.inl he), h2, h3⟩
    · exact ⟨hv, ⟨x, y, 0⟩, by simp, rfl, rfl⟩
/-- what impl.Sort tells of a good directed graph -/
theorem sort_f (zs : List Int) (es : List S34) (hz : zs.length ≤ 90) (he : es.length ≤ 100000) (hwf : ∀ x ∈ zs, (Lit.int .i64 x).wf = true) (hro : readOk zs es = true) :
    ∃ b : Bool, impl_SortO.f true zs es = some ([], [], b, false) ∧ (b = true ↔ Acyc (outN zs es) (srt zs)) := by
  obtain ⟨r, hr, hok, _, hsub⟩ := sccs_all (adj := outN zs es) (ns := srt zs) (fun u x hx => (mem_srt _ _).2 (outN_mem' hx).1) 1000 (by rw [srt_length]; omega)
  refine ⟨ones r.out, ?_, ones_acyc hok hsub⟩
  unfold impl_SortO.f impl_Sort.f
  rw [if_pos ⟨hz, by omega, List.all_eq_true.2 hwf⟩, hro, hr]
  rfl
theorem path_f (zs : List Int) (es : List S34) (hz : zs.length ≤ 90) (he : es.length ≤ 100000) (hwf : ∀ x ∈ zs, (Lit.int .i64 x).wf = true) (hro : readOk zs es = true) (u v : Int) (hu : u ∈ zs) :
    ∃ b : Bool, impl_PathExistsIn.f true zs es u v = some (b, false) ∧ (b = true ↔ RchW (outN zs es) u v) := by
  obtain ⟨r, hr⟩ := bfsV_ends (outN zs es) [] zs (fun u v hv => (outN_mem' hv).1) 9000 [u] [] (by
    have := lefts_bound (fun _ => 1) 1 (fun _ => Nat.le_refl _) ([] ++ [] ++ [u]) zs
    simp only [List.length_singleton]
    omega)
  obtain ⟨b, hb⟩ := bfsT_ends (outN zs es) v 9000 [u] [] r hr
  refine ⟨b, ?_, bfsT_iff hb⟩
  unfold impl_PathExistsIn.f
  rw [if_pos ⟨hz, by omega, List.all_eq_true.2 hwf, by rw [hro]; rfl, hu⟩, hb]
  rfl
theorem isPath_f (zs : List Int) (es : List S34) (hz : zs.length ≤ 90) (he : es.length ≤ 100000) (hro : readOk zs es = true) : impl_IsPathIn.f true zs es [] = some (true, false) := by
  unfold impl_IsPathIn.f
  rw [if_pos ⟨hz, by omega, by rw [hro]; rfl, rfl⟩]
theorem sortEdge_j (zs : List Int) (es : List S34) (u v : Int) (hz : zs.length ≤ 25) (he : es.length ≤ 200) (hwf : ∀ x ∈ zs, (Lit.int .i64 x).wf = true) (hro : readOk zs es = true) (huv : u ≠ v) (hu : u ∈ zs) (hv : v ∈ zs) :
    Ev (fun k => laws_FnSortEdge.j0 k u v false true zs es) true := by
  obtain ⟨h1, h2⟩ := read_good hro
  have hro' : readOk zs (es ++ [⟨u, v, 0⟩]) = true := by
    unfold readOk
    rw [decide_eq_true h1, Bool.true_and, List.all_append, h2, Bool.true_and]
    unfold goodE
    simp [hu, hv, huv]
  obtain ⟨b1, e1, k1⟩ := sort_f zs es (by omega) (by omega) hwf hro
  obtain ⟨b2, e2, k2⟩ := sort_f zs (es ++ [⟨u, v, 0⟩]) (by omega) (by simp; omega) hwf hro'
  obtain ⟨b3, e3, k3⟩ := path_f zs es (by omega) (by omega) hwf hro v u hv
  have e4 := isPath_f zs es (by omega) (by omega) hro
  have ew : laws_with.f true zs es u v 0 = some (true, zs, es ++ [⟨u, v, 0⟩]) := by
    unfold laws_with.f impl_Edge.f
    rw [if_pos (by omega)]
    simp only [Option.bind_some, List.length_singleton]
    rw [if_pos (by omega)]
  have hk := acyc_more (outN_more es hv) huv ((mem_srt _ _).2 hu) ((mem_srt _ _).2 hv) (adj := outN zs es) (adj' := outN zs (es ++ [⟨u, v, 0⟩]))
  rw [← k1, ← k2, ← k3] at hk
  refine Ev.step (fun k => ?_) (Ev.now true)
  simp only [laws_FnSortEdge.j0]
  rw [if_neg (by decide), e1]
  simp only [Option.bind_some]
  rw [if_neg (by decide), ew]
  simp only [Option.bind_some]
  rw [e2, e3, e4]
  simp only [Option.bind_some]
  cases b1 <;> cases b2 <;> cases b3 <;> simp at hk ⊢
/-- the law, in plain lists -/
theorem sortEdge_ev (d : Bool) (zs : List Int) (es : List S34) (u v : Int) (hwf : ∀ x ∈ zs, (Lit.int .i64 x).wf = true) : Ev (fun k => laws_FnSortEdge.f k d zs es u v) true := by
  by_cases hz : (decide (zs.length ≤ 2147483647) && decide (es.length ≤ 2147483647)) = true
  · simp only [Bool.and_eq_true, decide_eq_true_eq] at hz
    have h0 : laws_zzFits1.f d zs es = some true := by
      unfold laws_zzFits1.f
      rw [if_neg (by omega), if_neg (by omega)]
    have out_ : Ev (fun k => laws_FnSortEdge.j0 k u v true d zs es) true := Ev.step (fun k => by simp only [laws_FnSortEdge.j0]; rw [if_pos trivial]) (Ev.now _)
    refine Ev.congr (fun k => by unfold laws_FnSortEdge.f; rw [h0]; rfl) (Ev.bind (fewOf_ev d true zs es 25 (by omega)) ?_)
    cases hf : fewB d true zs es 25 with
    | false => exact Ev.congr (fun k => if_neg (by simp)) out_
    | true =>
      unfold fewB at hf
      simp only [Bool.and_eq_true, decide_eq_true_eq, beq_iff_eq] at hf
      obtain ⟨rfl, h1, h2, hro⟩ := hf
      refine Ev.congr (fun k => if_pos rfl) ?_
      by_cases huv : u = v
      · exact Ev.congr (fun k => if_pos huv) out_
      · refine Ev.congr (fun k => if_neg huv) (Ev.bind (has_ev zs u (by omega)) ?_)
        by_cases hu : u ∈ zs
        · rw [decide_eq_true hu]
          refine Ev.congr (fun k => if_pos rfl) (Ev.bind (has_ev zs v (by omega)) ?_)
          by_cases hv : v ∈ zs
          · rw [decide_eq_true hv]
            exact sortEdge_j zs es u v h1 (by omega) hwf hro huv hu hv
          · rw [decide_eq_false hv]
            exact out_
        · rw [decide_eq_false hu]
          exact Ev.congr (fun k => if_neg (by simp)) out_
  · refine Ev.congr (fun k => ?_) (Ev.now _)
    unfold laws_FnSortEdge.f laws_zzFits1.f
    simp only [Bool.and_eq_true, decide_eq_true_eq] at hz
    by_cases h1 : (zs.length : Int) > 2147483647
    · rw [if_pos h1]; rfl
    · rw [if_neg h1, if_pos (by omega)]; rfl
end Go.Proofs.YtolbfjjgdheikaaGreat.R
