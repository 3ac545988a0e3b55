import Derived.Test.YtolbfjjgdheikaaGreatCPC
import Derived.Test.YtolbfjjgdheikaaGreatCV5
set_option linter.unusedVariables false
set_option linter.unusedSimpArgs false
/- FnComponentsJoined answers true, in plain lists. -/
namespace Go.Proofs.YtolbfjjgdheikaaGreat.R
open Go.RowKit Go.Lab Go.Proofs.YtolbfjjgdheikaaGreatW.PrintWords PL Q

theorem joined_adj {zs : List Int} (es : List S34) {u v : Int} (hu : u ∈ zs) (hv : v ∈ zs) : Joined (outN zs (dbl false es)) (outN zs (dbl false (es ++ [⟨u, v, 0⟩]))) u v := by
  intro x y
  unfold outN
  have hd : dbl false (es ++ [⟨u, v, 0⟩]) = dbl false es ++ [⟨u, v, 0⟩, ⟨v, u, 0⟩] := by
    unfold dbl
    rw [if_neg (by decide), if_neg (by decide), List.flatMap_append]
    rfl
  rw [List.mem_filter, List.mem_filter, arcW_some, arcW_some, hd, mem_srt]
  constructor
  · rintro ⟨h1, e, he, h2, h3⟩
    rcases List.mem_append.1 he with he | he
    · exact .inl ⟨h1, e, he, h2, h3⟩
    · rcases List.mem_cons.1 he with rfl | he
      · exact .inr (.inl ⟨h2.symm, h3.symm⟩)
      · rw [List.mem_singleton] at he
        subst he
        exact .inr (.inr ⟨h2.symm, h3.symm⟩)
  · rintro (⟨h1, e, he, h2, h3⟩ | ⟨rfl, rfl⟩ | ⟨rfl, rfl⟩)
    · exact ⟨h1, e, List.mem_append.2 (.inl he), h2, h3⟩
    · exact ⟨hv, ⟨x, y, 0⟩, by simp, rfl, rfl⟩
    · exact ⟨hu, ⟨x, y, 0⟩, by simp, rfl, rfl⟩

theorem rdL (l : List (List Int)) (i : Nat) (h : i < l.length) : rd_L2 l (i : Int) = l[i] := by unfold rd_L2; simp [List.getD_eq_getElem?_getD, h]
def togB (l : List (List Int)) (u v : Int) : Bool := l.any fun q => decide (u ∈ q) && decide (v ∈ q)
theorem together_l0 (l : List (List Int)) (u v : Int) (hs : smallL l = true) : ∀ m i, l.length - i ≤ m → i ≤ l.length → Ev (fun k => laws_together.l0 k l u v (i : Int)) (togB (l.drop i) u v)
  | 0, i, hm, hi => by
    refine Ev.step (fun k => ?_) (Ev.now _)
    simp only [laws_together.l0]
    rw [if_neg (by omega), List.drop_eq_nil_of_le (by omega)]; rfl
  | m + 1, i, hm, hi => by
    obtain ⟨hl, hr⟩ := smallL_iff.1 hs
    by_cases hlt : i < l.length
    · have w2 : wrap64 ((i : Int) + 1) = ((i + 1 : Nat) : Int) := by unfold wrap64; omega
      have ih := together_l0 l u v hs m (i + 1) (by omega) (by omega)
      have hq := hr _ (List.getElem_mem hlt)
      rw [List.drop_eq_getElem_cons hlt]
      unfold togB at ih ⊢
      rw [List.any_cons]
      refine Ev.step (f := fun k => (laws_has.f k l[i] u).bind fun t => (if t = true then ((laws_has.f k l[i] v).bind fun t2 => (if t2 = true then (some true) else (laws_together.l0 k l u v ((i + 1 : Nat) : Int)))) else (laws_together.l0 k l u v ((i + 1 : Nat) : Int)))) (fun k => ?_) ?_
      · simp only [laws_together.l0]
        rw [if_pos (by omega), if_pos (by omega), rdL l i hlt, w2]
      · refine Ev.bind (has_ev l[i] u hq) ?_
        by_cases h1 : u ∈ l[i]
        · rw [decide_eq_true h1, Bool.true_and]
          refine Ev.congr (fun k => if_pos rfl) (Ev.bind (has_ev l[i] v hq) ?_)
          by_cases h2 : v ∈ l[i]
          · rw [decide_eq_true h2, Bool.true_or]
            exact Ev.congr (fun k => if_pos rfl) (Ev.now _)
          · rw [decide_eq_false h2, Bool.false_or]
            exact Ev.congr (fun k => if_neg (by simp)) ih
        · rw [decide_eq_false h1, Bool.false_and, Bool.false_or]
          exact Ev.congr (fun k => if_neg (by simp)) ih
    · refine Ev.step (fun k => ?_) (Ev.now _)
      simp only [laws_together.l0]
      rw [if_neg (by omega), List.drop_eq_nil_of_le (by omega)]; rfl
theorem together_ev (l : List (List Int)) (u v : Int) (hs : smallL l = true) : Ev (fun k => laws_together.f k l u v) (togB l u v) := by
  have := together_l0 l u v hs l.length 0 (by omega) (Nat.zero_le _)
  rw [List.drop_zero] at this
  exact Ev.congr (fun k => rfl) this

theorem joined_l0 (u v : Int) (l m W : List (List Int)) (B : List Int) (hs : smallL l = true) (hsm : smallL m = true) (hW : smallL (W ++ [srt B]) = true) (hB : B.length ≤ 100000) (hnd : (W ++ [srt B]).Nodup) (hfin : m = sortL (W ++ [srt B])) :
    ∀ n i want both, l.length - i ≤ n → i ≤ l.length → want ++ (l.drop i).filter (fun q => !inUV u v q) = W → both ++ ((l.drop i).filter (inUV u v)).flatten = B → Ev (fun k => laws_FnComponentsJoined.l0 k u v l false m false want both (i : Int)) true := by
  obtain ⟨hl, hr⟩ := smallL_iff.1 hs
  have hWl := (smallL_iff.1 hW).1
  rw [List.length_append] at hWl
  have stop : ∀ (i : Nat) (want : List (List Int)) (both : List Int), ¬ i < l.length → want ++ (l.drop i).filter (fun q => !inUV u v q) = W → both ++ ((l.drop i).filter (inUV u v)).flatten = B → Ev (fun k => laws_FnComponentsJoined.l0 k u v l false m false want both (i : Int)) true := by
    intro i want both hi h1 h2
    rw [List.drop_eq_nil_of_le (by omega)] at h1 h2
    simp only [List.filter_nil, List.append_nil, List.flatten_nil] at h1 h2
    subst h1 h2
    refine Ev.step (f := fun k => (laws_sorted.f k both).bind fun t435 => (if want.length < 5864062014805 then ((laws_sortedLists.f (want ++ [t435])).bind fun t441 => ((laws_sameLists.f m t441).bind fun t444 => (some t444))) else (none))) (fun k => ?_) ?_
    · simp only [laws_FnComponentsJoined.l0]
      rw [if_neg (by omega)]
      rfl
    · refine Ev.bind (sorted_ev both hB) ?_
      refine Ev.congr (fun k => ?_) (Ev.now true)
      rw [if_pos (by omega)]
      unfold laws_sortedLists.f
      rw [if_pos (by rw [hW, decide_eq_true hnd]; rfl)]
      simp only [Option.bind_some]
      unfold laws_sameLists.f
      rw [← hfin, if_pos (by rw [hsm]; rfl), decide_eq_true rfl]
      rfl
  intro n
  induction n with
  | zero => intro i want both hn hi h1 h2; exact stop i want both (by omega) h1 h2
  | succ n ih =>
    intro i want both hn hi h1 h2
    by_cases hlt : i < l.length
    · have w2 : wrap64 ((i : Int) + 1) = ((i + 1 : Nat) : Int) := by unfold wrap64; omega
      have hq := hr _ (List.getElem_mem hlt)
      rw [List.drop_eq_getElem_cons hlt, List.filter_cons] at h1 h2
      have hbl : both.length + l[i].length < 17592186044416 ∨ inUV u v l[i] = false := by
        cases hin : inUV u v l[i] with
        | false => exact .inr rfl
        | true =>
          left
          have := congrArg List.length h2
          rw [hin, if_pos rfl, List.flatten_cons, List.length_append, List.length_append] at this
          omega
      have hwl : want.length < 5864062014805 := by
        have := congrArg List.length h1
        rw [List.length_append] at this
        omega
      have taken : inUV u v l[i] = true → Ev (fun k => laws_FnComponentsJoined.l0 k u v l false m false want (both ++ l[i]) ((i + 1 : Nat) : Int)) true := fun hin => by
        rw [hin] at h1 h2
        rw [if_neg (by decide)] at h1
        rw [if_pos rfl, List.flatten_cons, ← List.append_assoc] at h2
        exact ih (i + 1) want (both ++ l[i]) (by omega) (by omega) h1 h2
      have left_ : inUV u v l[i] = false → Ev (fun k => laws_FnComponentsJoined.l0 k u v l false m false (want ++ [l[i]]) both ((i + 1 : Nat) : Int)) true := fun hin => by
        rw [hin] at h1 h2
        rw [if_pos (by decide)] at h1
        rw [if_neg (by decide)] at h2
        exact ih (i + 1) (want ++ [l[i]]) both (by omega) (by omega) (by rw [List.append_assoc]; exact h1) h2
      refine Ev.step (f := fun k => (laws_has.f k l[i] u).bind fun t446 => (if t446 = true then (if both.length + l[i].length < 17592186044416 then (laws_FnComponentsJoined.l0 k u v l false m false want (both ++ l[i]) ((i + 1 : Nat) : Int)) else (none)) else ((laws_has.f k l[i] v).bind fun t452 => (if t452 = true then (if both.length + l[i].length < 17592186044416 then (laws_FnComponentsJoined.l0 k u v l false m false want (both ++ l[i]) ((i + 1 : Nat) : Int)) else (none)) else (if want.length < 5864062014805 then (laws_FnComponentsJoined.l0 k u v l false m false (want ++ [l[i]]) both ((i + 1 : Nat) : Int)) else (none)))))) (fun k => ?_) ?_
      · simp only [laws_FnComponentsJoined.l0]
        rw [if_pos (by omega), if_pos (by omega), rdL l i hlt, w2]
      · refine Ev.bind (has_ev l[i] u hq) ?_
        by_cases g1 : u ∈ l[i]
        · have hin : inUV u v l[i] = true := by unfold inUV; rw [decide_eq_true g1]; rfl
          have hb : both.length + l[i].length < 17592186044416 := by rcases hbl with h | h; exact h; rw [hin] at h; cases h
          rw [decide_eq_true g1]
          exact Ev.congr (fun k => by rw [if_pos rfl, if_pos hb]) (taken hin)
        · rw [decide_eq_false g1]
          refine Ev.congr (fun k => if_neg (by simp)) (Ev.bind (has_ev l[i] v hq) ?_)
          by_cases g2 : v ∈ l[i]
          · have hin : inUV u v l[i] = true := by unfold inUV; rw [decide_eq_true g2, Bool.or_true]
            have hb : both.length + l[i].length < 17592186044416 := by rcases hbl with h | h; exact h; rw [hin] at h; cases h
            rw [decide_eq_true g2]
            exact Ev.congr (fun k => by rw [if_pos rfl, if_pos hb]) (taken hin)
          · have hin : inUV u v l[i] = false := by unfold inUV; rw [decide_eq_false g1, decide_eq_false g2]; rfl
            rw [decide_eq_false g2]
            exact Ev.congr (fun k => by rw [if_neg (by simp), if_pos hwl]) (left_ hin)
    · exact stop i want both hlt h1 h2

theorem joined_ev (zs : List Int) (es : List S34) (u v : Int) (hz : zs.length ≤ 25) (he : es.length ≤ 200) (hwf : ∀ x ∈ zs, (Lit.int .i64 x).wf = true) (hro : readOk zs es = true) (huv : u ≠ v) (hu : u ∈ zs) (hv : v ∈ zs) :
    Ev (fun k => laws_FnComponentsJoined.j0 k u v false false zs es) true := by
  obtain ⟨h1, h2⟩ := read_good hro
  have hro' : readOk zs (es ++ [⟨u, v, 0⟩]) = true := by
    unfold readOk
    rw [decide_eq_true h1, Bool.true_and, List.all_append, h2, Bool.true_and]
    unfold goodE
    simp [hu, hv, huv]
  have h2' := (read_good hro').2
  have hsy : ∀ a b, b ∈ outN zs (dbl false es) a → a ∈ outN zs (dbl false es) b := fun a b hb => outN_sym (outN_in (dbl_good (zs := zs) false h2) hb) hb
  have hsy' : ∀ a b, b ∈ outN zs (dbl false (es ++ [⟨u, v, 0⟩])) a → a ∈ outN zs (dbl false (es ++ [⟨u, v, 0⟩])) b := fun a b hb => outN_sym (outN_in (dbl_good (zs := zs) false h2') hb) hb
  have e1 := comps_f zs es (by omega) (by omega) hwf hro
  have e2 := comps_f zs (es ++ [⟨u, v, 0⟩]) (by omega) (by simp; omega) hwf hro'
  have ew : laws_with.f false zs es u v 0 = some (false, zs, es ++ [⟨u, v, 0⟩]) := by
    unfold laws_with.f impl_Edge.f
    rw [if_pos (by omega)]
    simp only [Option.bind_some, List.length_singleton]
    rw [if_pos (by omega)]
  have hj := joined_adj es hu hv (zs := zs)
  have E := rch_eqv hsy
  have E' := rch_eqv hsy'
  have hus := (mem_srt zs u).2 hu
  have hvs := (mem_srt zs v).2 hv
  have hs1 := canonC_small E h1 (by omega)
  have hs2 := canonC_small E' h1 (by omega)
  refine Ev.step (f := fun k => (laws_together.f k (canonC (RchW (outN zs (dbl false es))) (srt zs)) u v).bind fun t433 => (if t433 = true then ((laws_sameLists.f (canonC (RchW (outN zs (dbl false es))) (srt zs)) (canonC (RchW (outN zs (dbl false (es ++ [⟨u, v, 0⟩])))) (srt zs))).bind fun t434 => (some t434)) else (laws_FnComponentsJoined.l0 k u v (canonC (RchW (outN zs (dbl false es))) (srt zs)) false (canonC (RchW (outN zs (dbl false (es ++ [⟨u, v, 0⟩])))) (srt zs)) false ([] : List (List Int)) ([] : List Int) ((0 : Nat) : Int)))) (fun k => ?_) ?_
  · simp only [laws_FnComponentsJoined.j0]
    rw [if_neg (by decide), e1]
    simp only [Option.bind_some]
    rw [ew]
    simp only [Option.bind_some]
    rw [e2]
    rfl
  · refine Ev.bind (together_ev _ u v hs1) ?_
    have htog : togB (canonC (RchW (outN zs (dbl false es))) (srt zs)) u v = true ↔ RchW (outN zs (dbl false es)) u v := by
      unfold togB
      rw [List.any_eq_true]
      constructor
      · rintro ⟨q, hq, hh⟩
        rw [Bool.and_eq_true, decide_eq_true_iff, decide_eq_true_iff] at hh
        obtain ⟨w, hw, rfl⟩ := (canonC_mem E h1 q).1 hq
        have a1 := (open Classical in of_decide_eq_true (List.mem_filter.1 hh.1).2)
        have a2 := (open Classical in of_decide_eq_true (List.mem_filter.1 hh.2).2)
        exact (E.symm _ _ a1 : RchW _ u w).trans a2
      · intro h
        refine ⟨_, (canonC_mem E h1 _).2 ⟨u, hus, rfl⟩, ?_⟩
        rw [Bool.and_eq_true, decide_eq_true_iff, decide_eq_true_iff]
        exact (open Classical in ⟨List.mem_filter.2 ⟨hus, decide_eq_true (E.refl u)⟩, List.mem_filter.2 ⟨hvs, decide_eq_true h⟩⟩)
    cases ht : togB (canonC (RchW (outN zs (dbl false es))) (srt zs)) u v with
    | true =>
      have hR := joined_same hsy hj (htog.1 ht)
      refine Ev.congr (fun k => if_pos rfl) (Ev.congr (fun k => ?_) (Ev.now true))
      unfold laws_sameLists.f
      rw [if_pos (by rw [hs1, hs2]; rfl), hR, decide_eq_true rfl]
      rfl
    | false =>
      refine Ev.congr (fun k => if_neg (by simp)) ?_
      obtain ⟨p1, p2⟩ := joined_parts hsy hsy' hj h1 hus hvs
      obtain ⟨q1, q2⟩ := joined_all hsy hsy' hj h1 hus hvs
      have hB : srt ((canonC (RchW (outN zs (dbl false es))) (srt zs)).filter (inUV u v)).flatten = (srt zs).filter fun x => (open Classical in decide (RchW (outN zs (dbl false (es ++ [⟨u, v, 0⟩]))) u x)) :=
        int_ext (srt_lt q2) (h1.filter _) (fun x => by rw [mem_srt]; exact q1 x)
      have hBl : ((canonC (RchW (outN zs (dbl false es))) (srt zs)).filter (inUV u v)).flatten.length ≤ 25 := by
        have := nodup_len q2 (xs := srt zs) (fun x hx => (List.mem_filter.1 ((q1 x).1 hx)).1)
        rw [srt_length] at this
        omega
      refine joined_l0 u v _ _ ((canonC (RchW (outN zs (dbl false es))) (srt zs)).filter fun q => !inUV u v q) ((canonC (RchW (outN zs (dbl false es))) (srt zs)).filter (inUV u v)).flatten hs1 hs2 ?_ (by omega) ?_ ?_ _ 0 [] [] (Nat.le_refl _) (Nat.zero_le _) (by simp) (by simp)
      · obtain ⟨a1, a2⟩ := smallL_iff.1 hs1
        refine smallL_iff.2 ⟨?_, fun q hq => ?_⟩
        · rw [List.length_append, List.length_singleton]
          have hc : (canonC (RchW (outN zs (dbl false es))) (srt zs)).length ≤ 25 := by
            unfold canonC
            rw [List.length_map]
            have := List.length_filter_le (fun u => (open Classical in decide (∀ w ∈ srt zs, RchW (outN zs (dbl false es)) u w → u ≤ w))) (srt zs)
            rw [srt_length] at this
            omega
          have := List.length_filter_le (fun q => !inUV u v q) (canonC (RchW (outN zs (dbl false es))) (srt zs))
          omega
        · rcases List.mem_append.1 hq with hq | hq
          · exact a2 q (List.mem_filter.1 hq).1
          · rw [List.mem_singleton] at hq
            subst hq
            rw [srt_length]
            omega
      · rw [hB]; exact p2
      · rw [hB]
        exact ord_ext (fun x y => lexB x y = true) (fun x y h1 h2 => by rw [lexB_asymm h1] at h2; cases h2) (canonC_lex E' h1) (sortL_lt p2) (fun x => by rw [p1 x, (sortL_perm _).mem_iff])

/-- the law, in plain lists -/
theorem componentsJoined_ev (d : Bool) (zs : List Int) (es : List S34) (u v : Int) (hwf : ∀ x ∈ zs, (Lit.int .i64 x).wf = true) : Ev (fun k => laws_FnComponentsJoined.f k d zs es u v) true := by
  by_cases hz : (decide (zs.length ≤ 2147483647) && decide (es.length ≤ 2147483647)) = true
  · simp only [Bool.and_eq_true, decide_eq_true_eq] at hz
    have h0 : laws_zzFits1.f d zs es = some true := by
      unfold laws_zzFits1.f
      rw [if_neg (by omega), if_neg (by omega)]
    have out_ : Ev (fun k => laws_FnComponentsJoined.j0 k u v true d zs es) true := Ev.step (fun k => by simp only [laws_FnComponentsJoined.j0]; rw [if_pos trivial]) (Ev.now _)
    refine Ev.congr (fun k => by unfold laws_FnComponentsJoined.f; rw [h0]; rfl) (Ev.bind (fewOf_ev d false zs es 25 (by omega)) ?_)
    cases hf : fewB d false zs es 25 with
    | false => exact Ev.congr (fun k => if_neg (by simp)) out_
    | true =>
      unfold fewB at hf
      simp only [Bool.and_eq_true, decide_eq_true_eq, beq_iff_eq] at hf
      obtain ⟨rfl, h1, h2, hro⟩ := hf
      refine Ev.congr (fun k => if_pos rfl) ?_
      by_cases huv : u = v
      · exact Ev.congr (fun k => if_pos huv) out_
      · refine Ev.congr (fun k => if_neg huv) (Ev.bind (has_ev zs u (by omega)) ?_)
        by_cases hu : u ∈ zs
        · rw [decide_eq_true hu]
          refine Ev.congr (fun k => if_pos rfl) (Ev.bind (has_ev zs v (by omega)) ?_)
          by_cases hv : v ∈ zs
          · rw [decide_eq_true hv]
            exact joined_ev zs es u v h1 (by omega) hwf hro huv hu hv
          · rw [decide_eq_false hv]
            exact out_
        · rw [decide_eq_false hu]
          exact Ev.congr (fun k => if_neg (by simp)) out_
  · refine Ev.congr (fun k => ?_) (Ev.now _)
    unfold laws_FnComponentsJoined.f laws_zzFits1.f
    simp only [Bool.and_eq_true, decide_eq_true_eq] at hz
    by_cases h1 : (zs.length : Int) > 2147483647
    · rw [if_pos h1]; rfl
    · rw [if_neg h1, if_pos (by omega)]; rfl
end Go.Proofs.YtolbfjjgdheikaaGreat.R
