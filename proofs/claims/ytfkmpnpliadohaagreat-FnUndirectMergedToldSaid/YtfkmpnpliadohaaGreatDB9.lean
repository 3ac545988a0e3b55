import Derived.Test.YtfkmpnpliadohaaGreatDB7
import Derived.Test.YtfkmpnpliadohaaGreatDT6
import Derived.Test.YtfkmpnpliadohaaGreatDT7
import Derived.Test.YtfkmpnpliadohaaGreatDT9
set_option linter.unusedVariables false
set_option linter.unusedSimpArgs false
set_option linter.unusedVariables false
set_option linter.unusedSimpArgs false
/- Plain laws: spec's Well, Weight, Touch. -/
namespace Go.Proofs.YtfkmpnpliadohaaGreat.R
open Go.RowKit Go.Lab Go.Proofs.YtfkmpnpliadohaaGreatW.PrintWords PL Q

theorem rdE (l : List Int) (i : Nat) (h : i < l.length) : rd l (i : Int) = l[i] := by unfold rd; rw [Int.toNat_natCast, List.getD_eq_getElem?_getD, List.getElem?_eq_getElem h]; rfl

theorem hasI_l0 (l : List Int) (x : Int) (hl : l.length ≤ 100000) : ∀ m i, l.length - i ≤ m → i ≤ l.length → Ev (fun k => spec_hasInt.l0 k x l (l.length : Int) (i : Int)) (decide (x ∈ l.drop i))
  | 0, i, hm, hi => by
    refine Ev.step (fun k => ?_) (Ev.now _)
    simp only [spec_hasInt.l0]
    rw [if_neg (by omega), List.drop_eq_nil_of_le (by omega)]; simp
  | m + 1, i, hm, hi => by
    by_cases hlt : i < l.length
    · have w2 : wrap64 ((i : Int) + 1) = ((i + 1 : Nat) : Int) := by unfold wrap64; omega
      by_cases hx : l[i] = x
      · have : decide (x ∈ l.drop i) = true := by rw [List.drop_eq_getElem_cons hlt, hx]; simp
        rw [this]
        refine Ev.step (fun k => ?_) (Ev.now _)
        simp only [spec_hasInt.l0]
        rw [if_pos (by omega), if_pos (by omega), if_pos (by omega), rdE l i hlt, if_pos hx]
      · have : decide (x ∈ l.drop i) = decide (x ∈ l.drop (i + 1)) := by
          rw [List.drop_eq_getElem_cons hlt, decide_eq_decide, List.mem_cons]
          exact ⟨fun h => h.elim (fun h => absurd h.symm hx) id, .inr⟩
        rw [this]
        refine Ev.step (fun k => ?_) (hasI_l0 l x hl m (i + 1) (by omega) (by omega))
        simp only [spec_hasInt.l0]
        rw [if_pos (by omega), if_pos (by omega), if_pos (by omega), rdE l i hlt, if_neg hx, w2]
    · refine Ev.step (fun k => ?_) (Ev.now _)
      simp only [spec_hasInt.l0]
      rw [if_neg (by omega), List.drop_eq_nil_of_le (by omega)]; simp

theorem hasI_ev (l : List Int) (x : Int) (hl : l.length ≤ 100000) : Ev (fun k => spec_hasInt.f k l x) (decide (x ∈ l)) := by
  have := hasI_l0 l x hl l.length 0 (by omega) (Nat.zero_le _)
  rw [List.drop_zero] at this
  exact this

theorem twice_l0 (l : List Int) (hl : l.length ≤ 100000) : ∀ m i, l.length - i ≤ m → i ≤ l.length → ∃ r, Ev (fun k => spec_twice.l0 k l l (l.length : Int) (i : Int)) r ∧ (r = true ↔ ∃ j, i ≤ j ∧ ∃ h : j < l.length, l[j] ∈ l.take j)
  | 0, i, hm, hi => by
    refine ⟨false, Ev.step (fun k => ?_) (Ev.now _), ?_⟩
    · simp only [spec_twice.l0]
      rw [if_neg (by omega)]
    · constructor
      · intro h; cases h
      · rintro ⟨j, h1, h2, _⟩; omega
  | m + 1, i, hm, hi => by
    by_cases hlt : i < l.length
    · have w2 : wrap64 ((i : Int) + 1) = ((i + 1 : Nat) : Int) := by unfold wrap64; omega
      have a1 := hasI_ev (l.take i) l[i] (by rw [List.length_take]; omega)
      have hst : ∀ k, spec_twice.l0 (k + 1) l l (l.length : Int) (i : Int) = ((spec_hasInt.f k (l.take i) l[i]).bind fun t224 => (if t224 = true then (some true) else (spec_twice.l0 k l l (l.length : Int) ((i + 1 : Nat) : Int)))) := fun k => by
        simp only [spec_twice.l0]
        rw [if_pos (by omega), if_pos (by omega), if_pos (by omega), if_pos (by omega), rdE l i hlt, Int.toNat_natCast, w2]
      by_cases hx : l[i] ∈ l.take i
      · rw [decide_eq_true hx] at a1
        refine ⟨true, Ev.step hst (Ev.bind a1 (Ev.congr (fun k => if_pos rfl) (Ev.now _))), ?_⟩
        exact ⟨fun _ => ⟨i, Nat.le_refl _, hlt, hx⟩, fun _ => rfl⟩
      · rw [decide_eq_false hx] at a1
        obtain ⟨r, h1, h2⟩ := twice_l0 l hl m (i + 1) (by omega) (by omega)
        refine ⟨r, Ev.step hst (Ev.bind a1 (Ev.congr (fun k => if_neg (by simp)) h1)), ?_⟩
        rw [h2]
        constructor
        · rintro ⟨j, h3, h4, h5⟩; exact ⟨j, by omega, h4, h5⟩
        · rintro ⟨j, h3, h4, h5⟩
          refine ⟨j, ?_, h4, h5⟩
          rcases Nat.lt_or_ge i j with h | h
          · omega
          · have : j = i := by omega
            subst this; exact absurd h5 hx
    · refine ⟨false, Ev.step (fun k => ?_) (Ev.now _), ?_⟩
      · simp only [spec_twice.l0]
        rw [if_neg (by omega)]
      · constructor
        · intro h; cases h
        · rintro ⟨j, h1, h2, _⟩; omega

theorem twice_ev (l : List Int) (hl : l.length ≤ 100000) : Ev (fun k => spec_twice.f k l) (!decide ((srt l).Pairwise (· < ·))) := by
  obtain ⟨r, h1, h2⟩ := twice_l0 l hl l.length 0 (by omega) (Nat.zero_le _)
  have : r = !decide ((srt l).Pairwise (· < ·)) := by
    have h3 : (srt l).Pairwise (· < ·) ↔ l.Nodup := ⟨srt_nodup, srt_lt⟩
    have h4 : l.Nodup ↔ ¬ ∃ j, 0 ≤ j ∧ ∃ h : j < l.length, l[j] ∈ l.take j := by
      unfold List.Nodup
      rw [List.pairwise_iff_getElem]
      constructor
      · rintro h ⟨j, _, hj, hm⟩
        obtain ⟨i, hi, he⟩ := List.getElem_of_mem hm
        rw [List.length_take] at hi
        rw [List.getElem_take] at he
        exact h i j (by omega) hj (by omega) he
      · intro h i j hi hj hij he
        refine h ⟨j, Nat.zero_le _, hj, ?_⟩
        rw [← he]
        have : l[i] = (l.take j)[i]'(by rw [List.length_take]; omega) := by rw [List.getElem_take]
        rw [this]
        exact List.getElem_mem _
    by_cases hp : (srt l).Pairwise (· < ·)
    · rw [decide_eq_true hp]
      cases r with
      | false => rfl
      | true => exact absurd (h2.1 rfl) (h4.1 (h3.1 hp))
    · rw [decide_eq_false hp]
      cases r with
      | true => rfl
      | false =>
        exfalso
        refine hp (h3.2 (h4.2 fun h => ?_))
        cases h2.2 h
  rw [← this]
  exact h1

theorem wellS_l0 (d : Bool) (zs : List Int) (es : List S38) (hz : zs.length ≤ 100000) (he : es.length ≤ 100000) : ∀ m i, es.length - i ≤ m → i ≤ es.length → Ev (fun k => spec_Well.l0 k es (es.length : Int) (i : Int) d zs es) ((es.drop i).all (goodE zs) && decide ((srt zs).Pairwise (· < ·)))
  | 0, i, hm, hi => by
    refine Ev.step (f := fun k => (spec_twice.f k zs).bind fun t226 => (some (!t226))) (fun k => ?_) (Ev.bind (twice_ev zs hz) ?_)
    · simp only [spec_Well.l0]
      rw [if_neg (by omega)]
    · rw [List.drop_eq_nil_of_le (by omega), Bool.not_not]
      exact Ev.now _
  | m + 1, i, hm, hi => by
    by_cases hlt : i < es.length
    · have w2 : wrap64 ((i : Int) + 1) = ((i + 1 : Nat) : Int) := by unfold wrap64; omega
      have ih := wellS_l0 d zs es hz he m (i + 1) (by omega) (by omega)
      have hd : (es.drop i).all (goodE zs) = (goodE zs es[i] && (es.drop (i + 1)).all (goodE zs)) := by rw [List.drop_eq_getElem_cons hlt]; rfl
      rw [hd, Bool.and_assoc]
      have hr := rdT es i hlt
      generalize es[i] = e at hr
      by_cases h0 : e.f0 = e.f1
      · refine Ev.step (fun k => ?_) (Ev.now _)
        simp only [spec_Well.l0]
        rw [if_pos (by omega), if_pos (by omega), if_pos (by omega), hr, if_pos h0]
        have : goodE zs e = false := by unfold goodE; simp [h0]
        rw [this]; rfl
      · have a1 := hasI_ev zs e.f0 hz
        have a2 := hasI_ev zs e.f1 hz
        refine Ev.step (f := fun k => (spec_hasInt.f k zs e.f0).bind fun t122 => (if t122 = true then ((spec_hasInt.f k zs e.f1).bind fun t123 => (if t123 = true then (if e.f2 > 1099511627776 then (some false) else (if e.f2 < (-1099511627776) then (some false) else (spec_Well.l0 k es (es.length : Int) (wrap64 ((i : Int) + 1)) d zs es))) else (some false))) else (some false))) (fun k => ?_) ?_
        · simp only [spec_Well.l0]
          rw [if_pos (by omega), if_pos (by omega), if_pos (by omega), hr, if_neg h0]
        · by_cases m1 : e.f0 ∈ zs
          · by_cases m2 : e.f1 ∈ zs
            · rw [decide_eq_true m1] at a1
              rw [decide_eq_true m2] at a2
              by_cases g1 : 1099511627776 < e.f2
              · have hg : goodE zs e = false := by unfold goodE; simp [g1]
                rw [hg]
                refine Ev.bind a1 (Ev.congr (fun k => if_pos rfl) (Ev.bind a2 (Ev.congr (fun k => ?_) (Ev.now _))))
                rw [if_pos rfl, if_pos g1]; rfl
              · by_cases g2 : e.f2 < -1099511627776
                · have hg : goodE zs e = false := by unfold goodE; simp [g2]
                  rw [hg]
                  refine Ev.bind a1 (Ev.congr (fun k => if_pos rfl) (Ev.bind a2 (Ev.congr (fun k => ?_) (Ev.now _))))
                  rw [if_pos rfl, if_neg g1, if_pos g2]; rfl
                · have hg : goodE zs e = true := by unfold goodE; simp [m1, m2, h0, g1, g2]
                  rw [hg, Bool.true_and]
                  refine Ev.bind a1 (Ev.congr (fun k => if_pos rfl) (Ev.bind a2 (Ev.congr (fun k => ?_) ih)))
                  rw [if_pos rfl, if_neg g1, if_neg g2, w2]
            · rw [decide_eq_true m1] at a1
              rw [decide_eq_false m2] at a2
              have hg : goodE zs e = false := by unfold goodE; simp [m2]
              rw [hg]
              exact Ev.bind a1 (Ev.congr (fun k => if_pos rfl) (Ev.bind a2 (Ev.congr (fun k => if_neg (by simp)) (Ev.now _))))
          · rw [decide_eq_false m1] at a1
            have hg : goodE zs e = false := by unfold goodE; simp [m1]
            rw [hg]
            exact Ev.bind a1 (Ev.congr (fun k => if_neg (by simp)) (Ev.now _))
    · refine Ev.step (f := fun k => (spec_twice.f k zs).bind fun t226 => (some (!t226))) (fun k => ?_) (Ev.bind (twice_ev zs hz) ?_)
      · simp only [spec_Well.l0]
        rw [if_neg (by omega)]
      · rw [List.drop_eq_nil_of_le (by omega), Bool.not_not]
        exact Ev.now _

theorem wellS_ev (d : Bool) (zs : List Int) (es : List S38) (hz : zs.length ≤ 100000) (he : es.length ≤ 100000) : Ev (fun k => spec_Well.f k d zs es) (readOk zs es) := by
  have := wellS_l0 d zs es hz he es.length 0 (by omega) (Nat.zero_le _)
  rw [List.drop_zero, Bool.and_comm] at this
  exact this

/-- no weight is too great -/
def lightB (es : List S38) : Bool := es.all fun e => !decide (1099511627776 < e.f2) && !decide (e.f2 < -1099511627776)
theorem light_l0 (d : Bool) (zs : List Int) (es : List S38) (he : es.length ≤ 100000) : ∀ m i, es.length - i ≤ m → i ≤ es.length → Ev (fun k => laws_light.l0 k (i : Int) d zs es) (lightB (es.drop i))
  | 0, i, hm, hi => by
    refine Ev.step (fun k => ?_) (Ev.now _)
    simp only [laws_light.l0]
    rw [if_neg (by omega), List.drop_eq_nil_of_le (by omega)]; rfl
  | m + 1, i, hm, hi => by
    by_cases hlt : i < es.length
    · have w2 : wrap64 ((i : Int) + 1) = ((i + 1 : Nat) : Int) := by unfold wrap64; omega
      have ih := light_l0 d zs es he m (i + 1) (by omega) (by omega)
      have hd : lightB (es.drop i) = ((!decide (1099511627776 < es[i].f2) && !decide (es[i].f2 < -1099511627776)) && lightB (es.drop (i + 1))) := by rw [List.drop_eq_getElem_cons hlt]; rfl
      rw [hd]
      have hr := rdT es i hlt
      generalize es[i] = e at hr
      by_cases g1 : 1099511627776 < e.f2
      · refine Ev.step (fun k => ?_) (Ev.now _)
        simp only [laws_light.l0]
        rw [if_pos (by omega), if_pos (by omega), hr, if_pos g1, decide_eq_true g1]; rfl
      · by_cases g2 : e.f2 < -1099511627776
        · refine Ev.step (fun k => ?_) (Ev.now _)
          simp only [laws_light.l0]
          rw [if_pos (by omega), if_pos (by omega), hr, if_neg g1, if_pos g2, decide_eq_true g2, decide_eq_false g1]; rfl
        · rw [decide_eq_false g1, decide_eq_false g2]
          refine Ev.step (fun k => ?_) ih
          simp only [laws_light.l0]
          rw [if_pos (by omega), if_pos (by omega), hr, if_neg g1, if_neg g2, w2]
    · refine Ev.step (fun k => ?_) (Ev.now _)
      simp only [laws_light.l0]
      rw [if_neg (by omega), List.drop_eq_nil_of_le (by omega)]; rfl
theorem light_ev (d : Bool) (zs : List Int) (es : List S38) (he : es.length ≤ 100000) : Ev (fun k => laws_light.f k d zs es) (lightB es) := by
  have := light_l0 d zs es he es.length 0 (by omega) (Nat.zero_le _)
  rw [List.drop_zero] at this
  exact this

theorem weightS_l0 (zs : List Int) (es : List S38) (u v : Int) (he : es.length ≤ 100000) : ∀ m i, es.length - i ≤ m → i ≤ es.length → ∀ st : Option Int,
    Ev (fun k => spec_Weight.l0 k u v (st.getD 0) st.isSome es (es.length : Int) (i : Int) true zs es) ((((es.drop i).foldl (fun o e => if e.f0 = u ∧ e.f1 = v then some e.f2 else o) st).getD 0), ((es.drop i).foldl (fun o e => if e.f0 = u ∧ e.f1 = v then some e.f2 else o) st).isSome)
  | 0, i, hm, hi, st => by
    refine Ev.step (fun k => ?_) (Ev.now _)
    simp only [spec_Weight.l0]
    rw [if_neg (by omega), List.drop_eq_nil_of_le (by omega)]; rfl
  | m + 1, i, hm, hi, st => by
    by_cases hlt : i < es.length
    · have w2 : wrap64 ((i : Int) + 1) = ((i + 1 : Nat) : Int) := by unfold wrap64; omega
      rw [List.drop_eq_getElem_cons hlt, List.foldl_cons]
      have hr := rdT es i hlt
      generalize es[i] = e at hr
      by_cases h0 : e.f0 = u
      · by_cases h1 : e.f1 = v
        · rw [if_pos ⟨h0, h1⟩]
          refine Ev.step (fun k => ?_) (weightS_l0 zs es u v he m (i + 1) (by omega) (by omega) (some e.f2))
          simp only [spec_Weight.l0]
          rw [if_pos (by omega), if_pos (by omega), if_pos (by omega), hr, if_pos h0, if_pos h1, w2]; rfl
        · rw [if_neg (fun h => h1 h.2)]
          refine Ev.step (fun k => ?_) (weightS_l0 zs es u v he m (i + 1) (by omega) (by omega) st)
          simp only [spec_Weight.l0]
          rw [if_pos (by omega), if_pos (by omega), if_pos (by omega), hr, if_pos h0, if_neg h1, if_pos trivial, w2]
      · rw [if_neg (fun h => h0 h.1)]
        refine Ev.step (fun k => ?_) (weightS_l0 zs es u v he m (i + 1) (by omega) (by omega) st)
        simp only [spec_Weight.l0]
        rw [if_pos (by omega), if_pos (by omega), if_pos (by omega), hr, if_neg h0, if_pos trivial, w2]
    · refine Ev.step (fun k => ?_) (Ev.now _)
      simp only [spec_Weight.l0]
      rw [if_neg (by omega), List.drop_eq_nil_of_le (by omega)]; rfl
theorem weightS_ev (zs : List Int) (es : List S38) (u v : Int) (he : es.length ≤ 100000) : Ev (fun k => spec_Weight.f k true zs es u v) ((arcW es u v).getD 0, (arcW es u v).isSome) := by
  have := weightS_l0 zs es u v he es.length 0 (by omega) (Nat.zero_le _) none
  rw [List.drop_zero] at this
  exact this
theorem joinedS_ev (zs : List Int) (es : List S38) (u v : Int) (he : es.length ≤ 100000) : Ev (fun k => spec_Joined.f k true zs es u v) (arcW es u v).isSome :=
  Ev.bind (weightS_ev zs es u v he) (Ev.now _)
theorem touchS_ev (zs : List Int) (es : List S38) (u v : Int) (he : es.length ≤ 100000) : Ev (fun k => spec_Touch.f k true zs es u v) ((arcW es u v).isSome || (arcW es v u).isSome) := by
  refine Ev.bind (joinedS_ev zs es u v he) ?_
  cases (arcW es u v).isSome with
  | true => exact Ev.congr (fun k => if_pos rfl) (Ev.now _)
  | false =>
    rw [Bool.false_or]
    exact Ev.congr (fun k => if_neg (by simp)) (Ev.bind (joinedS_ev zs es v u he) (Ev.now _))
theorem mergedS_f (a b how : Int) (hh : 0 ≤ how ∧ how ≤ 2) (ha : -1099511627776 ≤ a ∧ a ≤ 1099511627776) (hb : -1099511627776 ≤ b ∧ b ≤ 1099511627776) : spec_merged.f a b how = some (mrg how a b) := by
  unfold spec_merged.f mrg
  have h3 : how = 0 ∨ how = 1 ∨ how = 2 := by omega
  rcases h3 with rfl | rfl | rfl
  · rw [if_pos rfl, if_pos rfl]
    congr 1
    unfold wrap64; omega
  · rw [if_neg (by decide), if_pos rfl, if_neg (by decide), if_pos rfl]
    congr 1
    unfold mn
    split <;> omega
  · rw [if_neg (by decide), if_neg (by decide), if_neg (by decide), if_neg (by decide)]
    congr 1
    unfold mx
    split <;> omega
end Go.Proofs.YtfkmpnpliadohaaGreat.R

set_option linter.unusedVariables false
set_option linter.unusedSimpArgs false
/- The plain law of FnUndirectMergedTold. -/
namespace Go.Proofs.YtfkmpnpliadohaaGreat.R
open Go.RowKit Go.Lab Go.Proofs.YtfkmpnpliadohaaGreatW.PrintWords PL Q

section
variable (zs : List Int) (es : List S38) (absent how : Int)

/-- what the definition's walk needs -/
structure SpOk (n : Nat) : Prop where
  hids : (srt zs).length = n
  hn : n ≤ 1000
  he : es.length ≤ 100000
  hs : (srt zs).Pairwise (· < ·)
  hok : es.all (goodE zs) = true
  hh : 0 ≤ how ∧ how ≤ 2
  ha : -1099511627776 ≤ absent ∧ absent ≤ 1099511627776

theorem told_cell {n : Nat} (T : SpOk zs es absent how n) (i j : Nat) (hi : i < n) (hj : j < n) (acc : List S38) (hacc : acc.length ≤ 1000000) (r : Bool × List Int × List S38 × Bool)
    (h : Ev (fun k => spec_UndirectWeighted.l1 k absent how ((srt zs).getD i 0) (srt zs) (n : Int) (i : Int) (srt zs) (n : Int) ((j + 1 : Nat) : Int) true zs es false (srt zs) (acc ++ (if i < j then cellU (srt zs) es absent how i j else []))) r) :
    Ev (fun k => spec_UndirectWeighted.l1 k absent how ((srt zs).getD i 0) (srt zs) (n : Int) (i : Int) (srt zs) (n : Int) (j : Int) true zs es false (srt zs) acc) r := by
  have hids := T.hids
  have w2 : wrap64 ((j : Int) + 1) = ((j + 1 : Nat) : Int) := by unfold wrap64; have := T.hn; omega
  have hbig : acc.length < 5864062014805 := Nat.lt_of_le_of_lt hacc (by decide)
  have hg : ∀ q (hq : q < (srt zs).length), (srt zs).getD q 0 = (srt zs)[q] := fun q hq => by rw [List.getD_eq_getElem?_getD, List.getElem?_eq_getElem hq]; rfl
  have hp := List.pairwise_iff_getElem.1 T.hs
  have c1 : ∀ m, arcW es ((srt zs).getD i 0) ((srt zs).getD j 0) = some m → -1099511627776 ≤ m ∧ m ≤ 1099511627776 := fun m hm => arcW_le T.hok hm
  have c2 : ∀ m, arcW es ((srt zs).getD j 0) ((srt zs).getD i 0) = some m → -1099511627776 ≤ m ∧ m ≤ 1099511627776 := fun m hm => arcW_le T.hok hm
  by_cases hij : i < j
  · have hlt : (srt zs).getD i 0 < (srt zs).getD j 0 := by
      rw [hg i (by omega), hg j (by omega)]
      exact hp i j (by omega) (by omega) hij
    rw [if_pos hij] at h
    have t1 := touchS_ev zs es ((srt zs).getD i 0) ((srt zs).getD j 0) T.he
    have t2 := weightS_ev zs es ((srt zs).getD i 0) ((srt zs).getD j 0) T.he
    have t3 := weightS_ev zs es ((srt zs).getD j 0) ((srt zs).getD i 0) T.he
    refine Ev.step (f := fun k => (spec_Touch.f k true zs es ((srt zs).getD i 0) ((srt zs).getD j 0)).bind fun t252 => (spec_UndirectWeighted.j3 k absent how ((srt zs).getD i 0) ((srt zs).getD j 0) (srt zs) (n : Int) (i : Int) (srt zs) (n : Int) (j : Int) (!t252) true zs es false (srt zs) acc)) (fun k => ?_) (Ev.bind t1 ?_)
    · simp only [spec_UndirectWeighted.l1, rdI]
      rw [if_pos (by omega), if_pos (by omega), if_pos (by omega), if_neg (by omega)]
    · unfold cellU undV at h
      generalize (srt zs).getD i 0 = u at *
      generalize (srt zs).getD j 0 = v at *
      cases ho1 : arcW es u v with
      | none =>
        cases ho2 : arcW es v u with
        | none =>
          rw [ho1, ho2] at h
          have h' : Ev (fun k => spec_UndirectWeighted.l1 k absent how u (srt zs) (n : Int) (i : Int) (srt zs) (n : Int) ((j + 1 : Nat) : Int) true zs es false (srt zs) acc) r := by simpa using h
          refine Ev.step (fun k => ?_) h'
          simp only [spec_UndirectWeighted.j3]
          rw [if_pos (by rfl), w2]
        | some m2 =>
          rw [ho1, ho2] at h
          rw [ho1] at t2
          rw [ho2] at t3
          have h' : Ev (fun k => spec_UndirectWeighted.l1 k absent how u (srt zs) (n : Int) (i : Int) (srt zs) (n : Int) ((j + 1 : Nat) : Int) true zs es false (srt zs) (acc ++ [⟨u, v, mrg how absent m2⟩])) r := by simpa using h
          refine Ev.step (f := fun k => (spec_Weight.f k true zs es u v).bind fun bt253 => (if bt253.2 = true then (spec_UndirectWeighted.j4 k absent how u v bt253.1 absent (srt zs) (n : Int) (i : Int) (srt zs) (n : Int) (j : Int) true zs es false (srt zs) acc) else (spec_UndirectWeighted.j4 k absent how u v absent absent (srt zs) (n : Int) (i : Int) (srt zs) (n : Int) (j : Int) true zs es false (srt zs) acc))) (fun k => ?_) (Ev.bind t2 (Ev.congr (fun k => if_neg (by simp)) (Ev.step (fun k => rfl) (Ev.bind t3 (Ev.congr (fun k => ?_) h')))))
          · simp only [spec_UndirectWeighted.j3]
            rw [if_neg (by simp)]
          · simp only [Option.isSome_some, Option.getD_some, if_true]
            rw [mergedS_f absent m2 how T.hh T.ha (c2 _ ho2), Option.bind_some, if_pos hbig, w2]
      | some m1 =>
        rw [ho1] at t2
        cases ho2 : arcW es v u with
        | none =>
          rw [ho1, ho2] at h
          rw [ho2] at t3
          have h' : Ev (fun k => spec_UndirectWeighted.l1 k absent how u (srt zs) (n : Int) (i : Int) (srt zs) (n : Int) ((j + 1 : Nat) : Int) true zs es false (srt zs) (acc ++ [⟨u, v, mrg how m1 absent⟩])) r := by simpa using h
          refine Ev.step (f := fun k => (spec_Weight.f k true zs es u v).bind fun bt253 => (if bt253.2 = true then (spec_UndirectWeighted.j4 k absent how u v bt253.1 absent (srt zs) (n : Int) (i : Int) (srt zs) (n : Int) (j : Int) true zs es false (srt zs) acc) else (spec_UndirectWeighted.j4 k absent how u v absent absent (srt zs) (n : Int) (i : Int) (srt zs) (n : Int) (j : Int) true zs es false (srt zs) acc))) (fun k => ?_) (Ev.bind t2 (Ev.congr (fun k => if_pos (by simp)) (Ev.step (fun k => rfl) (Ev.bind t3 (Ev.congr (fun k => ?_) h')))))
          · simp only [spec_UndirectWeighted.j3]
            rw [if_neg (by simp)]
          · simp only [Option.isSome_none, Option.getD_some]
            rw [if_neg (by simp), mergedS_f m1 absent how T.hh (c1 _ ho1) T.ha, Option.bind_some, if_pos hbig, w2]
        | some m2 =>
          rw [ho1, ho2] at h
          rw [ho2] at t3
          have h' : Ev (fun k => spec_UndirectWeighted.l1 k absent how u (srt zs) (n : Int) (i : Int) (srt zs) (n : Int) ((j + 1 : Nat) : Int) true zs es false (srt zs) (acc ++ [⟨u, v, mrg how m1 m2⟩])) r := by simpa using h
          refine Ev.step (f := fun k => (spec_Weight.f k true zs es u v).bind fun bt253 => (if bt253.2 = true then (spec_UndirectWeighted.j4 k absent how u v bt253.1 absent (srt zs) (n : Int) (i : Int) (srt zs) (n : Int) (j : Int) true zs es false (srt zs) acc) else (spec_UndirectWeighted.j4 k absent how u v absent absent (srt zs) (n : Int) (i : Int) (srt zs) (n : Int) (j : Int) true zs es false (srt zs) acc))) (fun k => ?_) (Ev.bind t2 (Ev.congr (fun k => if_pos (by simp)) (Ev.step (fun k => rfl) (Ev.bind t3 (Ev.congr (fun k => ?_) h')))))
          · simp only [spec_UndirectWeighted.j3]
            rw [if_neg (by simp)]
          · simp only [Option.isSome_some, Option.getD_some, if_true]
            rw [mergedS_f m1 m2 how T.hh (c1 _ ho1) (c2 _ ho2), Option.bind_some, if_pos hbig, w2]
  · have hge : (srt zs).getD i 0 ≥ (srt zs).getD j 0 := by
      rw [hg i (by omega), hg j (by omega)]
      rcases Nat.lt_or_ge j i with h1 | h1
      · have := hp j i (by omega) (by omega) h1; omega
      · have : i = j := by omega
        subst this; exact Int.le_refl _
    rw [if_neg hij, List.append_nil] at h
    refine Ev.step (f := fun k => spec_UndirectWeighted.j3 k absent how ((srt zs).getD i 0) ((srt zs).getD j 0) (srt zs) (n : Int) (i : Int) (srt zs) (n : Int) (j : Int) true true zs es false (srt zs) acc) (fun k => ?_) (Ev.step (fun k => ?_) h)
    · simp only [spec_UndirectWeighted.l1, rdI]
      rw [if_pos (by omega), if_pos (by omega), if_pos (by omega), if_pos hge]
    · simp only [spec_UndirectWeighted.j3]
      rw [if_pos trivial, w2]

theorem told_row {n : Nat} (T : SpOk zs es absent how n) (i : Nat) (hi : i < n) (r : Bool × List Int × List S38 × Bool) : ∀ m j, n - j ≤ m → ∀ acc : List S38, acc.length ≤ 1000 * i + j → j ≤ n →
    Ev (fun k => spec_UndirectWeighted.l0 k absent how (srt zs) (n : Int) ((i + 1 : Nat) : Int) true zs es false (srt zs) (acc ++ rowU (srt zs) es absent how i (max j (i + 1)))) r →
    Ev (fun k => spec_UndirectWeighted.l1 k absent how ((srt zs).getD i 0) (srt zs) (n : Int) (i : Int) (srt zs) (n : Int) (j : Int) true zs es false (srt zs) acc) r := by
  have hn := T.hn
  have hids := T.hids
  have wi : wrap64 ((i : Int) + 1) = ((i + 1 : Nat) : Int) := by unfold wrap64; omega
  intro m
  induction m with
  | zero =>
    intro j hj acc hacc hjn h
    rw [rowU_end _ _ _ _ _ _ (by omega), List.append_nil] at h
    refine Ev.step (fun k => ?_) h
    simp only [spec_UndirectWeighted.l1]
    rw [if_neg (by omega), wi]
  | succ m ih =>
    intro j hj acc hacc hjn h
    by_cases hlt : j < n
    · refine told_cell zs es absent how T i j hi hlt acc (by omega) r (ih (j + 1) (by omega) _ ?_ (by omega) ?_)
      · rw [List.length_append]
        have := cellU_len (srt zs) es absent how i j
        split
        · omega
        · simp; omega
      · by_cases hij : i < j
        · rw [show max j (i + 1) = j by omega, rowU_step _ _ _ _ _ _ (by omega), ← List.append_assoc] at h
          rw [show max (j + 1) (i + 1) = j + 1 by omega, if_pos hij]
          exact h
        · rw [if_neg hij, List.append_nil, show max (j + 1) (i + 1) = max j (i + 1) by omega]
          exact h
    · rw [rowU_end _ _ _ _ _ _ (by omega), List.append_nil] at h
      refine Ev.step (fun k => ?_) h
      simp only [spec_UndirectWeighted.l1]
      rw [if_neg (by omega), wi]

theorem told_all {n : Nat} (T : SpOk zs es absent how n) (r : Bool × List Int × List S38 × Bool) : ∀ m i, n - i ≤ m → ∀ acc : List S38, acc.length ≤ 1000 * i → i ≤ n →
    (false, srt zs, acc ++ allU (srt zs) es absent how i, false) = r →
    Ev (fun k => spec_UndirectWeighted.l0 k absent how (srt zs) (n : Int) (i : Int) true zs es false (srt zs) acc) r := by
  have hn := T.hn
  have hids := T.hids
  intro m
  induction m with
  | zero =>
    intro i hi acc hacc hin h
    rw [allU_end _ _ _ _ _ (by omega), List.append_nil] at h
    refine Ev.step (fun k => ?_) (Ev.now r)
    simp only [spec_UndirectWeighted.l0]
    rw [if_neg (by omega), h]
  | succ m ih =>
    intro i hi acc hacc hin h
    by_cases hlt : i < n
    · rw [allU_step _ _ _ _ _ (by omega), ← List.append_assoc] at h
      have hr := rowU_len es absent how (srt zs) i (srt zs).length (i + 1) (by omega)
      refine Ev.step (f := fun k => spec_UndirectWeighted.l1 k absent how ((srt zs).getD i 0) (srt zs) (n : Int) (i : Int) (srt zs) (n : Int) ((0 : Nat) : Int) true zs es false (srt zs) acc) (fun k => ?_) ?_
      · simp only [spec_UndirectWeighted.l0, rdI]
        rw [if_pos (by omega), if_pos (by omega), if_pos (by omega), hids]
        rfl
      · refine told_row zs es absent how T i hlt r n 0 (by omega) acc (by omega) (by omega) ?_
        rw [show max 0 (i + 1) = i + 1 by omega]
        refine ih (i + 1) (by omega) _ ?_ (by omega) h
        rw [List.length_append]
        omega
    · rw [allU_end _ _ _ _ _ (by omega), List.append_nil] at h
      refine Ev.step (fun k => ?_) (Ev.now r)
      simp only [spec_UndirectWeighted.l0]
      rw [if_neg (by omega), h]
end

theorem toldUW_good (zs : List Int) (es : List S38) (a how : Int) (hz : zs.length ≤ 1000) (he : es.length ≤ 100000) (hok : uwOk true zs es a how = true) :
    Ev (fun k => spec_UndirectWeighted.f k true zs es a how) (false, srt zs, undE zs es a how, false) := by
  unfold uwOk at hok
  simp only [Bool.and_eq_true, Bool.not_eq_true', decide_eq_false_iff_not, and_true] at hok
  obtain ⟨hro, h1, h2, h3, h4⟩ := hok
  have hro' := hro
  unfold readOk at hro'
  simp only [Bool.and_eq_true, decide_eq_true_eq] at hro'
  obtain ⟨hs, hall⟩ := hro'
  have hW := wellS_ev true zs es (by omega) he
  rw [hro] at hW
  refine Ev.bind hW ?_
  refine Ev.congr (f := fun k => spec_UndirectWeighted.j0 k a how false true zs es) (fun k => ?_) ?_
  · rw [if_pos rfl, if_pos rfl, if_neg (by omega), if_neg (by omega), if_neg (by omega), decide_eq_false (by omega)]
  · refine Ev.step (f := fun k => spec_UndirectWeighted.l0 k a how (srt zs) ((srt zs).length : Int) ((0 : Nat) : Int) true zs es false (srt zs) []) (fun k => ?_) ?_
    · simp only [spec_UndirectWeighted.j0]
      rw [if_neg (by decide)]
      unfold spec_Nodes.f spec_sortInts.f
      rw [if_pos (by omega)]
      rfl
    · refine told_all zs es a how ⟨rfl, by rw [srt_length]; omega, he, hs, hall, by omega, by omega⟩ _ (srt zs).length 0 (by omega) [] (by simp) (Nat.zero_le _) ?_
      rw [List.nil_append, allU_seen hs hall]

theorem told_j0_true (d : Bool) (zs : List Int) (es : List S38) (a how : Int) : Ev (fun k => spec_UndirectWeighted.j0 k a how true d zs es) (false, [], [], true) :=
  Ev.step (fun k => by simp only [spec_UndirectWeighted.j0]; rw [if_pos trivial]) (Ev.now _)

theorem toldUW_bad (d : Bool) (zs : List Int) (es : List S38) (a how : Int) (hz : zs.length ≤ 1000) (he : es.length ≤ 100000) (hok : uwOk d zs es a how = false) :
    Ev (fun k => spec_UndirectWeighted.f k d zs es a how) (false, [], [], true) := by
  have hj := told_j0_true d zs es a how
  refine Ev.bind (wellS_ev d zs es (by omega) he) ?_
  cases hro : readOk zs es with
  | false => exact Ev.congr (fun k => if_neg (by simp)) hj
  | true =>
    refine Ev.congr (fun k => if_pos rfl) ?_
    cases d with
    | false => exact Ev.congr (fun k => if_neg (by simp)) hj
    | true =>
      refine Ev.congr (fun k => if_pos rfl) ?_
      by_cases g1 : how < 0
      · exact Ev.congr (fun k => if_pos g1) hj
      · refine Ev.congr (fun k => if_neg g1) ?_
        by_cases g2 : how > 2
        · exact Ev.congr (fun k => if_pos g2) hj
        · refine Ev.congr (fun k => if_neg g2) ?_
          by_cases g3 : a > 1099511627776
          · exact Ev.congr (fun k => if_pos g3) hj
          · refine Ev.congr (fun k => if_neg g3) ?_
            by_cases g4 : a < -1099511627776
            · rw [decide_eq_true g4]; exact hj
            · exfalso
              unfold uwOk at hok
              rw [hro] at hok
              have g2' : ¬ 2 < how := g2
              have g3' : ¬ 1099511627776 < a := g3
              simp [g1, g2', g3', g4] at hok

theorem told_law_j0 (d : Bool) (zs : List Int) (es : List S38) (a how : Int) (hz : zs.length ≤ 14) (he : es.length ≤ 100) (hwf : ∀ x ∈ zs, (Lit.int .i64 x).wf = true) :
    Ev (fun k => laws_FnUndirectMergedTold.j0 k a how false d zs es) true := by
  cases hok : uwOk d zs es a how with
  | false =>
    have hU : impl_UndirectWeighted.f d zs es a how = some (false, [], [], true) := by
      unfold impl_UndirectWeighted.f
      rw [if_pos ⟨by omega, by omega, List.all_eq_true.2 hwf⟩, hok]
      rfl
    refine Ev.step (f := fun k => (spec_UndirectWeighted.f k d zs es a how).bind fun bt277 => (if (true == bt277.2.2.2) = true then ((laws_sameGraph.f k false [] [] bt277.1 bt277.2.1 bt277.2.2.1).bind fun t286 => (if t286 = true then ((laws_merges.f k).bind fun t287 => (some t287)) else (some false))) else (some false))) (fun k => ?_) (Ev.bind (toldUW_bad d zs es a how (by omega) (by omega) hok) ?_)
    · simp only [laws_FnUndirectMergedTold.j0]
      rw [if_neg (by decide), hU]
      rfl
    · refine Ev.congr (fun k => if_pos rfl) ?_
      exact Ev.bind (same_ev false [] [] (by decide) (by decide)) (Ev.congr (fun k => if_pos rfl) (Ev.bind merges_ev (Ev.now _)))
  | true =>
    have hd : d = true := by
      cases d with
      | true => rfl
      | false => unfold uwOk at hok; simp at hok
    subst hd
    have hro : readOk zs es = true := by
      unfold uwOk at hok
      simp only [Bool.and_eq_true] at hok
      exact hok.1.1
    have hro' := hro
    unfold readOk at hro'
    simp only [Bool.and_eq_true, decide_eq_true_eq] at hro'
    obtain ⟨hs, hall⟩ := hro'
    have hU : impl_UndirectWeighted.f true zs es a how = some (false, srt zs, undE zs es a how, false) := by
      unfold impl_UndirectWeighted.f
      rw [if_pos ⟨by omega, by omega, List.all_eq_true.2 hwf⟩, if_pos hok]
    refine Ev.step (f := fun k => (spec_UndirectWeighted.f k true zs es a how).bind fun bt277 => (if (false == bt277.2.2.2) = true then ((laws_sameGraph.f k false (srt zs) (undE zs es a how) bt277.1 bt277.2.1 bt277.2.2.1).bind fun t286 => (if t286 = true then ((laws_merges.f k).bind fun t287 => (some t287)) else (some false))) else (some false))) (fun k => ?_) (Ev.bind (toldUW_good zs es a how (by omega) (by omega) hok) ?_)
    · simp only [laws_FnUndirectMergedTold.j0]
      rw [if_neg (by decide), hU]
      rfl
    · refine Ev.congr (fun k => if_pos rfl) ?_
      exact Ev.bind (same_ev false (srt zs) _ (by rw [srt_length]; omega) (undE_len hs hall (by omega) _ _)) (Ev.congr (fun k => if_pos rfl) (Ev.bind merges_ev (Ev.now _)))

theorem told_law_true (d : Bool) (zs : List Int) (es : List S38) (a how : Int) : Ev (fun k => laws_FnUndirectMergedTold.j0 k a how true d zs es) true :=
  Ev.step (fun k => by simp only [laws_FnUndirectMergedTold.j0]; rw [if_pos trivial]) (Ev.now _)

theorem told_law_ev (d : Bool) (zs : List Int) (es : List S38) (a how : Int) (hwf : ∀ x ∈ zs, (Lit.int .i64 x).wf = true) : Ev (fun k => laws_FnUndirectMergedTold.f k d zs es a how) true := by
  by_cases hz : (decide (zs.length ≤ 2147483647) && decide (es.length ≤ 2147483647)) = true
  · simp only [Bool.and_eq_true, decide_eq_true_eq] at hz
    have h0 : laws_zzFits1.f d zs es = some true := by
      unfold laws_zzFits1.f
      rw [if_neg (by omega), if_neg (by omega)]
    refine Ev.congr (f := fun k => (if (zs.length : Int) > 14 then (laws_FnUndirectMergedTold.j0 k a how true d zs es) else (if (es.length : Int) > 100 then (laws_FnUndirectMergedTold.j0 k a how true d zs es) else ((laws_light.f k d zs es).bind fun t267 => (laws_FnUndirectMergedTold.j0 k a how (!t267) d zs es))))) (fun k => ?_) ?_
    · unfold laws_FnUndirectMergedTold.f
      rw [h0]; rfl
    · by_cases h1 : (zs.length : Int) > 14
      · exact Ev.congr (fun k => if_pos h1) (told_law_true d zs es a how)
      · refine Ev.congr (fun k => if_neg h1) ?_
        by_cases h2 : (es.length : Int) > 100
        · exact Ev.congr (fun k => if_pos h2) (told_law_true d zs es a how)
        · refine Ev.congr (fun k => if_neg h2) ?_
          refine Ev.bind (light_ev d zs es (by omega)) ?_
          cases lightB es with
          | false => exact told_law_true d zs es a how
          | true => exact told_law_j0 d zs es a how (by omega) (by omega) hwf
  · refine Ev.congr (fun k => ?_) (Ev.now _)
    unfold laws_FnUndirectMergedTold.f laws_zzFits1.f
    simp only [Bool.and_eq_true, decide_eq_true_eq] at hz
    by_cases h1 : (zs.length : Int) > 2147483647
    · rw [if_pos h1]; rfl
    · rw [if_neg h1, if_pos (by omega)]; rfl
end Go.Proofs.YtfkmpnpliadohaaGreat.R
