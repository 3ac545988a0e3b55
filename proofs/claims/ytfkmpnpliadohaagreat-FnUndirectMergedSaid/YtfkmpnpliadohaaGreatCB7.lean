import Derived.Test.YtfkmpnpliadohaaGreatCT5
import Derived.Test.YtfkmpnpliadohaaGreatCB3
import Derived.Test.YtfkmpnpliadohaaGreatCB6
set_option linter.unusedVariables false
set_option linter.unusedSimpArgs false
set_option linter.unusedVariables false
set_option linter.unusedSimpArgs false
/- Plain laws: tables, ascending lists, equal graphs. -/
namespace Go.Proofs.YtfkmpnpliadohaaGreat.R
open Go.RowKit Go.Lab Go.Proofs.YtfkmpnpliadohaaGreatW.PrintWords PL Q

/-! the tables -/
def gt {α : Type} (T : List (List α)) (u v : Nat) (z : α) : α := (T.getD u []).getD v z
def SqG {α : Type} (n : Nat) (T : List (List α)) : Prop := T.length = n ∧ ∀ i, i < n → (T.getD i []).length = n
theorem SqG.put {α : Type} {n : Nat} {T : List (List α)} (h : SqG n T) (u v : Nat) (x : α) : SqG n (putG T u v x) := by
  refine ⟨by unfold putG; rw [List.length_set]; exact h.1, fun i hi => ?_⟩
  unfold putG
  rw [List.getD_eq_getElem?_getD, List.getElem?_set]
  by_cases hu : u = i
  · subst hu
    rw [if_pos rfl, if_pos (by rw [h.1]; exact hi), Option.getD_some, List.length_set]
    exact h.2 u hi
  · rw [if_neg hu, ← List.getD_eq_getElem?_getD]; exact h.2 i hi
theorem gt_put {α : Type} {n : Nat} {T : List (List α)} (h : SqG n T) {u v : Nat} (hu : u < n) (hv : v < n) (x z : α) (i j : Nat) : gt (putG T u v x) i j z = if i = u ∧ j = v then x else gt T i j z := by
  unfold gt putG
  rw [List.getD_eq_getElem?_getD (l := T.set u _), List.getElem?_set]
  by_cases h1 : u = i
  · subst h1
    rw [if_pos rfl, if_pos (by rw [h.1]; exact hu), Option.getD_some, List.getD_eq_getElem?_getD, List.getElem?_set]
    by_cases h2 : v = j
    · subst h2
      rw [if_pos rfl, if_pos (by rw [h.2 u hu]; exact hv), if_pos ⟨rfl, rfl⟩]; rfl
    · rw [if_neg h2, if_neg (fun hh => h2 hh.2.symm), ← List.getD_eq_getElem?_getD]
  · rw [if_neg h1, if_neg (fun hh => h1 hh.1.symm), ← List.getD_eq_getElem?_getD]

theorem SqG.rep {α : Type} (n : Nat) (z : α) : SqG n (List.replicate n (List.replicate n z)) := by
  refine ⟨by simp, fun i hi => ?_⟩
  rw [List.getD_eq_getElem?_getD, List.getElem?_replicate, if_pos hi]; simp

theorem rdL3 (A : List (List Bool)) (u : Nat) : rd_L3 A (u : Int) = A.getD u [] := by unfold rd_L3; rw [Int.toNat_natCast]
theorem rdL4 (W : List (List Int)) (u : Nat) : rd_L4 W (u : Int) = W.getD u [] := by unfold rd_L4; rw [Int.toNat_natCast]

theorem rising_l0 (l : List Int) (hl : l.length ≤ 100000) : ∀ (d k i : Nat), 1 ≤ i → l.length - i ≤ d → d < k →
    ∃ b, laws_rising.l0 k l (i : Int) = some b ∧ (b = true ↔ (∀ a, i - 1 ≤ a → a + 1 < l.length → l.getD a 0 < l.getD (a + 1) 0)) := by
  intro d
  induction d with
  | zero =>
    intro k i hi hd hk
    obtain ⟨k, rfl⟩ : ∃ m, k = m + 1 := ⟨k - 1, by omega⟩
    simp only [laws_rising.l0]
    rw [if_neg (by omega)]
    exact ⟨true, rfl, fun _ a h1 h2 => by omega, fun _ => rfl⟩
  | succ d ih =>
    intro k i hi hd hk
    obtain ⟨k, rfl⟩ : ∃ m, k = m + 1 := ⟨k - 1, by omega⟩
    simp only [laws_rising.l0]
    by_cases hlt : i < l.length
    · have w1 : wrap64 ((i : Int) - 1) = ((i - 1 : Nat) : Int) := by unfold wrap64; omega
      have w2 : wrap64 ((i : Int) + 1) = ((i + 1 : Nat) : Int) := by unfold wrap64; omega
      rw [if_pos (by omega), w1, if_pos (by omega), if_pos (by omega), if_pos (by omega), w2]
      have r1 : rd l ((i - 1 : Nat) : Int) = l.getD (i - 1) 0 := by unfold rd; rw [Int.toNat_natCast]
      have r2 : rd l (i : Int) = l.getD i 0 := by unfold rd; rw [Int.toNat_natCast]
      rw [r1, r2]
      by_cases hge : l.getD (i - 1) 0 ≥ l.getD i 0
      · rw [if_pos hge]
        refine ⟨false, rfl, fun h => (by cases h), fun h => ?_⟩
        have := h (i - 1) (Nat.le_refl _) (by omega)
        rw [show i - 1 + 1 = i by omega] at this
        omega
      · rw [if_neg hge]
        obtain ⟨b, hb1, hb2⟩ := ih k (i + 1) (by omega) (by omega) (by omega)
        refine ⟨b, hb1, ?_⟩
        rw [hb2]
        constructor
        · intro h a h1 h2
          by_cases ha : a = i - 1
          · subst ha; rw [show i - 1 + 1 = i by omega]; omega
          · exact h a (by omega) h2
        · intro h a h1 h2
          exact h a (by omega) h2
    · rw [if_neg (by omega)]
      exact ⟨true, rfl, fun _ a h1 h2 => by omega, fun _ => rfl⟩

theorem adj_pairwise (l : List Int) : (∀ a, 1 - 1 ≤ a → a + 1 < l.length → l.getD a 0 < l.getD (a + 1) 0) ↔ l.Pairwise (· < ·) := by
  constructor
  · intro h
    have hadj : ∀ j (hj : j + 1 < l.length), l[j] < l[j + 1] := by
      intro j hj
      have := h j (by omega) hj
      have e1 : l.getD j 0 = l[j] := by rw [List.getD_eq_getElem?_getD, List.getElem?_eq_getElem (by omega)]; rfl
      have e2 : l.getD (j + 1) 0 = l[j + 1] := by rw [List.getD_eq_getElem?_getD, List.getElem?_eq_getElem hj]; rfl
      rw [e1, e2] at this; exact this
    have hmono : ∀ i k, (hk : i + k + 1 < l.length) → l[i]'(by omega) < l[i + k + 1] := by
      intro i k
      induction k with
      | zero => intro hk; exact hadj i hk
      | succ k ih =>
        intro hk
        exact Int.lt_trans (ih (by omega)) (hadj (i + k + 1) (by omega))
    rw [List.pairwise_iff_getElem]
    intro i j hi hj hij
    have := hmono i (j - i - 1) (by omega)
    have e : i + (j - i - 1) + 1 = j := by omega
    simp only [e] at this
    exact this
  · intro h a _ ha
    have e1 : l.getD a 0 = l[a] := by rw [List.getD_eq_getElem?_getD, List.getElem?_eq_getElem (by omega)]; rfl
    have e2 : l.getD (a + 1) 0 = l[a + 1] := by rw [List.getD_eq_getElem?_getD, List.getElem?_eq_getElem ha]; rfl
    rw [e1, e2]
    exact (List.pairwise_iff_getElem.1 h) a (a + 1) (by omega) ha (by omega)


theorem rising_ev (l : List Int) (hl : l.length ≤ 100000) : Ev (fun k => laws_rising.f k l) (decide (l.Pairwise (· < ·))) := by
  obtain ⟨b, h1, h2⟩ := rising_l0 l hl l.length (l.length + 1) 1 (Nat.le_refl _) (by omega) (by omega)
  refine Ev.of (laws_rising.mono l) (k := l.length + 1) ?_
  unfold laws_rising.f
  rw [show (1 : Int) = ((1 : Nat) : Int) from rfl, h1]
  congr 1
  rw [adj_pairwise] at h2
  cases b with
  | true => exact (decide_eq_true (h2.1 rfl)).symm
  | false => exact (decide_eq_false (fun h => by have := h2.2 h; cases this)).symm

theorem eqI_l0 (l : List Int) (hl : l.length ≤ 100000) : ∀ m i, l.length - i ≤ m → i ≤ l.length → Ev (fun k => slices_Equal_int_int.l0 k l l (l.length : Int) (i : Int)) true
  | 0, i, hm, hi => by
    refine Ev.step (fun k => ?_) (Ev.now _)
    simp only [slices_Equal_int_int.l0]
    rw [if_neg (by omega)]
  | m + 1, i, hm, hi => by
    by_cases hlt : i < l.length
    · have w2 : wrap64 ((i : Int) + 1) = ((i + 1 : Nat) : Int) := by unfold wrap64; omega
      refine Ev.step (fun k => ?_) (eqI_l0 l hl m (i + 1) (by omega) (by omega))
      simp only [slices_Equal_int_int.l0]
      rw [if_pos (by omega), if_pos (by omega), if_pos (by omega), if_pos (by omega), if_pos trivial, w2]
    · refine Ev.step (fun k => ?_) (Ev.now _)
      simp only [slices_Equal_int_int.l0]
      rw [if_neg (by omega)]
theorem eqE_l0 (l : List S38) (hl : l.length ≤ 100000) : ∀ m i, l.length - i ≤ m → i ≤ l.length → Ev (fun k => impl_Edge.l0 k l l (l.length : Int) (i : Int)) true
  | 0, i, hm, hi => by
    refine Ev.step (fun k => ?_) (Ev.now _)
    simp only [impl_Edge.l0]
    rw [if_neg (by omega)]
  | m + 1, i, hm, hi => by
    by_cases hlt : i < l.length
    · have w2 : wrap64 ((i : Int) + 1) = ((i + 1 : Nat) : Int) := by unfold wrap64; omega
      refine Ev.step (fun k => ?_) (eqE_l0 l hl m (i + 1) (by omega) (by omega))
      simp only [impl_Edge.l0]
      rw [if_pos (by omega), if_pos (by omega), if_pos (by omega), if_pos (by omega), if_neg (by simp), w2]
    · refine Ev.step (fun k => ?_) (Ev.now _)
      simp only [impl_Edge.l0]
      rw [if_neg (by omega)]
theorem same_ev (d : Bool) (l : List Int) (es : List S38) (hl : l.length ≤ 100000) (he : es.length ≤ 100000) : Ev (fun k => laws_sameGraph.f k d l es d l es) true := by
  have h1 : Ev (fun k => slices_Equal_int_int.f k l l) true := by
    refine Ev.congr (fun k => ?_) (eqI_l0 l hl l.length 0 (by omega) (Nat.zero_le _))
    unfold slices_Equal_int_int.f
    rw [if_pos rfl]; rfl
  have h2 : Ev (fun k => impl_Edge.f k es es) true := by
    refine Ev.congr (fun k => ?_) (eqE_l0 es he es.length 0 (by omega) (Nat.zero_le _))
    unfold impl_Edge.f
    rw [if_pos rfl]; rfl
  refine Ev.congr (fun k => ?_) (Ev.bind h1 (f := fun k t => if t = true then ((impl_Edge.f k es es).bind fun t136 => (some t136)) else (some false)) ?_)
  · unfold laws_sameGraph.f
    rw [if_pos (by simp)]
  · refine Ev.congr (fun k => ?_) (Ev.bind h2 (f := fun _ t => some t) (Ev.now _))
    rw [if_pos rfl]

end Go.Proofs.YtfkmpnpliadohaaGreat.R

set_option linter.unusedVariables false
set_option linter.unusedSimpArgs false
/- Plain laws: which graphs a law takes. -/
namespace Go.Proofs.YtfkmpnpliadohaaGreat.R
open Go.RowKit Go.Lab Go.Proofs.YtfkmpnpliadohaaGreatW.PrintWords PL Q

theorem index_ev (l : List Int) (x : Int) (hl : l.length ≤ 100000) : ∀ m i, l.length - i ≤ m → i ≤ l.length → ∃ r, Ev (fun k => laws_index.l0 k l x (i : Int)) r ∧ (r ≥ 0 ↔ x ∈ l.drop i)
  | 0, i, hm, hi => by
    refine ⟨-1, Ev.step (fun k => ?_) (Ev.now _), ?_⟩
    · simp only [laws_index.l0]
      rw [if_neg (by omega)]
    · rw [List.drop_eq_nil_of_le (by omega)]; simp
  | m + 1, i, hm, hi => by
    by_cases hlt : i < l.length
    · have w2 : wrap64 ((i : Int) + 1) = ((i + 1 : Nat) : Int) := by unfold wrap64; omega
      have r2 : rd l (i : Int) = l[i] := by unfold rd; rw [Int.toNat_natCast, List.getD_eq_getElem?_getD, List.getElem?_eq_getElem hlt]; rfl
      by_cases hx : l[i] = x
      · refine ⟨(i : Int), Ev.step (fun k => ?_) (Ev.now _), ?_⟩
        · simp only [laws_index.l0]
          rw [if_pos (by omega), if_pos (by omega), r2, if_pos hx]
        · rw [List.drop_eq_getElem_cons hlt, hx]; simp
      · obtain ⟨r, h1, h2⟩ := index_ev l x hl m (i + 1) (by omega) (by omega)
        refine ⟨r, Ev.step (fun k => ?_) h1, ?_⟩
        · simp only [laws_index.l0]
          rw [if_pos (by omega), if_pos (by omega), r2, if_neg hx, w2]
        · rw [h2, List.drop_eq_getElem_cons hlt, List.mem_cons]
          constructor
          · exact .inr
          · rintro (h | h)
            · exact absurd h.symm hx
            · exact h
    · refine ⟨-1, Ev.step (fun k => ?_) (Ev.now _), ?_⟩
      · simp only [laws_index.l0]
        rw [if_neg (by omega)]
      · rw [List.drop_eq_nil_of_le (by omega)]; simp

theorem has_ev (l : List Int) (x : Int) (hl : l.length ≤ 100000) : Ev (fun k => laws_has.f k l x) (decide (x ∈ l)) := by
  obtain ⟨r, h1, h2⟩ := index_ev l x hl l.length 0 (by omega) (Nat.zero_le _)
  have h3 : Ev (fun k => laws_index.f k l x) r := Ev.congr (fun k => rfl) h1
  refine Ev.congr (fun k => ?_) (Ev.bind h3 (f := fun _ t => some (decide (t ≥ 0))) ?_)
  · rfl
  · have : decide (r ≥ 0) = decide (x ∈ l) := by rw [decide_eq_decide, h2, List.drop_zero]
    rw [this]; exact Ev.now _

theorem rdT (es : List S38) (i : Nat) (h : i < es.length) : rd_T38 es (i : Int) = es[i] := by unfold rd_T38; simp [List.getD_eq_getElem?_getD, h]

theorem well_l0 (d : Bool) (zs : List Int) (es : List S38) (hz : zs.length ≤ 100000) (he : es.length ≤ 100000) : ∀ m i, es.length - i ≤ m → i ≤ es.length → Ev (fun k => laws_well.l0 k (i : Int) d zs es) ((es.drop i).all (goodE zs))
  | 0, i, hm, hi => by
    refine Ev.step (fun k => ?_) (Ev.now _)
    simp only [laws_well.l0]
    rw [if_neg (by omega), List.drop_eq_nil_of_le (by omega)]; rfl
  | m + 1, i, hm, hi => by
    by_cases hlt : i < es.length
    · have w2 : wrap64 ((i : Int) + 1) = ((i + 1 : Nat) : Int) := by unfold wrap64; omega
      have ih := well_l0 d zs es hz he m (i + 1) (by omega) (by omega)
      have hd : (es.drop i).all (goodE zs) = (goodE zs es[i] && (es.drop (i + 1)).all (goodE zs)) := by rw [List.drop_eq_getElem_cons hlt]; rfl
      rw [hd]
      have hr := rdT es i hlt
      generalize es[i] = e at hr
      by_cases h0 : e.f0 = e.f1
      · refine Ev.step (fun k => ?_) (Ev.now _)
        simp only [laws_well.l0]
        rw [if_pos (by omega), if_pos (by omega), hr, if_pos h0]
        have : goodE zs e = false := by unfold goodE; simp [h0]
        rw [this]; rfl
      · have a1 := has_ev zs e.f0 hz
        have a2 := has_ev zs e.f1 hz
        refine Ev.step (f := fun k => (laws_has.f k zs e.f0).bind fun t122 => (if t122 = true then ((laws_has.f k zs e.f1).bind fun t123 => (if t123 = true then (if e.f2 > 1099511627776 then (some false) else (if e.f2 < (-1099511627776) then (some false) else (laws_well.l0 k (wrap64 ((i : Int) + 1)) d zs es))) else (some false))) else (some false))) (fun k => ?_) ?_
        · simp only [laws_well.l0]
          rw [if_pos (by omega), if_pos (by omega), hr, if_neg h0]
        · by_cases m1 : e.f0 ∈ zs
          · by_cases m2 : e.f1 ∈ zs
            · rw [decide_eq_true m1] at a1
              rw [decide_eq_true m2] at a2
              by_cases g1 : 1099511627776 < e.f2
              · have hg : goodE zs e = false := by unfold goodE; simp [g1]
                rw [hg]
                refine Ev.bind a1 (Ev.congr (fun k => if_pos rfl) (Ev.bind a2 (Ev.congr (fun k => ?_) (Ev.now _))))
                rw [if_pos rfl, if_pos g1]; rfl
              · by_cases g2 : e.f2 < -1099511627776
                · have hg : goodE zs e = false := by unfold goodE; simp [g2]
                  rw [hg]
                  refine Ev.bind a1 (Ev.congr (fun k => if_pos rfl) (Ev.bind a2 (Ev.congr (fun k => ?_) (Ev.now _))))
                  rw [if_pos rfl, if_neg g1, if_pos g2]; rfl
                · have hg : goodE zs e = true := by unfold goodE; simp [m1, m2, h0, g1, g2]
                  rw [hg, Bool.true_and]
                  refine Ev.bind a1 (Ev.congr (fun k => if_pos rfl) (Ev.bind a2 (Ev.congr (fun k => ?_) ih)))
                  rw [if_pos rfl, if_neg g1, if_neg g2, w2]
            · rw [decide_eq_true m1] at a1
              rw [decide_eq_false m2] at a2
              have hg : goodE zs e = false := by unfold goodE; simp [m2]
              rw [hg]
              exact Ev.bind a1 (Ev.congr (fun k => if_pos rfl) (Ev.bind a2 (Ev.congr (fun k => if_neg (by simp)) (Ev.now _))))
          · rw [decide_eq_false m1] at a1
            have hg : goodE zs e = false := by unfold goodE; simp [m1]
            rw [hg]
            exact Ev.bind a1 (Ev.congr (fun k => if_neg (by simp)) (Ev.now _))
    · refine Ev.step (fun k => ?_) (Ev.now _)
      simp only [laws_well.l0]
      rw [if_neg (by omega), List.drop_eq_nil_of_le (by omega)]; rfl

theorem well_ev (d : Bool) (zs : List Int) (es : List S38) (hz : zs.length ≤ 1000) (he : es.length ≤ 100000) : Ev (fun k => laws_well.f k d zs es) (readOk zs es) := by
  obtain ⟨k0, h0⟩ := sorted_f zs (by omega)
  have h1 := Ev.of (laws_sorted.mono zs) h0
  have h2 := rising_ev (srt zs) (by rw [srt_length]; omega)
  refine Ev.bind h1 (Ev.bind h2 ?_)
  unfold readOk
  by_cases hs : (srt zs).Pairwise (· < ·)
  · rw [decide_eq_true hs, Bool.true_and]
    refine Ev.congr (fun k => if_pos rfl) ?_
    have := well_l0 d zs es (by omega) he es.length 0 (by omega) (Nat.zero_le _)
    rw [List.drop_zero] at this
    exact this
  · rw [decide_eq_false hs, Bool.false_and]
    exact Ev.congr (fun k => if_neg (by simp)) (Ev.now _)

/-- which graphs fewOf takes -/
def fewB (d want : Bool) (zs : List Int) (es : List S38) (n : Nat) : Bool := (d == want) && (decide (zs.length ≤ n) && (decide (es.length ≤ 8 * n) && readOk zs es))

theorem fewOf_ev (d want : Bool) (zs : List Int) (es : List S38) (n : Nat) (hn : n ≤ 1000) : Ev (fun k => laws_fewOf.f k d zs es want (n : Int)) (fewB d want zs es n) := by
  unfold fewB
  by_cases hd : (d == want) = true
  · rw [hd, Bool.true_and]
    refine Ev.congr (f := fun k => (laws_few.f k d zs es (n : Int)).bind fun t127 => (some t127)) (fun k => ?_) (Ev.bind (a := (decide (zs.length ≤ n) && (decide (es.length ≤ 8 * n) && readOk zs es))) ?_ (Ev.now _))
    · unfold laws_fewOf.f; rw [if_pos hd]
    · have hw : wrap64 (8 * (n : Int)) = 8 * (n : Int) := by unfold wrap64; omega
      by_cases h1 : zs.length ≤ n
      · by_cases h2 : es.length ≤ 8 * n
        · rw [decide_eq_true h1, decide_eq_true h2, Bool.true_and, Bool.true_and]
          refine Ev.congr (f := fun k => (laws_well.f k d zs es).bind fun t125 => (some t125)) (fun k => ?_) (Ev.bind (well_ev d zs es (by omega) (by omega)) (Ev.now _))
          unfold laws_few.f
          rw [if_pos (by omega), hw, if_pos (by omega)]
        · rw [decide_eq_true h1, decide_eq_false h2, Bool.true_and, Bool.false_and]
          refine Ev.congr (fun k => ?_) (Ev.now _)
          unfold laws_few.f
          rw [if_pos (by omega), hw, if_neg (by omega)]
      · rw [decide_eq_false h1, Bool.false_and]
        refine Ev.congr (fun k => ?_) (Ev.now _)
        unfold laws_few.f
        rw [if_neg (by omega)]
  · have : (d == want) = false := by simpa using hd
    rw [this, Bool.false_and]
    refine Ev.congr (fun k => ?_) (Ev.now _)
    unfold laws_fewOf.f
    rw [if_neg hd]
end Go.Proofs.YtfkmpnpliadohaaGreat.R

set_option linter.unusedVariables false
set_option linter.unusedSimpArgs false
/- Plain laws: the table of a directed graph; the edges without directions, by places. -/
namespace Go.Proofs.YtfkmpnpliadohaaGreat.R
open Go.RowKit Go.Lab Go.Proofs.YtfkmpnpliadohaaGreatW.PrintWords PL Q

theorem idx_iff {ids : List Int} (h : ids.Pairwise (· < ·)) {x : Int} (hx : x ∈ ids) {i : Nat} (hi : i < ids.length) : i = ids.idxOf x ↔ x = ids.getD i 0 := by
  have h1 : ids.idxOf x < ids.length := List.idxOf_lt_length_of_mem hx
  have h2 : ids.getD (ids.idxOf x) 0 = x := by
    rw [List.getD_eq_getElem?_getD, List.getElem?_eq_getElem h1]
    exact List.getElem_idxOf h1
  constructor
  · rintro rfl; exact h2.symm
  · intro he
    exact (getD_srt_inj h h1 hi (by rw [h2, he])).symm

theorem gt_rep {α : Type} (n : Nat) (z : α) (i j : Nat) : gt (List.replicate n (List.replicate n z)) i j z = z := by
  unfold gt
  rw [List.getD_eq_getElem?_getD, List.getD_eq_getElem?_getD, List.getElem?_replicate]
  split
  · simp only [Option.getD_some, List.getElem?_replicate]; split <;> rfl
  · rfl

/-- the table of a directed graph -/
theorem tab_spec {ids : List Int} (h : ids.Pairwise (· < ·)) (es : List S38) (he : ∀ e ∈ es, e.f0 ∈ ids ∧ e.f1 ∈ ids) :
    SqG ids.length (tbA true ids ids.length es) ∧ SqG ids.length (tbW true ids ids.length es) ∧
    (∀ i j, i < ids.length → j < ids.length → gt (tbA true ids ids.length es) i j false = (arcW es (ids.getD i 0) (ids.getD j 0)).isSome) ∧
    (∀ i j, i < ids.length → j < ids.length → ∀ n, arcW es (ids.getD i 0) (ids.getD j 0) = some n → gt (tbW true ids ids.length es) i j 0 = n) := by
  revert he
  refine snoc_ind (P := fun es => (∀ e ∈ es, e.f0 ∈ ids ∧ e.f1 ∈ ids) → SqG ids.length (tbA true ids ids.length es) ∧ SqG ids.length (tbW true ids ids.length es) ∧
    (∀ i j, i < ids.length → j < ids.length → gt (tbA true ids ids.length es) i j false = (arcW es (ids.getD i 0) (ids.getD j 0)).isSome) ∧
    (∀ i j, i < ids.length → j < ids.length → ∀ n, arcW es (ids.getD i 0) (ids.getD j 0) = some n → gt (tbW true ids ids.length es) i j 0 = n)) es (fun _ => ?_) fun es e ih he => ?_
  · exact ⟨SqG.rep _ _, SqG.rep _ _, fun i j _ _ => by unfold tbA; exact gt_rep _ _ _ _, fun i j _ _ n hn => by cases hn⟩
  · obtain ⟨h1, h2, h3, h4⟩ := ih (fun e he' => he e (by simp [he']))
    obtain ⟨a0, a1⟩ := he e (by simp)
    have u0 : ids.idxOf e.f0 < ids.length := List.idxOf_lt_length_of_mem a0
    have u1 : ids.idxOf e.f1 < ids.length := List.idxOf_lt_length_of_mem a1
    have eA : tbA true ids ids.length (es ++ [e]) = putG (tbA true ids ids.length es) (ids.idxOf e.f0) (ids.idxOf e.f1) true := by
      unfold tbA; rw [List.foldl_append]; simp [stA]
    have eW : tbW true ids ids.length (es ++ [e]) = putG (tbW true ids ids.length es) (ids.idxOf e.f0) (ids.idxOf e.f1) e.f2 := by
      unfold tbW; rw [List.foldl_append]; simp [stW]
    rw [eA, eW]
    refine ⟨h1.put _ _ _, h2.put _ _ _, fun i j hi hj => ?_, fun i j hi hj n hn => ?_⟩
    · rw [gt_put h1 u0 u1, arcW_snoc]
      by_cases hc : i = ids.idxOf e.f0 ∧ j = ids.idxOf e.f1
      · rw [if_pos hc, if_pos ⟨(idx_iff h a0 hi).1 hc.1, (idx_iff h a1 hj).1 hc.2⟩]; rfl
      · rw [if_neg hc, if_neg (fun hh => hc ⟨(idx_iff h a0 hi).2 hh.1, (idx_iff h a1 hj).2 hh.2⟩), h3 i j hi hj]
    · rw [arcW_snoc] at hn
      rw [gt_put h2 u0 u1]
      by_cases hc : i = ids.idxOf e.f0 ∧ j = ids.idxOf e.f1
      · rw [if_pos ⟨(idx_iff h a0 hi).1 hc.1, (idx_iff h a1 hj).1 hc.2⟩] at hn
        rw [if_pos hc]
        injection hn
      · rw [if_neg (fun hh => hc ⟨(idx_iff h a0 hi).2 hh.1, (idx_iff h a1 hj).2 hh.2⟩)] at hn
        rw [if_neg hc]
        exact h4 i j hi hj n hn

/-- the edge between two places, if there is one -/
def cellU (ids : List Int) (es : List S38) (absent how : Int) (i j : Nat) : List S38 :=
  if (arcW es (ids.getD i 0) (ids.getD j 0)).isSome || (arcW es (ids.getD j 0) (ids.getD i 0)).isSome then [⟨ids.getD i 0, ids.getD j 0, undV es absent how (ids.getD i 0) (ids.getD j 0)⟩] else []
def rowU (ids : List Int) (es : List S38) (absent how : Int) (i j : Nat) : List S38 := ((List.range ids.length).drop j).flatMap (cellU ids es absent how i)
def allU (ids : List Int) (es : List S38) (absent how : Int) (i : Nat) : List S38 := ((List.range ids.length).drop i).flatMap (fun i => rowU ids es absent how i (i + 1))

section
variable (ids : List Int) (es : List S38) (absent how : Int)
theorem rowU_step (i j : Nat) (h : j < ids.length) : rowU ids es absent how i j = cellU ids es absent how i j ++ rowU ids es absent how i (j + 1) := by
  unfold rowU
  rw [List.drop_eq_getElem_cons (by simpa using h), List.flatMap_cons]; simp
theorem rowU_end (i j : Nat) (h : ¬ j < ids.length) : rowU ids es absent how i j = [] := by
  unfold rowU
  rw [List.drop_eq_nil_of_le (by simp; omega)]; rfl
theorem allU_step (i : Nat) (h : i < ids.length) : allU ids es absent how i = rowU ids es absent how i (i + 1) ++ allU ids es absent how (i + 1) := by
  unfold allU
  rw [List.drop_eq_getElem_cons (by simpa using h), List.flatMap_cons]; simp
theorem allU_end (i : Nat) (h : ¬ i < ids.length) : allU ids es absent how i = [] := by
  unfold allU
  rw [List.drop_eq_nil_of_le (by simp; omega)]; rfl
end

/-- a row by places is one by nodes -/
theorem rowU_nodes (ids : List Int) (es : List S38) (absent how : Int) (i : Nat) : ∀ m j, ids.length - j ≤ m → rowU ids es absent how i j =
    ((ids.drop j).filter fun v => (arcW es (ids.getD i 0) v).isSome || (arcW es v (ids.getD i 0)).isSome).map fun v => ⟨ids.getD i 0, v, undV es absent how (ids.getD i 0) v⟩
  | 0, j, h => by rw [rowU_end _ _ _ _ _ _ (by omega), List.drop_eq_nil_of_le (by omega)]; rfl
  | m + 1, j, h => by
    by_cases hj : j < ids.length
    · rw [rowU_step _ _ _ _ _ _ hj, rowU_nodes ids es absent how i m (j + 1) (by omega), List.drop_eq_getElem_cons hj, List.filter_cons]
      have hg : ids[j] = ids.getD j 0 := by rw [List.getD_eq_getElem?_getD, List.getElem?_eq_getElem hj]; rfl
      rw [hg]
      unfold cellU
      split <;> simp
    · rw [rowU_end _ _ _ _ _ _ hj, List.drop_eq_nil_of_le (by omega)]; rfl

theorem rowU_seen {zs : List Int} {es : List S38} (hs : (srt zs).Pairwise (· < ·)) (hok : es.all (goodE zs) = true) (absent how : Int) (i : Nat) (hi : i < (srt zs).length) :
    rowU (srt zs) es absent how i (i + 1) = partR (undV es absent how) ((srt zs).getD i 0) (nbs zs es ((srt zs).getD i 0)) := by
  rw [rowU_nodes _ _ _ _ _ _ _ (Nat.le_refl _)]
  unfold partR
  rw [nbs_eq hs]
  congr 1
  have hsplit : srt zs = (srt zs).take (i + 1) ++ (srt zs).drop (i + 1) := (List.take_append_drop _ _).symm
  generalize hu : (srt zs).getD i 0 = u
  have hui : (srt zs)[i] = u := by rw [← hu, List.getD_eq_getElem?_getD, List.getElem?_eq_getElem hi]; rfl
  conv => rhs; rw [hsplit]
  rw [List.filter_append, List.filter_append]
  have h1 : (((srt zs).take (i + 1)).filter fun v => (arcW es u v).isSome || (arcW es v u).isSome).filter (fun v => !decide (v < u)) = [] := by
    rw [List.filter_eq_nil_iff]
    intro v hv
    rw [List.mem_filter, List.mem_take_iff_getElem] at hv
    obtain ⟨⟨j, hj, rfl⟩, h2⟩ := hv
    by_cases hji : j = i
    · subst hji
      rw [hui, arcW_self hok] at h2
      simp at h2
    · have := List.pairwise_iff_getElem.1 hs j i (by omega) hi (by omega)
      rw [hui] at this
      simp [this]
  rw [h1, List.nil_append]
  symm
  rw [List.filter_eq_self]
  intro v hv
  have hv2 := (List.mem_filter.1 hv).1
  obtain ⟨j, hj, rfl⟩ := List.getElem_of_mem hv2
  rw [List.getElem_drop]
  have := List.pairwise_iff_getElem.1 hs i (i + 1 + j) hi (by rw [List.length_drop] at hj; omega) (by omega)
  rw [hui] at this
  simp; omega

theorem allU_seen {zs : List Int} {es : List S38} (hs : (srt zs).Pairwise (· < ·)) (hok : es.all (goodE zs) = true) (absent how : Int) : allU (srt zs) es absent how 0 = undE zs es absent how := by
  suffices h : ∀ m i, (srt zs).length - i ≤ m → allU (srt zs) es absent how i = seenE ((srt zs).drop i) (nbs zs es) (undV es absent how) by
    have := h (srt zs).length 0 (by omega)
    rw [List.drop_zero] at this
    exact this
  intro m
  induction m with
  | zero =>
    intro i hi
    rw [allU_end _ _ _ _ _ (by omega), List.drop_eq_nil_of_le (by omega)]; rfl
  | succ m ih =>
    intro i hi
    by_cases hlt : i < (srt zs).length
    · rw [allU_step _ _ _ _ _ hlt, ih (i + 1) (by omega), rowU_seen hs hok absent how i hlt, List.drop_eq_getElem_cons hlt]
      have hg : (srt zs)[i] = (srt zs).getD i 0 := by rw [List.getD_eq_getElem?_getD, List.getElem?_eq_getElem hlt]; rfl
      rw [hg]
      unfold seenE
      rw [List.flatMap_cons]
      rfl
    · rw [allU_end _ _ _ _ _ hlt, List.drop_eq_nil_of_le (by omega)]; rfl
end Go.Proofs.YtfkmpnpliadohaaGreat.R

set_option linter.unusedVariables false
set_option linter.unusedSimpArgs false
/- The plain law of FnUndirectMerged. -/
namespace Go.Proofs.YtfkmpnpliadohaaGreat.R
open Go.RowKit Go.Lab Go.Proofs.YtfkmpnpliadohaaGreatW.PrintWords PL Q

theorem merged_f (a b how : Int) (hh : 0 ≤ how ∧ how ≤ 2) (ha : -1099511627776 ≤ a ∧ a ≤ 1099511627776) (hb : -1099511627776 ≤ b ∧ b ≤ 1099511627776) : laws_merged.f a b how = some (mrg how a b) := by
  unfold laws_merged.f mrg
  have h3 : how = 0 ∨ how = 1 ∨ how = 2 := by omega
  rcases h3 with rfl | rfl | rfl
  · rw [if_neg (by decide), if_neg (by decide), if_pos rfl]
    congr 1
    unfold wrap64; omega
  · rw [if_pos rfl, if_neg (by decide), if_pos rfl]
    congr 1
    unfold mn
    split <;> omega
  · rw [if_neg (by decide), if_pos rfl, if_neg (by decide), if_neg (by decide)]
    congr 1
    unfold mx
    split <;> omega

theorem rdO (r : List Bool) (j : Nat) : rdOf false r (j : Int) = r.getD j false := by unfold rdOf; rw [Int.toNat_natCast]
theorem rdI (r : List Int) (j : Nat) : rd r (j : Int) = r.getD j 0 := by unfold rd; rw [Int.toNat_natCast]

section
variable (zs : List Int) (es : List S38) (absent how : Int) (A : List (List Bool)) (W : List (List Int))

/-- one more edge, or none -/
theorem merged_cell (n : Nat) (hA : SqG n A) (hW : SqG n W) (hids : (srt zs).length = n) (hn : n ≤ 1000) (hok : es.all (goodE zs) = true) (hh : 0 ≤ how ∧ how ≤ 2) (ha : -1099511627776 ≤ absent ∧ absent ≤ 1099511627776)
    (sA : ∀ i j, i < n → j < n → gt A i j false = (arcW es ((srt zs).getD i 0) ((srt zs).getD j 0)).isSome)
    (sW : ∀ i j, i < n → j < n → ∀ m, arcW es ((srt zs).getD i 0) ((srt zs).getD j 0) = some m → gt W i j 0 = m)
    (bad : Bool) (g0 : Bool) (g1 : List Int) (g2 : List S38) (i j : Nat) (hi : i < n) (hj : j < n) (acc : List S38) (hacc : acc.length ≤ 1000000) (r : Bool)
    (h : Ev (fun k => laws_FnUndirectMerged.l1 k absent how bad (i : Int) ((j + 1 : Nat) : Int) g0 g1 g2 (srt zs) A W false (srt zs) (acc ++ cellU (srt zs) es absent how i j)) r) :
    Ev (fun k => laws_FnUndirectMerged.l1 k absent how bad (i : Int) (j : Int) g0 g1 g2 (srt zs) A W false (srt zs) acc) r := by
  have w2 : wrap64 ((j : Int) + 1) = ((j + 1 : Nat) : Int) := by unfold wrap64; omega
  have lA := hA.1
  have lW := hW.1
  have lAi := hA.2 i hi
  have lAj := hA.2 j hj
  have lWi := hW.2 i hi
  have lWj := hW.2 j hj
  have hbig : acc.length < 5864062014805 := Nat.lt_of_le_of_lt hacc (by decide)
  have a1 := sA i j hi hj
  have a2 := sA j i hj hi
  have b1 := sW i j hi hj
  have b2 := sW j i hj hi
  have c1 : ∀ m, arcW es ((srt zs).getD i 0) ((srt zs).getD j 0) = some m → -1099511627776 ≤ m ∧ m ≤ 1099511627776 := fun m hm => arcW_le hok hm
  have c2 : ∀ m, arcW es ((srt zs).getD j 0) ((srt zs).getD i 0) = some m → -1099511627776 ≤ m ∧ m ≤ 1099511627776 := fun m hm => arcW_le hok hm
  unfold gt at a1 a2 b1 b2
  unfold cellU undV at h
  cases ho1 : arcW es ((srt zs).getD i 0) ((srt zs).getD j 0) with
  | none =>
    cases ho2 : arcW es ((srt zs).getD j 0) ((srt zs).getD i 0) with
    | none =>
    · have q1 : ¬ (A.getD i []).getD j false = true := by rw [a1, ho1]; simp
      have q2 : ¬ (A.getD j []).getD i false = true := by rw [a2, ho2]; simp
      rw [ho1, ho2] at h
      have h' : Ev (fun k => laws_FnUndirectMerged.l1 k absent how bad (i : Int) ((j + 1 : Nat) : Int) g0 g1 g2 (srt zs) A W false (srt zs) (acc)) r := by simpa using h
      refine Ev.step (f := fun k => laws_FnUndirectMerged.j3 k absent how bad (i : Int) (j : Int) absent absent g0 g1 g2 (srt zs) A W false (srt zs) acc) (fun k => ?_) (Ev.step (fun k => ?_) h')
      · simp only [laws_FnUndirectMerged.l1, rdL3, rdL4, rdO, rdI]
        rw [if_pos (by omega), if_pos (by omega), if_pos (by omega), if_pos (by omega), if_pos (by omega), if_neg q1]
      · simp only [laws_FnUndirectMerged.j3, rdL3, rdL4, rdO, rdI]
        rw [if_pos (by omega), if_pos (by omega), if_pos (by omega), if_pos (by omega), if_neg q2, if_pos (by omega), if_pos (by omega), if_neg q1, w2]
    | some m2 =>
    · have q1 : ¬ (A.getD i []).getD j false = true := by rw [a1, ho1]; simp
      have q2 : (A.getD j []).getD i false = true := by rw [a2, ho2]; simp
      rw [ho1, ho2] at h
      have h' : Ev (fun k => laws_FnUndirectMerged.l1 k absent how bad (i : Int) ((j + 1 : Nat) : Int) g0 g1 g2 (srt zs) A W false (srt zs) (acc ++ [⟨(srt zs).getD i 0, (srt zs).getD j 0, mrg how absent m2⟩])) r := by simpa using h
      refine Ev.step (f := fun k => laws_FnUndirectMerged.j3 k absent how bad (i : Int) (j : Int) absent absent g0 g1 g2 (srt zs) A W false (srt zs) acc) (fun k => ?_) (Ev.step (fun k => ?_) h')
      · simp only [laws_FnUndirectMerged.l1, rdL3, rdL4, rdO, rdI]
        rw [if_pos (by omega), if_pos (by omega), if_pos (by omega), if_pos (by omega), if_pos (by omega), if_neg q1]
      · simp only [laws_FnUndirectMerged.j3, rdL3, rdL4, rdO, rdI]
        rw [if_pos (by omega), if_pos (by omega), if_pos (by omega), if_pos (by omega), if_pos q2, if_pos (by omega), if_pos (by omega), if_pos (by omega), if_pos (by omega), if_neg q1, if_pos (by omega), if_pos (by omega), b2 m2 ho2, merged_f absent m2 how hh ha (c2 _ ho2), Option.bind_some, if_pos hbig, w2]
  | some m1 =>
    cases ho2 : arcW es ((srt zs).getD j 0) ((srt zs).getD i 0) with
    | none =>
    · have q1 : (A.getD i []).getD j false = true := by rw [a1, ho1]; simp
      have q2 : ¬ (A.getD j []).getD i false = true := by rw [a2, ho2]; simp
      rw [ho1, ho2] at h
      have h' : Ev (fun k => laws_FnUndirectMerged.l1 k absent how bad (i : Int) ((j + 1 : Nat) : Int) g0 g1 g2 (srt zs) A W false (srt zs) (acc ++ [⟨(srt zs).getD i 0, (srt zs).getD j 0, mrg how m1 absent⟩])) r := by simpa using h
      refine Ev.step (f := fun k => laws_FnUndirectMerged.j3 k absent how bad (i : Int) (j : Int) m1 absent g0 g1 g2 (srt zs) A W false (srt zs) acc) (fun k => ?_) (Ev.step (fun k => ?_) h')
      · simp only [laws_FnUndirectMerged.l1, rdL3, rdL4, rdO, rdI]
        rw [if_pos (by omega), if_pos (by omega), if_pos (by omega), if_pos (by omega), if_pos (by omega), if_pos q1, if_pos (by omega), if_pos (by omega), b1 m1 ho1]
      · simp only [laws_FnUndirectMerged.j3, rdL3, rdL4, rdO, rdI]
        rw [if_pos (by omega), if_pos (by omega), if_pos (by omega), if_pos (by omega), if_neg q2, if_pos (by omega), if_pos (by omega), if_pos q1, if_pos (by omega), if_pos (by omega), merged_f m1 absent how hh (c1 _ ho1) ha, Option.bind_some, if_pos hbig, w2]
    | some m2 =>
    · have q1 : (A.getD i []).getD j false = true := by rw [a1, ho1]; simp
      have q2 : (A.getD j []).getD i false = true := by rw [a2, ho2]; simp
      rw [ho1, ho2] at h
      have h' : Ev (fun k => laws_FnUndirectMerged.l1 k absent how bad (i : Int) ((j + 1 : Nat) : Int) g0 g1 g2 (srt zs) A W false (srt zs) (acc ++ [⟨(srt zs).getD i 0, (srt zs).getD j 0, mrg how m1 m2⟩])) r := by simpa using h
      refine Ev.step (f := fun k => laws_FnUndirectMerged.j3 k absent how bad (i : Int) (j : Int) m1 absent g0 g1 g2 (srt zs) A W false (srt zs) acc) (fun k => ?_) (Ev.step (fun k => ?_) h')
      · simp only [laws_FnUndirectMerged.l1, rdL3, rdL4, rdO, rdI]
        rw [if_pos (by omega), if_pos (by omega), if_pos (by omega), if_pos (by omega), if_pos (by omega), if_pos q1, if_pos (by omega), if_pos (by omega), b1 m1 ho1]
      · simp only [laws_FnUndirectMerged.j3, rdL3, rdL4, rdO, rdI]
        rw [if_pos (by omega), if_pos (by omega), if_pos (by omega), if_pos (by omega), if_pos q2, if_pos (by omega), if_pos (by omega), if_pos (by omega), if_pos (by omega), if_pos q1, if_pos (by omega), if_pos (by omega), b2 m2 ho2, merged_f m1 m2 how hh (c1 _ ho1) (c2 _ ho2), Option.bind_some, if_pos hbig, w2]
end
end Go.Proofs.YtfkmpnpliadohaaGreat.R

set_option linter.unusedVariables false
set_option linter.unusedSimpArgs false
/- The plain law of FnUndirectMerged: whole. -/
namespace Go.Proofs.YtfkmpnpliadohaaGreat.R
open Go.RowKit Go.Lab Go.Proofs.YtfkmpnpliadohaaGreatW.PrintWords PL Q

theorem cellU_len (ids : List Int) (es : List S38) (absent how : Int) (i j : Nat) : (cellU ids es absent how i j).length ≤ 1 := by unfold cellU; split <;> simp

section
variable (zs : List Int) (es : List S38) (absent how : Int) (A : List (List Bool)) (W : List (List Int))

structure TabOk (n : Nat) : Prop where
  hA : SqG n A
  hW : SqG n W
  hids : (srt zs).length = n
  hn : n ≤ 1000
  hok : es.all (goodE zs) = true
  hh : 0 ≤ how ∧ how ≤ 2
  ha : -1099511627776 ≤ absent ∧ absent ≤ 1099511627776
  sA : ∀ i j, i < n → j < n → gt A i j false = (arcW es ((srt zs).getD i 0) ((srt zs).getD j 0)).isSome
  sW : ∀ i j, i < n → j < n → ∀ m, arcW es ((srt zs).getD i 0) ((srt zs).getD j 0) = some m → gt W i j 0 = m

theorem merged_row {n : Nat} (T : TabOk zs es absent how A W n) (bad : Bool) (g0 : Bool) (g1 : List Int) (g2 : List S38) (i : Nat) (hi : i < n) (r : Bool) : ∀ m j, n - j ≤ m → ∀ acc : List S38, acc.length ≤ 1000 * i + j → j ≤ n →
    Ev (fun k => laws_FnUndirectMerged.l0 k absent how bad ((i + 1 : Nat) : Int) g0 g1 g2 (srt zs) A W false (srt zs) (acc ++ rowU (srt zs) es absent how i j)) r →
    Ev (fun k => laws_FnUndirectMerged.l1 k absent how bad (i : Int) (j : Int) g0 g1 g2 (srt zs) A W false (srt zs) acc) r := by
  have hn := T.hn
  have hids := T.hids
  have wi : wrap64 ((i : Int) + 1) = ((i + 1 : Nat) : Int) := by unfold wrap64; omega
  intro m
  induction m with
  | zero =>
    intro j hj acc hacc hjn h
    rw [rowU_end _ _ _ _ _ _ (by omega), List.append_nil] at h
    refine Ev.step (fun k => ?_) h
    simp only [laws_FnUndirectMerged.l1]
    rw [if_neg (by omega), wi]
  | succ m ih =>
    intro j hj acc hacc hjn h
    by_cases hlt : j < n
    · rw [rowU_step _ _ _ _ _ _ (by omega), ← List.append_assoc] at h
      refine merged_cell zs es absent how A W n T.hA T.hW T.hids T.hn T.hok T.hh T.ha T.sA T.sW bad g0 g1 g2 i j hi hlt acc (by omega) r ?_
      refine ih (j + 1) (by omega) _ ?_ (by omega) h
      rw [List.length_append]
      have := cellU_len (srt zs) es absent how i j
      omega
    · rw [rowU_end _ _ _ _ _ _ (by omega), List.append_nil] at h
      refine Ev.step (fun k => ?_) h
      simp only [laws_FnUndirectMerged.l1]
      rw [if_neg (by omega), wi]

theorem rowU_len (ids : List Int) (i : Nat) : ∀ m j, ids.length - j ≤ m → (rowU ids es absent how i j).length ≤ ids.length - j
  | 0, j, h => by rw [rowU_end _ _ _ _ _ _ (by omega)]; simp
  | m + 1, j, h => by
    by_cases hj : j < ids.length
    · rw [rowU_step _ _ _ _ _ _ hj, List.length_append]
      have := rowU_len ids i m (j + 1) (by omega)
      have := cellU_len ids es absent how i j
      omega
    · rw [rowU_end _ _ _ _ _ _ hj]; simp

theorem merged_all {n : Nat} (T : TabOk zs es absent how A W n) (bad : Bool) (g0 : Bool) (g1 : List Int) (g2 : List S38) (r : Bool) : ∀ m i, n - i ≤ m → ∀ acc : List S38, acc.length ≤ 1000 * i → i ≤ n →
    Ev (fun k => if bad = true then (some false) else ((laws_sameGraph.f k g0 g1 g2 false (srt zs) (acc ++ allU (srt zs) es absent how i)).bind fun t182 => (if t182 = true then ((laws_merges.f k).bind fun t183 => (some t183)) else (some false)))) r →
    Ev (fun k => laws_FnUndirectMerged.l0 k absent how bad (i : Int) g0 g1 g2 (srt zs) A W false (srt zs) acc) r := by
  have hn := T.hn
  have hids := T.hids
  intro m
  induction m with
  | zero =>
    intro i hi acc hacc hin h
    rw [allU_end _ _ _ _ _ (by omega), List.append_nil] at h
    refine Ev.step (fun k => ?_) h
    simp only [laws_FnUndirectMerged.l0]
    rw [if_neg (by omega)]
  | succ m ih =>
    intro i hi acc hacc hin h
    have wi : wrap64 ((i : Int) + 1) = ((i + 1 : Nat) : Int) := by unfold wrap64; omega
    by_cases hlt : i < n
    · rw [allU_step _ _ _ _ _ (by omega), ← List.append_assoc] at h
      have hr := rowU_len es absent how (srt zs) i (srt zs).length (i + 1) (by omega)
      refine Ev.step (f := fun k => laws_FnUndirectMerged.l1 k absent how bad (i : Int) ((i + 1 : Nat) : Int) g0 g1 g2 (srt zs) A W false (srt zs) acc) (fun k => ?_) ?_
      · simp only [laws_FnUndirectMerged.l0]
        rw [if_pos (by omega), wi]
      · refine merged_row zs es absent how A W T bad g0 g1 g2 i hlt r n (i + 1) (by omega) acc (by omega) (by omega) ?_
        refine ih (i + 1) (by omega) _ ?_ (by omega) h
        rw [List.length_append]
        omega
    · rw [allU_end _ _ _ _ _ (by omega), List.append_nil] at h
      refine Ev.step (fun k => ?_) h
      simp only [laws_FnUndirectMerged.l0]
      rw [if_neg (by omega)]
end

theorem undE_len {zs : List Int} {es : List S38} (hs : (srt zs).Pairwise (· < ·)) (hok : es.all (goodE zs) = true) (hz : zs.length ≤ 25) (absent how : Int) : (undE zs es absent how).length ≤ 100000 := by
  rw [← allU_seen hs hok]
  have hl : (srt zs).length ≤ 25 := by rw [srt_length]; exact hz
  suffices h : ∀ m i, (srt zs).length - i ≤ m → (allU (srt zs) es absent how i).length ≤ 25 * ((srt zs).length - i) by
    have := h (srt zs).length 0 (by omega)
    omega
  intro m
  induction m with
  | zero =>
    intro i hi
    rw [allU_end _ _ _ _ _ (by omega)]; simp
  | succ m ih =>
    intro i hi
    by_cases hlt : i < (srt zs).length
    · rw [allU_step _ _ _ _ _ hlt, List.length_append]
      have h1 := rowU_len es absent how (srt zs) i (srt zs).length (i + 1) (by omega)
      have h2 := ih (i + 1) (by omega)
      omega
    · rw [allU_end _ _ _ _ _ hlt]; simp

theorem srt79 : srt [7, 9] = [7, 9] := srt_id (by decide)
theorem und79 : undE [7, 9] [⟨9, 7, 3⟩] 4 0 = [⟨7, 9, 7⟩] := by
  have hs : (srt [7, 9]).Pairwise (· < ·) := by rw [srt79]; decide
  unfold undE seenE seenR
  simp only [nbs_eq hs, srt79]
  rfl
theorem ok79 : uwOk true [7, 9] [⟨9, 7, 3⟩] 4 0 = true := by
  unfold uwOk readOk
  rw [srt79]
  decide

theorem merges_ev : Ev (fun k => laws_merges.f k) true := by
  have hf : impl_UndirectWeighted.f true [7, 9] [⟨9, 7, 3⟩] 4 0 = some (false, [7, 9], [⟨7, 9, 7⟩], false) := by
    unfold impl_UndirectWeighted.f
    rw [if_pos (by decide), if_pos ok79, und79, srt79]
  refine Ev.congr (f := fun k => (laws_sameGraph.f k false [7, 9] [⟨7, 9, 7⟩] false [7, 9] [⟨7, 9, 7⟩]).bind fun t158 => (some t158)) (fun k => ?_) (Ev.bind (same_ev false [7, 9] [⟨7, 9, 7⟩] (by decide) (by decide)) (Ev.now _))
  unfold laws_merges.f
  rw [hf]
  rfl

theorem law_j0 (d : Bool) (zs : List Int) (es : List S38) (a how : Int) (hw : 0 ≤ how ∧ how ≤ 255) (ha : -1099511627776 ≤ a ∧ a ≤ 1099511627776) (hf : fewB d true zs es 25 = true) (hwf : ∀ x ∈ zs, (Lit.int .i64 x).wf = true) :
    Ev (fun k => laws_FnUndirectMerged.j0 k a how false d zs es) true := by
  unfold fewB at hf
  simp only [Bool.and_eq_true, decide_eq_true_eq, beq_iff_eq] at hf
  obtain ⟨rfl, hz, he, hro⟩ := hf
  have hro' := hro
  unfold readOk at hro'
  simp only [Bool.and_eq_true, decide_eq_true_eq] at hro'
  obtain ⟨hs, hall⟩ := hro'
  have hk : wrap64 (Int.tmod how 3) = how % 3 := by
    have : Int.tmod how 3 = how % 3 := Int.tmod_eq_emod_of_nonneg hw.1
    rw [this]; unfold wrap64; omega
  have hk2 : 0 ≤ how % 3 ∧ how % 3 ≤ 2 := by omega
  have hU : impl_UndirectWeighted.f true zs es a (how % 3) = some (false, srt zs, undE zs es a (how % 3), false) := by
    unfold impl_UndirectWeighted.f
    rw [if_pos ⟨by omega, by omega, List.all_eq_true.2 hwf⟩, if_pos]
    unfold uwOk
    rw [hro]
    simp; omega
  have hin : ∀ e ∈ es, e.f0 ∈ zs ∧ e.f1 ∈ zs := by
    intro e hm
    have := List.all_eq_true.1 hall e hm
    unfold goodE at this
    simp only [Bool.and_eq_true, decide_eq_true_eq] at this
    exact ⟨this.1.1.1.1, this.1.1.1.2⟩
  have hT : laws_tableOf.f true zs es = some (srt zs, tbA true (srt zs) (srt zs).length es, tbW true (srt zs) (srt zs).length es) := by
    unfold laws_tableOf.f
    rw [if_pos ⟨by omega, by omega, List.all_eq_true.2 fun e hm => by simp [hin e hm]⟩]
  obtain ⟨t1, t2, t3, t4⟩ := tab_spec hs es (fun e hm => ⟨(mem_srt _ _).2 (hin e hm).1, (mem_srt _ _).2 (hin e hm).2⟩)
  refine Ev.step (f := fun k => laws_FnUndirectMerged.l0 k a (how % 3) false ((0 : Nat) : Int) false (srt zs) (undE zs es a (how % 3)) (srt zs) (tbA true (srt zs) (srt zs).length es) (tbW true (srt zs) (srt zs).length es) false (srt zs) []) (fun k => ?_) ?_
  · simp only [laws_FnUndirectMerged.j0]
    rw [if_neg (by decide), hk, hU, hT]
    rfl
  · refine merged_all zs es a (how % 3) _ _ (n := (srt zs).length) ⟨t1, t2, rfl, by rw [srt_length]; omega, hall, hk2, ha, t3, t4⟩ false false (srt zs) _ true (srt zs).length 0 (by omega) [] (by simp) (Nat.zero_le _) ?_
    rw [List.nil_append, allU_seen hs hall]
    refine Ev.congr (fun k => if_neg (by decide)) ?_
    exact Ev.bind (same_ev false (srt zs) _ (by rw [srt_length]; omega) (undE_len hs hall hz _ _)) (Ev.congr (fun k => if_pos rfl) (Ev.bind merges_ev (Ev.now _)))

theorem law_true (d : Bool) (zs : List Int) (es : List S38) (a how : Int) : Ev (fun k => laws_FnUndirectMerged.j0 k a how true d zs es) true :=
  Ev.step (fun k => by simp only [laws_FnUndirectMerged.j0]; rw [if_pos trivial]) (Ev.now _)

theorem law_ev (d : Bool) (zs : List Int) (es : List S38) (a how : Int) (hw : 0 ≤ how ∧ how ≤ 255) (hwf : ∀ x ∈ zs, (Lit.int .i64 x).wf = true) : Ev (fun k => laws_FnUndirectMerged.f k d zs es a how) true := by
  by_cases hz : (decide (zs.length ≤ 2147483647) && decide (es.length ≤ 2147483647)) = true
  · simp only [Bool.and_eq_true, decide_eq_true_eq] at hz
    have h0 : laws_zzFits1.f d zs es = some true := by
      unfold laws_zzFits1.f
      rw [if_neg (by omega), if_neg (by omega)]
    refine Ev.congr (f := fun k => (laws_fewOf.f k d zs es true 25).bind fun t161 => (if t161 = true then (if a > 1099511627776 then (laws_FnUndirectMerged.j0 k a how true d zs es) else (laws_FnUndirectMerged.j0 k a how (decide (a < (-1099511627776))) d zs es)) else (laws_FnUndirectMerged.j0 k a how true d zs es))) (fun k => ?_) (Ev.bind (fewOf_ev d true zs es 25 (by omega)) ?_)
    · unfold laws_FnUndirectMerged.f
      rw [h0]; rfl
    · cases hf : fewB d true zs es 25 with
      | false => exact Ev.congr (fun k => if_neg (by simp)) (law_true d zs es a how)
      | true =>
        refine Ev.congr (fun k => if_pos rfl) ?_
        by_cases h1 : a > 1099511627776
        · exact Ev.congr (fun k => if_pos h1) (law_true d zs es a how)
        · refine Ev.congr (fun k => if_neg h1) ?_
          by_cases h2 : a < -1099511627776
          · rw [decide_eq_true h2]; exact law_true d zs es a how
          · rw [decide_eq_false h2]; exact law_j0 d zs es a how hw (by omega) hf hwf
  · refine Ev.congr (fun k => ?_) (Ev.now _)
    unfold laws_FnUndirectMerged.f laws_zzFits1.f
    simp only [Bool.and_eq_true, decide_eq_true_eq] at hz
    by_cases h1 : (zs.length : Int) > 2147483647
    · rw [if_pos h1]; rfl
    · rw [if_neg h1, if_pos (by omega)]; rfl
end Go.Proofs.YtfkmpnpliadohaaGreat.R
