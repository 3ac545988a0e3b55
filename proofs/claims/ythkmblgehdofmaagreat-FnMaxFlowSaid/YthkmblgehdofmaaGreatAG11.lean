import Derived.Test.YthkmblgehdofmaaGreatAG9
import Derived.Test.YthkmblgehdofmaaGreatAG6
import Derived.Test.YthkmblgehdofmaaGreatAG10
set_option linter.unusedVariables false
set_option linter.unusedSimpArgs false
/- What the printed functions of the laws on flows answer. -/
namespace Go.Proofs.YthkmblgehdofmaaGreat.R
open Go.RowKit Go.Lab Go.Proofs.YthkmblgehdofmaaGreatW.PrintWords PL Q

theorem srt_lt {xs : List Int} (h : xs.Nodup) : (srt xs).Pairwise (· < ·) := by
  have h1 : (srt xs).Nodup := (srt_perm xs).nodup_iff.2 h
  have h2 := srt_le xs
  rw [List.pairwise_iff_getElem] at h2 ⊢
  intro i j hi hj hij
  have h3 := h2 i j hi hj hij
  have h4 : (srt xs)[i] ≠ (srt xs)[j] := fun e => by
    have := (List.pairwise_iff_getElem.1 h1) i j hi hj hij
    exact this e
  omega
theorem srt_nodup {xs : List Int} (h : (srt xs).Pairwise (· < ·)) : xs.Nodup := by
  refine (srt_perm xs).nodup_iff.1 (h.imp (fun h => ?_))
  omega
theorem rdE (es : List S29) (i : Nat) (h : i < es.length) : rd_T29 es (i : Int) = es[i] := by unfold rd_T29; simp [List.getD_eq_getElem?_getD, h]
theorem rdI (l : List Int) (i : Nat) (h : i < l.length) : rd l (i : Int) = l[i] := by unfold rd; rw [Int.toNat_natCast, List.getD_eq_getElem?_getD, List.getElem?_eq_getElem h]; rfl

/-! slices.Contains of numbers -/
theorem idx_ev (l : List Int) (x : Int) (hl : l.length ≤ 100000) : ∀ m i, l.length - i ≤ m → i ≤ l.length → ∃ r, Ev (fun k => slices_Index_int_int.l0 k l x (l.length : Int) (i : Int)) r ∧ (r ≥ 0 ↔ x ∈ l.drop i)
  | 0, i, hm, hi => by
    refine ⟨-1, Ev.step (fun k => ?_) (Ev.now _), ?_⟩
    · simp only [slices_Index_int_int.l0]
      rw [if_neg (by omega)]
    · rw [List.drop_eq_nil_of_le (by omega)]; simp
  | m + 1, i, hm, hi => by
    by_cases hlt : i < l.length
    · have w2 : wrap64 ((i : Int) + 1) = ((i + 1 : Nat) : Int) := by unfold wrap64; omega
      by_cases hx : x = l[i]
      · refine ⟨(i : Int), Ev.step (fun k => ?_) (Ev.now _), ?_⟩
        · simp only [slices_Index_int_int.l0]
          rw [if_pos (by omega), if_pos (by omega), if_pos (by omega), rdI l i hlt, if_pos hx]
        · rw [hx]
          exact ⟨fun _ => by rw [List.drop_eq_getElem_cons hlt]; exact List.mem_cons_self, fun _ => by omega⟩
      · obtain ⟨r, h1, h2⟩ := idx_ev l x hl m (i + 1) (by omega) (by omega)
        refine ⟨r, Ev.step (fun k => ?_) h1, ?_⟩
        · simp only [slices_Index_int_int.l0]
          rw [if_pos (by omega), if_pos (by omega), if_pos (by omega), rdI l i hlt, if_neg hx, w2]
        · rw [h2, List.drop_eq_getElem_cons hlt, List.mem_cons]
          constructor
          · exact .inr
          · rintro (h | h)
            · exact absurd h hx
            · exact h
    · refine ⟨-1, Ev.step (fun k => ?_) (Ev.now _), ?_⟩
      · simp only [slices_Index_int_int.l0]
        rw [if_neg (by omega)]
      · rw [List.drop_eq_nil_of_le (by omega)]; simp
theorem contains_ev (l : List Int) (x : Int) (hl : l.length ≤ 100000) : Ev (fun k => slices_Contains_int_int.f k l x) (decide (x ∈ l)) := by
  obtain ⟨r, h1, h2⟩ := idx_ev l x hl l.length 0 (by omega) (Nat.zero_le _)
  have h3 : Ev (fun k => slices_Index_int_int.f k l x) r := Ev.congr (fun k => rfl) h1
  refine Ev.congr (fun k => ?_) (Ev.bind h3 (f := fun _ t => some (decide (t ≥ 0))) ?_)
  · rfl
  · have : decide (r ≥ 0) = decide (x ∈ l) := by rw [decide_eq_decide, h2, List.drop_zero]
    rw [this]; exact Ev.now _

/-! sized -/
def lightB (es : List S29) : Bool := es.all fun e => !decide (1099511627776 < e.f2) && !decide (e.f2 < -1099511627776)
theorem sized_l0 (d : Bool) (zs : List Int) (es : List S29) (he : es.length ≤ 100000) : ∀ m i, es.length - i ≤ m → i ≤ es.length → Ev (fun k => laws_sized.l0 k (i : Int) d zs es) (lightB (es.drop i))
  | 0, i, hm, hi => by
    refine Ev.step (fun k => ?_) (Ev.now _)
    simp only [laws_sized.l0]
    rw [if_neg (by omega), List.drop_eq_nil_of_le (by omega)]; rfl
  | m + 1, i, hm, hi => by
    by_cases hlt : i < es.length
    · have w2 : wrap64 ((i : Int) + 1) = ((i + 1 : Nat) : Int) := by unfold wrap64; omega
      have ih := sized_l0 d zs es he m (i + 1) (by omega) (by omega)
      have hd : lightB (es.drop i) = ((!decide (1099511627776 < es[i].f2) && !decide (es[i].f2 < -1099511627776)) && lightB (es.drop (i + 1))) := by rw [List.drop_eq_getElem_cons hlt]; rfl
      rw [hd]
      have hr := rdE es i hlt
      generalize es[i] = e at hr
      by_cases g1 : 1099511627776 < e.f2
      · refine Ev.step (fun k => ?_) (Ev.now _)
        simp only [laws_sized.l0]
        rw [if_pos (by omega), if_pos (by omega), hr, if_pos g1, decide_eq_true g1]; rfl
      · by_cases g2 : e.f2 < -1099511627776
        · refine Ev.step (fun k => ?_) (Ev.now _)
          simp only [laws_sized.l0]
          rw [if_pos (by omega), if_pos (by omega), hr, if_neg g1, if_pos g2, decide_eq_true g2, decide_eq_false g1]; rfl
        · rw [decide_eq_false g1, decide_eq_false g2]
          refine Ev.step (fun k => ?_) ih
          simp only [laws_sized.l0]
          rw [if_pos (by omega), if_pos (by omega), hr, if_neg g1, if_neg g2, w2]
    · refine Ev.step (fun k => ?_) (Ev.now _)
      simp only [laws_sized.l0]
      rw [if_neg (by omega), List.drop_eq_nil_of_le (by omega)]; rfl
def sizedB (n : Nat) (zs : List Int) (es : List S29) : Bool := decide (zs.length ≤ n) && (decide (es.length ≤ 200) && lightB es)
theorem sized_ev (d : Bool) (zs : List Int) (es : List S29) (n : Nat) : Ev (fun k => laws_sized.f k d zs es (n : Int)) (sizedB n zs es) := by
  unfold laws_sized.f sizedB
  by_cases h1 : zs.length ≤ n
  · refine Ev.congr (fun k => if_neg (by omega)) ?_
    rw [decide_eq_true h1, Bool.true_and]
    by_cases h2 : es.length ≤ 200
    · rw [decide_eq_true h2, decide_eq_false (show ¬ (es.length : Int) > 200 by omega), Bool.true_and]
      refine Ev.step (fun k => ?_) (by have := sized_l0 d zs es (by omega) es.length 0 (by omega) (Nat.zero_le _); rw [List.drop_zero] at this; exact this)
      simp only [laws_sized.j0]
      rfl
    · rw [decide_eq_false h2, decide_eq_true (show (es.length : Int) > 200 by omega), Bool.false_and]
      refine Ev.step (fun k => ?_) (Ev.now _)
      simp only [laws_sized.j0]
      rfl
  · rw [decide_eq_false h1, Bool.false_and]
    refine Ev.congr (fun k => if_pos (by omega)) (Ev.step (fun k => ?_) (Ev.now _))
    simp only [laws_sized.j0]
    rfl

/-! formed -/
def edgeB (zs : List Int) (e : S29) : Bool := !decide (e.f0 = e.f1) && (decide (e.f0 ∈ zs) && decide (e.f1 ∈ zs))
theorem formed_l1 (d : Bool) (zs : List Int) (es : List S29) (hz : zs.length ≤ 100000) (he : es.length ≤ 100000) : ∀ m i, es.length - i ≤ m → i ≤ es.length → Ev (fun k => laws_formed.l1 k (i : Int) d zs es) ((es.drop i).all (edgeB zs))
  | 0, i, hm, hi => by
    refine Ev.step (fun k => ?_) (Ev.now _)
    simp only [laws_formed.l1]
    rw [if_neg (by omega), List.drop_eq_nil_of_le (by omega)]; rfl
  | m + 1, i, hm, hi => by
    by_cases hlt : i < es.length
    · have w2 : wrap64 ((i : Int) + 1) = ((i + 1 : Nat) : Int) := by unfold wrap64; omega
      have ih := formed_l1 d zs es hz he m (i + 1) (by omega) (by omega)
      rw [List.drop_eq_getElem_cons hlt, List.all_cons]
      have hr := rdE es i hlt
      generalize es[i] = e at hr
      by_cases g1 : e.f0 = e.f1
      · have h0 : edgeB zs e = false := by unfold edgeB; rw [decide_eq_true g1]; rfl
        rw [h0]
        refine Ev.step (fun k => ?_) (Ev.now _)
        simp only [laws_formed.l1]
        rw [if_pos (by omega), if_pos (by omega), hr, if_pos g1]; rfl
      · refine Ev.step (f := fun k => (slices_Contains_int_int.f k zs e.f0).bind fun t297 => (if t297 = true then ((slices_Contains_int_int.f k zs e.f1).bind fun t298 => (if t298 = true then (laws_formed.l1 k (((i + 1 : Nat) : Int)) d zs es) else (some false))) else (some false))) (fun k => ?_) ?_
        · simp only [laws_formed.l1]
          rw [if_pos (by omega), if_pos (by omega), hr, if_neg g1, w2]
        · refine Ev.bind (contains_ev zs e.f0 hz) ?_
          by_cases g2 : e.f0 ∈ zs
          · refine Ev.congr (fun k => if_pos (decide_eq_true g2)) (Ev.bind (contains_ev zs e.f1 hz) ?_)
            by_cases g3 : e.f1 ∈ zs
            · have h0 : edgeB zs e = true := by unfold edgeB; rw [decide_eq_false g1, decide_eq_true g2, decide_eq_true g3]; rfl
              rw [h0, Bool.true_and]
              exact Ev.congr (fun k => if_pos (decide_eq_true g3)) ih
            · have h0 : edgeB zs e = false := by unfold edgeB; rw [decide_eq_false g1, decide_eq_true g2, decide_eq_false g3]; rfl
              rw [h0, Bool.false_and]
              exact Ev.congr (fun k => if_neg (by simp [g3])) (Ev.now _)
          · have h0 : edgeB zs e = false := by unfold edgeB; rw [decide_eq_false g1, decide_eq_false g2]; rfl
            rw [h0, Bool.false_and]
            exact Ev.congr (fun k => if_neg (by simp [g2])) (Ev.now _)
    · refine Ev.step (fun k => ?_) (Ev.now _)
      simp only [laws_formed.l1]
      rw [if_neg (by omega), List.drop_eq_nil_of_le (by omega)]; rfl
/-- no number twice from place i on -/
def onceB (zs : List Int) : Nat → Nat → Bool
  | 0, _ => true
  | m + 1, i => !decide (zs.getD i 0 ∈ zs.take i) && onceB zs m (i + 1)
theorem onceB_iff (zs : List Int) : ∀ m i, i + m = zs.length → (zs.take i).Nodup → (onceB zs m i = true ↔ zs.Nodup)
  | 0, i, hm, hn => by
    rw [List.take_of_length_le (by omega)] at hn
    simp [onceB, hn]
  | m + 1, i, hm, hn => by
    have hlt : i < zs.length := by omega
    have hg : zs.getD i 0 = zs[i] := by rw [List.getD_eq_getElem?_getD, List.getElem?_eq_getElem hlt]; rfl
    have ht : zs.take (i + 1) = zs.take i ++ [zs[i]] := List.take_succ_eq_append_getElem hlt
    unfold onceB
    rw [hg, Bool.and_eq_true, Bool.not_eq_true', decide_eq_false_iff_not]
    constructor
    · rintro ⟨h1, h2⟩
      refine (onceB_iff zs m (i + 1) (by omega) ?_).1 h2
      rw [ht, List.nodup_append]
      exact ⟨hn, by simp, fun a ha b hb => by rw [List.mem_singleton] at hb; subst hb; exact fun e => h1 (e ▸ ha)⟩
    · intro h
      have h3 : (zs.take (i + 1)).Nodup := h.sublist (List.take_sublist _ _)
      refine ⟨fun hm' => ?_, (onceB_iff zs m (i + 1) (by omega) h3).2 h⟩
      rw [ht, List.nodup_append] at h3
      exact h3.2.2 _ hm' _ (by simp) rfl
theorem formed_l0 (d : Bool) (zs : List Int) (es : List S29) (hz : zs.length ≤ 100000) (he : es.length ≤ 100000) : ∀ m i, i + m = zs.length → Ev (fun k => laws_formed.l0 k (i : Int) d zs es) (onceB zs m i && es.all (edgeB zs))
  | 0, i, hm => by
    refine Ev.step (f := fun k => laws_formed.l1 k 0 d zs es) (fun k => ?_) ?_
    · simp only [laws_formed.l0]
      rw [if_neg (by omega)]
    · have := formed_l1 d zs es hz he es.length 0 (by omega) (Nat.zero_le _)
      rw [List.drop_zero] at this
      unfold onceB
      rw [Bool.true_and]
      exact this
  | m + 1, i, hm => by
    have hlt : i < zs.length := by omega
    have w2 : wrap64 ((i : Int) + 1) = ((i + 1 : Nat) : Int) := by unfold wrap64; omega
    have ih := formed_l0 d zs es hz he m (i + 1) (by omega)
    have hg : zs.getD i 0 = zs[i] := by rw [List.getD_eq_getElem?_getD, List.getElem?_eq_getElem hlt]; rfl
    unfold onceB
    rw [hg]
    refine Ev.step (f := fun k => (slices_Contains_int_int.f k (zs.take i) zs[i]).bind fun t294 => (if t294 = true then (some false) else (laws_formed.l0 k (((i + 1 : Nat) : Int)) d zs es))) (fun k => ?_) ?_
    · simp only [laws_formed.l0]
      rw [if_pos (by omega), if_pos (by omega), if_pos (by omega), rdI zs i hlt, w2, Int.toNat_natCast]
    · refine Ev.bind (contains_ev (zs.take i) zs[i] (by rw [List.length_take]; omega)) ?_
      by_cases g : zs[i] ∈ zs.take i
      · rw [decide_eq_true g]
        exact Ev.congr (fun k => if_pos rfl) (Ev.now _)
      · rw [decide_eq_false g, Bool.not_false, Bool.true_and]
        exact Ev.congr (fun k => if_neg (by simp)) ih
def formedB (zs : List Int) (es : List S29) : Bool := decide zs.Nodup && es.all (edgeB zs)
theorem formed_ev (d : Bool) (zs : List Int) (es : List S29) (hz : zs.length ≤ 100000) (he : es.length ≤ 100000) : Ev (fun k => laws_formed.f k d zs es) (formedB zs es) := by
  have h := formed_l0 d zs es hz he zs.length 0 (by omega)
  have h2 : onceB zs zs.length 0 = decide zs.Nodup := by
    rw [Bool.eq_iff_iff, decide_eq_true_eq]
    exact onceB_iff zs zs.length 0 (by omega) (by simp)
  rw [h2] at h
  exact h
theorem formed_read {zs : List Int} {es : List S29} (h : lightB es = true) : formedB zs es = readOk zs es := by
  rw [Bool.eq_iff_iff]
  unfold formedB readOk
  rw [Bool.and_eq_true, Bool.and_eq_true, decide_eq_true_eq, decide_eq_true_eq, List.all_eq_true, List.all_eq_true]
  unfold lightB at h
  rw [List.all_eq_true] at h
  refine and_congr ⟨srt_lt, srt_nodup⟩ (forall_congr' fun e => forall_congr' fun he => ?_)
  have h1 := h e he
  unfold edgeB goodE
  simp only [Bool.and_eq_true, Bool.not_eq_true', decide_eq_true_eq, decide_eq_false_iff_not] at h1 ⊢
  exact ⟨fun ⟨a, b, c⟩ => ⟨⟨⟨⟨b, c⟩, a⟩, h1.1⟩, h1.2⟩, fun ⟨⟨⟨⟨b, c⟩, a⟩, _⟩, _⟩ => ⟨a, b, c⟩⟩

/-! rounds enough -/
def matchE (d : Bool) (u v : Int) (f : S29) : Bool := (decide (f.f0 = u) && decide (f.f1 = v)) || (!d && (decide (f.f0 = v) && decide (f.f1 = u)))
def hopsL (d : Bool) : List S29 → List S54
  | [] => []
  | e :: r => (if r.any (matchE d e.f0 e.f1) = true then [] else (⟨e.f0, e.f1, e.f2⟩ : S54) :: (if d = true then [] else [⟨e.f1, e.f0, e.f2⟩])) ++ hopsL d r
theorem match_if {α : Type} (d : Bool) (u v : Int) (e : S29) (X Y : α) : (if e.f0 = u then (if e.f1 = v then X else (if d = true then Y else (if e.f0 = v then (if e.f1 = u then X else Y) else Y))) else (if d = true then Y else (if e.f0 = v then (if e.f1 = u then X else Y) else Y))) = if matchE d u v e = true then X else Y := by
  have key : ∀ (p q r s : Prop) [Decidable p] [Decidable q] [Decidable r] [Decidable s] (d : Bool), (if p then (if q then X else (if d = true then Y else (if r then (if s then X else Y) else Y))) else (if d = true then Y else (if r then (if s then X else Y) else Y))) = if ((decide p && decide q) || (!d && (decide r && decide s))) = true then X else Y := by
    intro p q r s _ _ _ _ d
    by_cases p <;> by_cases q <;> by_cases r <;> by_cases s <;> cases d <;> simp [*]
  exact key _ _ _ _ d
theorem hopsL_len (d : Bool) (es : List S29) : (hopsL d es).length ≤ 2 * es.length := by
  induction es with
  | nil => exact Nat.le_refl _
  | cons e r ih =>
    unfold hopsL
    rw [List.length_append, List.length_cons]
    split
    · simp; omega
    · rw [List.length_cons]
      split <;> simp <;> omega
theorem hops_l1 (d : Bool) (zs : List Int) (es : List S29) (he : es.length ≤ 100000) (acc : List S54) (i u v x : Int) (r : List S54) : ∀ m j, es.length - j ≤ m → j ≤ es.length → ∀ b : Bool,
    Ev (fun k => laws_hops.l1 k acc i (b && !(es.drop j).any (matchE d u v)) (es.length : Int) d zs es u v x) r → Ev (fun k => laws_hops.l1 k acc i b (j : Int) d zs es u v x) r
  | 0, j, hm, hj, b, h => by
    have hje : j = es.length := by omega
    subst hje
    rw [List.drop_length] at h
    simpa using h
  | m + 1, j, hm, hj, b, h => by
    by_cases hlt : j < es.length
    · have w2 : wrap64 ((j : Int) + 1) = ((j + 1 : Nat) : Int) := by unfold wrap64; omega
      rw [List.drop_eq_getElem_cons hlt, List.any_cons] at h
      have hr := rdE es j hlt
      generalize es[j] = e at hr h
      have ih := fun b' => hops_l1 d zs es he acc i u v x r m (j + 1) (by omega) (by omega) b'
      cases hmt : matchE d u v e with
      | true =>
        rw [hmt, Bool.true_or, Bool.not_true, Bool.and_false] at h
        refine Ev.step (fun k => ?_) (ih false (by rw [Bool.false_and]; exact h))
        simp only [laws_hops.l1]
        rw [if_pos (by omega), if_pos (by omega), hr, w2]
        rw [match_if, hmt, if_pos rfl]
      | false =>
        rw [hmt, Bool.false_or] at h
        refine Ev.step (fun k => ?_) (ih b h)
        simp only [laws_hops.l1]
        rw [if_pos (by omega), if_pos (by omega), hr, w2]
        rw [match_if, hmt, if_neg (by simp)]
    · have hje : j = es.length := by omega
      subst hje
      rw [List.drop_length] at h
      simpa using h
theorem hops_l0 (d : Bool) (zs : List Int) (es : List S29) (he : es.length ≤ 100000) : ∀ m i, es.length - i ≤ m → i ≤ es.length → ∀ acc : List S54, acc.length ≤ 2 * i → Ev (fun k => laws_hops.l0 k acc (i : Int) d zs es) (acc ++ hopsL d (es.drop i))
  | 0, i, hm, hi, acc, ha => by
    refine Ev.step (fun k => ?_) (Ev.now _)
    simp only [laws_hops.l0]
    rw [if_neg (by omega), List.drop_eq_nil_of_le (by omega)]
    simp [hopsL]
  | m + 1, i, hm, hi, acc, ha => by
    by_cases hlt : i < es.length
    · have w2 : wrap64 ((i : Int) + 1) = ((i + 1 : Nat) : Int) := by unfold wrap64; omega
      have hr := rdE es i hlt
      have hd : es.drop i = es[i] :: es.drop (i + 1) := List.drop_eq_getElem_cons hlt
      rw [hd]
      generalize es[i] = e at hr
      refine Ev.step (f := fun k => laws_hops.l1 k acc (i : Int) true (((i + 1 : Nat) : Int)) d zs es e.f0 e.f1 e.f2) (fun k => ?_) ?_
      · simp only [laws_hops.l0]
        rw [if_pos (by omega), if_pos (by omega), w2, hr]
      · refine hops_l1 d zs es he acc i e.f0 e.f1 e.f2 _ es.length (i + 1) (by omega) (by omega) true ?_
        rw [Bool.true_and]
        unfold hopsL
        cases hany : (es.drop (i + 1)).any (matchE d e.f0 e.f1) with
        | true =>
          rw [if_pos rfl, List.nil_append]
          refine Ev.step (fun k => ?_) (hops_l0 d zs es he m (i + 1) (by omega) (by omega) acc (by omega))
          simp only [laws_hops.l1]
          rw [if_neg (by omega), if_neg (by simp), w2]
        | false =>
          rw [if_neg (by simp)]
          cases d with
          | true =>
            have h := hops_l0 true zs es he m (i + 1) (by omega) (by omega) (acc ++ [⟨e.f0, e.f1, e.f2⟩]) (by simp; omega)
            rw [List.append_assoc] at h
            rw [if_pos rfl]
            refine Ev.step (fun k => ?_) h
            simp only [laws_hops.l1]
            rw [if_neg (by omega), if_pos (by simp), if_pos (by omega), Option.bind_some, if_pos trivial, w2]
          | false =>
            have h := hops_l0 false zs es he m (i + 1) (by omega) (by omega) (acc ++ [⟨e.f0, e.f1, e.f2⟩] ++ [⟨e.f1, e.f0, e.f2⟩]) (by simp; omega)
            rw [if_neg (by simp)]
            have h2 : acc ++ [⟨e.f0, e.f1, e.f2⟩] ++ [⟨e.f1, e.f0, e.f2⟩] ++ hopsL false (es.drop (i + 1)) = acc ++ ((⟨e.f0, e.f1, e.f2⟩ : S54) :: [⟨e.f1, e.f0, e.f2⟩] ++ hopsL false (es.drop (i + 1))) := by simp
            rw [h2] at h
            refine Ev.step (fun k => ?_) h
            simp only [laws_hops.l1]
            rw [if_neg (by omega), if_pos (by simp), if_pos (by omega), Option.bind_some, if_neg (by simp), if_pos (by simp; omega), w2]
    · refine Ev.step (fun k => ?_) (Ev.now _)
      simp only [laws_hops.l0]
      rw [if_neg (by omega), List.drop_eq_nil_of_le (by omega)]
      simp [hopsL]
theorem hops_ev (d : Bool) (zs : List Int) (es : List S29) (he : es.length ≤ 100000) : Ev (fun k => laws_hops.f k d zs es) (hopsL d es) := by
  have := hops_l0 d zs es he es.length 0 (by omega) (Nat.zero_le _) [] (by simp)
  rw [List.drop_zero, List.nil_append] at this
  exact this
end Go.Proofs.YthkmblgehdofmaaGreat.R

/- What the printed functions of the laws on flows answer: cuts, numbers of nodes, the one flow. -/
namespace Go.Proofs.YthkmblgehdofmaaGreat.R
open Go.RowKit Go.Lab Go.Flow Go.Proofs.YthkmblgehdofmaaGreatW.PrintWords Go.Proofs.YthkmblgehdofmaaGreatW.PrintMore PL Q

theorem rdH (xs : List S54) (i : Nat) (h : i < xs.length) : rd_T54 xs (i : Int) = xs[i] := by unfold rd_T54; simp [List.getD_eq_getElem?_getD, h]
def tri (h : S54) : Int × Int × Int := (h.f0, h.f1, h.f2)
theorem match_same (u v : Int) : matchE true u v = sameE u v := by
  funext f
  unfold matchE sameE
  simp
theorem hops_arcs : ∀ es : List S29, (hopsL true es).map tri = arcsL es
  | [] => rfl
  | e :: r => by
    have ih := hops_arcs r
    unfold hopsL arcsL
    rw [match_same]
    split
    · exact ih
    · simp only [if_true, List.cons_append, List.nil_append, List.map_cons, ih]
      rfl
theorem shr_nat (a v : Nat) (hv : v < 60) : shr .i64 (a : Int) (v : Int) = ((a / 2 ^ v : Nat) : Int) := by
  unfold shr
  rw [Int.toNat_natCast]
  show (a : Int) / 2 ^ (min v 64) = _
  rw [Nat.min_eq_left (show v ≤ 64 by omega), Int.natCast_ediv, Int.natCast_pow]
  rfl
theorem and_one (q : Nat) (hq : q < 4611686018427387904) : Go.bits .and .i64 (q : Int) 1 = ((q % 2 : Nat) : Int) := by
  have e : (BitVec.ofInt 64 (q : Int) &&& BitVec.ofInt 64 1).toNat = q % 2 := by
    rw [BitVec.toNat_and]
    have h1 : (BitVec.ofInt 64 (q : Int)).toNat = q := by rw [BitVec.toNat_ofInt]; omega
    have h2 : (BitVec.ofInt 64 1).toNat = 1 := by decide
    rw [h1, h2, Nat.and_one_is_mod]
  show IntKind.i64.wrap ((BitVec.ofInt 64 (q : Int) &&& BitVec.ofInt 64 1).toNat : Int) = _
  rw [e, IntKind.wrap_i64]
  omega
theorem bit_at (a v : Nat) (ha : a < 4611686018427387904) (hv : v < 60) : Go.bits .and .i64 (shr .i64 (a : Int) (v : Int)) 1 = if a.testBit v = true then 1 else 0 := by
  rw [shr_nat a v hv, and_one _ (Nat.lt_of_le_of_lt (Nat.div_le_self _ _) ha), Nat.testBit_eq_decide_div_mod_eq]
  rcases Nat.mod_two_eq_zero_or_one (a / 2 ^ v) with h | h <;> rw [h] <;> simp
/-- a hop whose numbers are small -/
def HopOk (h : S54) : Prop := 0 ≤ h.f0 ∧ h.f0 < 60 ∧ 0 ≤ h.f1 ∧ h.f1 < 60 ∧ 0 ≤ h.f2 ∧ h.f2 ≤ 1099511627776
theorem cutOf_l0 (M : Int) (hM : M = 1099511627776) (l : List S54) (a : Nat) (ha : a < 4611686018427387904) (hl : l.length ≤ 100000) (hb : ∀ h ∈ l, HopOk h) : ∀ m i, l.length - i ≤ m → i ≤ l.length → ∀ sum : Int, 0 ≤ sum → sum ≤ i * M →
    Ev (fun k => laws_cutOf.l0 k l (a : Int) sum (i : Int)) (sum + cutL ((l.drop i).map tri) (bitS a))
  | 0, i, hm, hi, sum, h0, h1 => by
    have hie : i = l.length := by omega
    subst hie
    rw [List.drop_length]
    refine Ev.step (fun k => ?_) (Ev.now _)
    simp only [laws_cutOf.l0]
    rw [if_neg (by omega)]
    show some sum = some (sum + 0)
    rw [Int.add_zero]
  | m + 1, i, hm, hi, sum, h0, h1 => by
    by_cases hlt : i < l.length
    · have w2 : wrap64 ((i : Int) + 1) = ((i + 1 : Nat) : Int) := by unfold wrap64; omega
      have ih := fun s' => cutOf_l0 M hM l a ha hl hb m (i + 1) (by omega) (by omega) s'
      have hr := rdH l i hlt
      have hh := hb _ (List.getElem_mem hlt)
      rw [List.drop_eq_getElem_cons hlt, List.map_cons]
      generalize l[i] = h at hr hh
      obtain ⟨u0, u1, v0, v1, x0, x1⟩ := hh
      obtain ⟨u, hu⟩ : ∃ u : Nat, h.f0 = (u : Int) := ⟨h.f0.toNat, by omega⟩
      obtain ⟨v, hv⟩ : ∃ v : Nat, h.f1 = (v : Int) := ⟨h.f1.toNat, by omega⟩
      have bu := bit_at a u ha (by omega)
      have bv := bit_at a v ha (by omega)
      have hc : cutL (tri h :: (l.drop (i + 1)).map tri) (bitS a) = (if (a.testBit u && !a.testBit v) = true then h.f2 else 0) + cutL ((l.drop (i + 1)).map tri) (bitS a) := by
        show (if (bitS a h.f0 && !bitS a h.f1) = true then h.f2 else 0) + _ = _
        rw [hu, hv]
        rfl
      rw [hc]
      have hnext : sum + h.f2 ≤ ((i + 1 : Nat) : Int) * M := by rw [Int.natCast_succ, Int.add_mul, hM] at *; omega
      have hsame : sum ≤ ((i + 1 : Nat) : Int) * M := by omega
      have w3 : wrap64 (sum + h.f2) = sum + h.f2 := by subst hM; unfold wrap64; omega
      cases tu : a.testBit u with
      | false =>
        rw [tu, if_neg (by simp)] at bu
        refine Ev.step (fun k => ?_) (by rw [show (sum + ((if (false && !a.testBit v) = true then h.f2 else 0) + cutL ((l.drop (i + 1)).map tri) (bitS a))) = sum + cutL ((l.drop (i + 1)).map tri) (bitS a) by simp]; exact ih sum h0 hsame)
        simp only [laws_cutOf.l0]
        rw [if_pos (by omega), if_pos (by omega), hr, if_pos (by omega), hu, bu, if_neg (by decide), w2]
      | true =>
        rw [tu, if_pos rfl] at bu
        cases tv : a.testBit v with
        | true =>
          rw [tv, if_pos rfl] at bv
          refine Ev.step (fun k => ?_) (by rw [show (sum + ((if (true && !true) = true then h.f2 else 0) + cutL ((l.drop (i + 1)).map tri) (bitS a))) = sum + cutL ((l.drop (i + 1)).map tri) (bitS a) by simp]; exact ih sum h0 hsame)
          simp only [laws_cutOf.l0]
          rw [if_pos (by omega), if_pos (by omega), hr, if_pos (by omega), hu, bu, if_pos rfl, if_pos (by omega), hv, bv, if_neg (by decide), w2]
        | false =>
          rw [tv, if_neg (by simp)] at bv
          refine Ev.step (fun k => ?_) (by rw [show (sum + ((if (true && !false) = true then h.f2 else 0) + cutL ((l.drop (i + 1)).map tri) (bitS a))) = (sum + h.f2) + cutL ((l.drop (i + 1)).map tri) (bitS a) by simp; omega]; exact ih (sum + h.f2) (by omega) hnext)
          simp only [laws_cutOf.l0]
          rw [if_pos (by omega), if_pos (by omega), hr, if_pos (by omega), hu, bu, if_pos rfl, if_pos (by omega), hv, bv, if_pos rfl, w2, w3]
    · have hie : i = l.length := by omega
      subst hie
      rw [List.drop_length]
      refine Ev.step (fun k => ?_) (Ev.now _)
      simp only [laws_cutOf.l0]
      rw [if_neg (by omega)]
      show some sum = some (sum + 0)
      rw [Int.add_zero]
theorem cutOf_ev (l : List S54) (a : Nat) (ha : a < 4611686018427387904) (hl : l.length ≤ 100000) (hb : ∀ h ∈ l, HopOk h) : Ev (fun k => laws_cutOf.f k l (a : Int)) (cutL (l.map tri) (bitS a)) := by
  have := cutOf_l0 1099511627776 rfl l a ha hl hb l.length 0 (by omega) (by omega) 0 (by omega) (by omega)
  rw [List.drop_zero, Int.zero_add] at this
  exact this
/-- whether the nodes are 0, 1, .. -/
def numB (d : Bool) (zs : List Int) (es : List S29) : Bool := decide (srt zs = idsN zs.length) && (d && !es.any (fun e => decide (e.f2 < 0)))
theorem flowN_l0 (d : Bool) (zs : List Int) (es : List S29) (l : List Int) (hl : l.length ≤ 100000) (he : es.length ≤ 1000000) : ∀ m i, l.length - i ≤ m → i ≤ l.length →
    Ev (fun k => laws_flowNumbers.l0 k l (i : Int) d zs es) (decide (l.drop i = (idsN l.length).drop i) && (d && !es.any (fun e => decide (e.f2 < 0))))
  | m, i, hm, hi => by
    by_cases hlt : i < l.length
    · cases m with
      | zero => omega
      | succ m =>
        have w2 : wrap64 ((i : Int) + 1) = ((i + 1 : Nat) : Int) := by unfold wrap64; omega
        have ih := flowN_l0 d zs es l hl he m (i + 1) (by omega) (by omega)
        have hr := rdI l i hlt
        have hid : (idsN l.length).length = l.length := by unfold idsN; rw [toI_len, List.length_range]
        have hig : (idsN l.length)[i]'(by omega) = (i : Int) := by unfold idsN toI; rw [List.getElem_map, List.getElem_range]
        rw [List.drop_eq_getElem_cons hlt, List.drop_eq_getElem_cons (show i < (idsN l.length).length by omega), hig]
        by_cases hx : l[i] = (i : Int)
        · have : decide (l[i] :: l.drop (i + 1) = (i : Int) :: (idsN l.length).drop (i + 1)) = decide (l.drop (i + 1) = (idsN l.length).drop (i + 1)) := by rw [hx]; simp
          rw [this]
          refine Ev.step (fun k => ?_) ih
          simp only [laws_flowNumbers.l0]
          rw [if_pos (by omega), if_pos (by omega), hr, if_pos hx, w2]
        · have : decide (l[i] :: l.drop (i + 1) = (i : Int) :: (idsN l.length).drop (i + 1)) = false := decide_eq_false (fun e => hx (List.cons.inj e).1)
          rw [this, Bool.false_and]
          refine Ev.step (fun k => ?_) (Ev.now _)
          simp only [laws_flowNumbers.l0]
          rw [if_pos (by omega), if_pos (by omega), hr, if_neg hx]
    · have hie : i = l.length := by omega
      have hid : (idsN l.length).length = l.length := by unfold idsN; rw [toI_len, List.length_range]
      rw [hie, List.drop_length, List.drop_of_length_le (by omega), decide_eq_true rfl, Bool.true_and]
      refine Ev.step (fun k => ?_) (Ev.now _)
      simp only [laws_flowNumbers.l0]
      rw [if_neg (by omega)]
      unfold laws_sunk.f
      rw [if_pos he]
      cases d <;> rfl
theorem flowN_ev (d : Bool) (zs : List Int) (es : List S29) (hz : zs.length ≤ 100000) (he : es.length ≤ 1000000) : Ev (fun k => laws_flowNumbers.f k d zs es) (numB d zs es) := by
  have h1 := flowN_l0 d zs es (srt zs) (by rw [srt_length]; exact hz) he (srt zs).length 0 (by omega) (by omega)
  rw [List.drop_zero, List.drop_zero, srt_length] at h1
  refine Ev.congr (fun k => ?_) h1
  unfold laws_flowNumbers.f laws_nodesOf.f
  rw [if_pos hz]
  rfl
end Go.Proofs.YthkmblgehdofmaaGreat.R

/- The plain law of FnMaxFlow. -/
namespace Go.Proofs.YthkmblgehdofmaaGreat.R
open Go.RowKit Go.Lab Go.Flow Go.Proofs.YthkmblgehdofmaaGreatW.PrintWords Go.Proofs.YthkmblgehdofmaaGreatW.PrintMore PL Q

theorem srt01 : srt [0, 1] = [0, 1] := int_ext (srt_lt (by decide)) (by decide) (fun x => mem_srt _ _)
theorem flows_ev : laws_flows.f = some true := by
  have hb : flowB true [0, 1] [⟨0, 1, 3⟩] 0 1 = true := by
    rw [flowB_iff]
    refine ⟨rfl, ?_, by decide, by decide, ?_, by decide, by decide, by decide, by decide⟩
    · unfold readOk
      rw [srt01]
      decide
    · rw [srt01]
      decide
  have hc : (cutBits (arcsL [⟨0, 1, 3⟩]) ([0, 1] : List Int).length (0 : Int).toNat (1 : Int).toNat).min? = some 3 := by decide +kernel
  have hf : impl_MaxFlow.f true [0, 1] [⟨0, 1, 3⟩] 0 1 = some (3, false) := by
    unfold impl_MaxFlow.f
    rw [if_pos hb, hc]
    rfl
  unfold laws_flows.f
  rw [hf]
  rfl
theorem cut_set {l : List (Int × Int × Int)} {n : Nat} (hl : ∀ a ∈ l, a.1 ∈ idsN n ∧ a.2.1 ∈ idsN n) (S : Int → Bool) : cutL l S = cutL l (bitS (setOf S n)) := by
  refine cutL_congr fun a ha => ?_
  obtain ⟨a1, a2⟩ := hl a ha
  obtain ⟨x, hx, e1⟩ := toI_mem a1
  obtain ⟨y, hy, e2⟩ := toI_mem a2
  rw [e1, e2]
  unfold bitS
  rw [Int.toNat_natCast, Int.toNat_natCast, setOf_bit, setOf_bit, decide_eq_true (List.mem_range.1 hx), decide_eq_true (List.mem_range.1 hy)]
  exact ⟨(Bool.true_and _).symm, (Bool.true_and _).symm⟩
/-- the least cut of the sets ahead of a -/
def BestI (l : List (Int × Int × Int)) (s t : Nat) (best : Int) (a : Nat) : Prop :=
  (best = -1 ∧ ∀ b < a, b.testBit s = true → b.testBit t = false → False) ∨
  (0 ≤ best ∧ (∃ b, b.testBit s = true ∧ b.testBit t = false ∧ best = cutL l (bitS b)) ∧ ∀ b < a, b.testBit s = true → b.testBit t = false → best ≤ cutL l (bitS b))
theorem BestI.skip {l : List (Int × Int × Int)} {s t : Nat} {best : Int} {a : Nat} (h : BestI l s t best a) (hv : ¬ (a.testBit s = true ∧ a.testBit t = false)) : BestI l s t best (a + 1) := by
  rcases h with ⟨h1, h2⟩ | ⟨h1, h2, h3⟩
  · refine .inl ⟨h1, fun b hb x y => ?_⟩
    rcases Nat.lt_succ_iff_lt_or_eq.1 hb with e | rfl
    · exact h2 b e x y
    · exact hv ⟨x, y⟩
  · refine .inr ⟨h1, h2, fun b hb x y => ?_⟩
    rcases Nat.lt_succ_iff_lt_or_eq.1 hb with e | rfl
    · exact h3 b e x y
    · exact absurd ⟨x, y⟩ hv
theorem BestI.take {l : List (Int × Int × Int)} {s t : Nat} {best : Int} {a : Nat} (h : BestI l s t best a) (hp : ∀ x ∈ l, 0 ≤ x.2.2) (x : a.testBit s = true) (y : a.testBit t = false) (hb : best < 0 ∨ cutL l (bitS a) < best) : BestI l s t (cutL l (bitS a)) (a + 1) := by
  refine .inr ⟨cutL_nonneg hp, ⟨a, x, y, rfl⟩, fun b hb2 x' y' => ?_⟩
  rcases Nat.lt_succ_iff_lt_or_eq.1 hb2 with e | rfl
  · rcases h with ⟨h1, h2⟩ | ⟨h1, h2, h3⟩
    · exact absurd y' (fun _ => h2 b e x' y')
    · have := h3 b e x' y'
      rcases hb with hb | hb <;> omega
  · exact Int.le_refl _
theorem BestI.stay {l : List (Int × Int × Int)} {s t : Nat} {best : Int} {a : Nat} (h : BestI l s t best a) (h0 : ¬ best < 0) (hb : ¬ cutL l (bitS a) < best) : BestI l s t best (a + 1) := by
  rcases h with ⟨h1, h2⟩ | ⟨h1, h2, h3⟩
  · omega
  · refine .inr ⟨h1, h2, fun b hb2 x' y' => ?_⟩
    rcases Nat.lt_succ_iff_lt_or_eq.1 hb2 with e | rfl
    · exact h3 b e x' y'
    · omega
theorem BestI.end {l : List (Int × Int × Int)} {n s t : Nat} {best F : Int} (h : BestI l s t best (2 ^ n)) (hl : ∀ a ∈ l, a.1 ∈ idsN n ∧ a.2.1 ∈ idsN n) (hs : s < n) (ht : t < n) (hF : CutOk n l s t F) : F = best := by
  obtain ⟨S, x, y, e⟩ := hF.is
  rw [cut_set hl S] at e
  have hlt := setOf_lt S n
  have x' : (setOf S n).testBit s = true := by rw [setOf_bit, x, decide_eq_true hs]; rfl
  have y' : (setOf S n).testBit t = false := by rw [setOf_bit, y, decide_eq_true ht]; rfl
  rcases h with ⟨h1, h2⟩ | ⟨h1, ⟨b, b1, b2, rfl⟩, h3⟩
  · exact (h2 _ hlt x' y').elim
  · have h4 := h3 _ hlt x' y'
    have h5 := hF.le (bitS b) (by unfold bitS; rw [Int.toNat_natCast]; exact b1) (by unfold bitS; rw [Int.toNat_natCast]; exact b2)
    omega
theorem shl_one (n : Nat) (hn : n ≤ 9) : shl .i64 1 (n : Int) = ((2 ^ n : Nat) : Int) := by
  have : n = 0 ∨ n = 1 ∨ n = 2 ∨ n = 3 ∨ n = 4 ∨ n = 5 ∨ n = 6 ∨ n = 7 ∨ n = 8 ∨ n = 9 := by omega
  rcases this with rfl | rfl | rfl | rfl | rfl | rfl | rfl | rfl | rfl | rfl <;> decide
theorem wrap_small (a : Nat) (h : a < 1000000) : wrap64 ((a : Int) + 1) = ((a + 1 : Nat) : Int) := by unfold wrap64; omega
theorem max_l0 (zs : List Int) (es : List S29) (n s t : Nat) (l : List S54) (F : Int) (hn : n ≤ 9) (N : Nat) (hN : N = 2 ^ n) (hzl : zs.length = n) (hs : s < n) (ht : t < n) (hll : l.length ≤ 100000) (hb : ∀ h ∈ l, HopOk h) (hl : ∀ a ∈ l.map tri, a.1 ∈ idsN n ∧ a.2.1 ∈ idsN n) (hF : CutOk n (l.map tri) s t F) (hf : impl_MaxFlow.f true zs es s t = some (F, false)) :
    ∀ m a, N - a ≤ m → a ≤ N → ∀ best, BestI (l.map tri) s t best a → Ev (fun k => laws_FnMaxFlow.l0 k (s : Int) (t : Int) l best (a : Int) true zs es) true
  | m, a, hm, ha, best, hB => by
    have h2n : N ≤ 512 := by
      rw [hN]
      have h1 := Nat.pow_le_pow_right (show 0 < 2 by omega) hn
      rw [show (2 : Nat) ^ 9 = 512 by decide] at h1
      exact h1
    have HSH := Aside0.mk (show shl .i64 1 (zs.length : Int) = (N : Int) from by rw [hzl, hN]; exact shl_one n hn)
    by_cases hlt : a < N
    · cases m with
      | zero => omega
      | succ m =>
        have W2 := Aside0.mk (show wrap64 ((a : Int) + 1) = ((a + 1 : Nat) : Int) from wrap_small a (by omega))
        have ih := fun best' => max_l0 zs es n s t l F hn N hN hzl hs ht hll hb hl hF hf m (a + 1) (by omega) (by omega) best'
        have BS0 := Aside0.mk (bit_at a s (by omega) (by omega))
        have BT0 := Aside0.mk (bit_at a t (by omega) (by omega))
        have hc := cutOf_ev l a (by omega) hll hb
        have hp : ∀ x ∈ l.map tri, 0 ≤ x.2.2 := fun x hx => by
          obtain ⟨h, h1, rfl⟩ := List.mem_map.1 hx
          exact (hb h h1).2.2.2.2.1
        have c1 : (a : Int) < (N : Int) := by omega
        have c2 : (0 : Int) ≤ (s : Int) := by omega
        have c3 : (0 : Int) ≤ (t : Int) := by omega
        cases ts : a.testBit s with
        | false =>
          have bs := BS0.out
          rw [ts, if_neg (by simp)] at bs
          refine Ev.step (fun k => ?_) (ih best (hB.skip (fun h => by rw [ts] at h; exact absurd h.1 (by simp))))
          simp only [laws_FnMaxFlow.l0]
          rw [HSH.out, if_pos c1, if_pos c2, bs, if_neg (by decide), W2.out]
        | true =>
          have bs := BS0.out
          rw [ts, if_pos rfl] at bs
          cases tt : a.testBit t with
          | true =>
            have bt := BT0.out
            rw [tt, if_pos rfl] at bt
            refine Ev.step (fun k => ?_) (ih best (hB.skip (fun h => by rw [tt] at h; exact absurd h.2 (by simp))))
            simp only [laws_FnMaxFlow.l0]
            rw [HSH.out, if_pos c1, if_pos c2, bs, if_pos rfl, if_pos c3, bt, if_neg (by decide), W2.out]
          | false =>
            have bt := BT0.out
            rw [tt, if_neg (by simp)] at bt
            by_cases h0 : best < 0
            · refine Ev.step (f := fun k => (laws_cutOf.f k l (a : Int)).bind fun t372 => laws_FnMaxFlow.l0 k (s : Int) (t : Int) l t372 ((a + 1 : Nat) : Int) true zs es) (fun k => ?_) (Ev.bind hc (ih _ (hB.take hp ts tt (.inl h0))))
              simp only [laws_FnMaxFlow.l0]
              rw [HSH.out, if_pos c1, if_pos c2, bs, if_pos rfl, if_pos c3, bt, if_pos rfl, if_pos h0, W2.out]
            · by_cases h1 : cutL (l.map tri) (bitS a) < best
              · refine Ev.step (f := fun k => (laws_cutOf.f k l (a : Int)).bind fun t373 => if t373 < best then (laws_cutOf.f k l (a : Int)).bind fun t374 => laws_FnMaxFlow.l0 k (s : Int) (t : Int) l t374 ((a + 1 : Nat) : Int) true zs es else laws_FnMaxFlow.l0 k (s : Int) (t : Int) l best ((a + 1 : Nat) : Int) true zs es) (fun k => ?_) (Ev.bind hc (Ev.congr (fun k => if_pos h1) (Ev.bind hc (ih _ (hB.take hp ts tt (.inr h1))))))
                simp only [laws_FnMaxFlow.l0]
                rw [HSH.out, if_pos c1, if_pos c2, bs, if_pos rfl, if_pos c3, bt, if_pos rfl, if_neg h0, W2.out]
              · refine Ev.step (f := fun k => (laws_cutOf.f k l (a : Int)).bind fun t373 => if t373 < best then (laws_cutOf.f k l (a : Int)).bind fun t374 => laws_FnMaxFlow.l0 k (s : Int) (t : Int) l t374 ((a + 1 : Nat) : Int) true zs es else laws_FnMaxFlow.l0 k (s : Int) (t : Int) l best ((a + 1 : Nat) : Int) true zs es) (fun k => ?_) (Ev.bind hc (Ev.congr (fun k => if_neg h1) (ih best (hB.stay h0 h1))))
                simp only [laws_FnMaxFlow.l0]
                rw [HSH.out, if_pos c1, if_pos c2, bs, if_pos rfl, if_pos c3, bt, if_pos rfl, if_neg h0, W2.out]
    · have hae : a = N := by omega
      rw [hae] at hB ⊢
      have he := BestI.end (hN ▸ hB) hl hs ht hF
      refine Ev.step (fun k => ?_) (Ev.now _)
      simp only [laws_FnMaxFlow.l0]
      rw [HSH.out, if_neg (Int.lt_irrefl _), hf]
      simp only [Option.bind_some]
      rw [if_neg (by simp), if_pos he, flows_ev]
      rfl
theorem max_ev (d : Bool) (zs : List Int) (es : List S29) (s t : Int) : Ev (fun k => laws_FnMaxFlow.f k d zs es s t) true := by
  have hj : Ev (fun k => laws_FnMaxFlow.j0 k s t true d zs es) true := by
    refine Ev.step (fun k => ?_) (Ev.now _)
    simp only [laws_FnMaxFlow.j0, if_true]
    rw [flows_ev]
    rfl
  by_cases hz : (decide (zs.length ≤ 2147483647) && decide (es.length ≤ 2147483647)) = true
  · simp only [Bool.and_eq_true, decide_eq_true_eq] at hz
    have h0 : laws_zzFits1.f d zs es = some true := by
      unfold laws_zzFits1.f
      rw [if_neg (by omega), if_neg (by omega)]
    refine Ev.congr (fun k => by unfold laws_FnMaxFlow.f; rw [h0]; rfl) (Ev.bind (sized_ev d zs es 9) ?_)
    cases hs : sizedB 9 zs es with
    | false => exact Ev.congr (fun k => if_neg (by simp)) hj
    | true =>
      refine Ev.congr (fun k => if_pos rfl) ?_
      unfold sizedB at hs
      simp only [Bool.and_eq_true, decide_eq_true_eq] at hs
      obtain ⟨h1, h2, h3⟩ := hs
      have hfr := formed_read (zs := zs) h3
      refine Ev.bind (formed_ev d zs es (by omega) (by omega)) ?_
      rw [hfr]
      cases hr : readOk zs es with
      | false => exact Ev.congr (fun k => if_neg (by simp)) hj
      | true =>
        refine Ev.congr (fun k => if_pos rfl) (Ev.bind (flowN_ev d zs es (by omega) (by omega)) ?_)
        cases hnb : numB d zs es with
        | false => exact Ev.congr (fun k => if_neg (by simp)) hj
        | true =>
          refine Ev.congr (fun k => if_pos rfl) ?_
          by_cases hst : s = t
          · exact Ev.congr (fun k => if_pos hst) hj
          · refine Ev.congr (fun k => if_neg hst) (Ev.bind (contains_ev zs s (by omega)) ?_)
            by_cases hsz : s ∈ zs
            · rw [decide_eq_true hsz]
              refine Ev.congr (fun k => if_pos rfl) (Ev.bind (contains_ev zs t (by omega)) ?_)
              by_cases htz : t ∈ zs
              · rw [decide_eq_true htz]
                unfold numB at hnb
                simp only [Bool.and_eq_true, decide_eq_true_eq, Bool.not_eq_true', List.any_eq_false] at hnb
                obtain ⟨g1, rfl, g3⟩ := hnb
                have hpos : ∀ e ∈ es, 0 ≤ e.f2 := fun e he => by have := g3 e he; omega
                have hfb : flowB true zs es s t = true := flowB_iff.2 ⟨rfl, hr, by omega, by omega, g1, hpos, hsz, htz, hst⟩
                have hs' : s ∈ idsN zs.length := by rw [← g1]; exact (mem_srt _ _).2 hsz
                have ht' : t ∈ idsN zs.length := by rw [← g1]; exact (mem_srt _ _).2 htz
                obtain ⟨s', hsr, rfl⟩ := toI_mem hs'
                obtain ⟨t', htr, rfl⟩ := toI_mem ht'
                obtain ⟨F, hF, hf⟩ := impl_MaxFlow.ok hfb rfl
                have hl := cut_arcs g1 (read_all hr)
                rw [← hops_arcs] at hF hl
                have hok : ∀ h ∈ hopsL true es, HopOk h := fun h hh => by
                  have hm : tri h ∈ (hopsL true es).map tri := List.mem_map.2 ⟨h, hh, rfl⟩
                  obtain ⟨a1, a2⟩ := hl _ hm
                  rw [hops_arcs] at hm
                  obtain ⟨e, he, e1⟩ := arcsL_mem hm
                  obtain ⟨x, hx, ex⟩ := toI_mem a1
                  obtain ⟨y, hy, ey⟩ := toI_mem a2
                  have hx' := List.mem_range.1 hx
                  have hy' := List.mem_range.1 hy
                  have e2 : h.f2 = e.f2 := congrArg (fun q => q.2.2) e1
                  have ex' : h.f0 = (x : Int) := ex
                  have ey' : h.f1 = (y : Int) := ey
                  have hg := (List.all_eq_true.1 (read_all hr)) e he
                  unfold goodE at hg
                  simp only [Bool.and_eq_true, decide_eq_true_eq, Bool.not_eq_true', decide_eq_false_iff_not] at hg
                  have := hpos e he
                  exact ⟨by omega, by omega, by omega, by omega, by omega, by omega⟩
                refine Ev.step (f := fun k => (laws_hops.f k true zs es).bind fun t366 => laws_FnMaxFlow.l0 k (s' : Int) (t' : Int) t366 (-1) 0 true zs es) (fun k => ?_) (Ev.bind (hops_ev true zs es (by omega)) (max_l0 zs es zs.length s' t' (hopsL true es) F h1 (2 ^ zs.length) rfl rfl (List.mem_range.1 hsr) (List.mem_range.1 htr) (by have := hopsL_len true es; omega) hok hl hF hf (2 ^ zs.length) 0 (Nat.sub_le _ _) (Nat.zero_le _) (-1) (.inl ⟨rfl, fun b hb => absurd hb (by omega)⟩)))
                simp only [laws_FnMaxFlow.j0]
                rfl
              · rw [decide_eq_false htz]
                exact hj
            · rw [decide_eq_false hsz]
              exact Ev.congr (fun k => if_neg (by simp)) hj
  · have h0 : laws_zzFits1.f d zs es = some false := by
      simp only [Bool.and_eq_true, decide_eq_true_eq] at hz
      unfold laws_zzFits1.f
      by_cases h1 : (zs.length : Int) > 2147483647
      · rw [if_pos h1]
      · rw [if_neg h1, if_pos (by omega)]
    exact Ev.congr (fun k => by unfold laws_FnMaxFlow.f; rw [h0]; rfl) (Ev.now _)
end Go.Proofs.YthkmblgehdofmaaGreat.R
