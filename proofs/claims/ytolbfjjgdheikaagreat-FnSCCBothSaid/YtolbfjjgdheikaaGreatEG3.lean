import Derived.Test.YtolbfjjgdheikaaGreatEV3
import Derived.Test.YtolbfjjgdheikaaGreatEV4
import Derived.Sort.Lot0
import Derived.Deep.RegionHeld3
set_option linter.unusedVariables false
set_option linter.unusedSimpArgs false
/- Plain laws: what the small functions answer. -/
namespace Go.Proofs.YtolbfjjgdheikaaGreat.Q
open Go.RowKit Go.Lab Go.Proofs.YtolbfjjgdheikaaGreatW.PrintWords PL
/-- two places exchanged -/
def swp2 (ys : List Int) (i : Nat) : List Int := (ys.set i (ys.getD (i - 1) 0)).set (i - 1) (ys.getD i 0)

/-- the state of the inner loop of sorted -/
structure Ins (xs ys : List Int) (k i : Nat) : Prop where
  perm : ys.Perm xs
  ik : i ≤ k
  kn : k < ys.length
  rest : ∀ a b, a < b → b ≤ k → a ≠ i → b ≠ i → ys.getD a 0 ≤ ys.getD b 0
  self : ∀ b, i < b → b ≤ k → ys.getD i 0 ≤ ys.getD b 0

theorem swp2_length (ys : List Int) (i : Nat) : (swp2 ys i).length = ys.length := by simp [swp2]

theorem swp2_get (ys : List Int) (i : Nat) (h0 : 0 < i) (hi : i < ys.length) (j : Nat) : (swp2 ys i).getD j 0 = if j = i then ys.getD (i - 1) 0 else if j = i - 1 then ys.getD i 0 else ys.getD j 0 := by
  unfold swp2
  simp only [List.getD_eq_getElem?_getD, List.getElem?_set, List.length_set]
  by_cases h1 : j = i
  · subst h1
    rw [if_neg (by omega), if_pos rfl, if_pos hi, if_pos rfl]; rfl
  · rw [if_neg h1]
    by_cases h2 : j = i - 1
    · subst h2
      rw [if_pos rfl, if_pos (by omega), if_pos rfl]; rfl
    · rw [if_neg (fun e => h2 e.symm), if_neg (fun e => h1 e.symm), if_neg h2]

theorem swp2_perm (ys : List Int) (i : Nat) (h0 : 0 < i) (hi : i < ys.length) : (swp2 ys i).Perm ys := by
  unfold swp2
  have h1 : ys.getD (i - 1) 0 = ys[i - 1] := by rw [List.getD_eq_getElem?_getD, List.getElem?_eq_getElem (by omega)]; rfl
  have h2 : ys.getD i 0 = ys[i] := by rw [List.getD_eq_getElem?_getD, List.getElem?_eq_getElem hi]; rfl
  rw [h1, h2]
  exact Go.Sort.perm_set_set ys i (i - 1) hi (by omega)

theorem Ins.step {xs ys : List Int} {k i : Nat} (h : Ins xs ys k i) (h0 : 0 < i) (hlt : ys.getD i 0 < ys.getD (i - 1) 0) : Ins xs (swp2 ys i) k (i - 1) := by
  have hi : i < ys.length := by have := h.ik; have := h.kn; omega
  have g := swp2_get ys i h0 hi
  refine ⟨(swp2_perm ys i h0 hi).trans h.perm, by have := h.ik; omega, by rw [swp2_length]; exact h.kn, ?_, ?_⟩
  · intro a b hab hbk ha hb
    rw [g, g]
    by_cases h1 : a = i
    · rw [if_pos h1, if_neg (by omega), if_neg (by omega)]
      exact h.rest (i - 1) b (by omega) hbk (by omega) (by omega)
    · rw [if_neg h1, if_neg ha]
      by_cases h2 : b = i
      · rw [if_pos h2]; exact h.rest a (i - 1) (by omega) (by have := h.ik; omega) h1 (by omega)
      · rw [if_neg h2, if_neg hb]; exact h.rest a b hab hbk h1 h2
  · intro b hb hbk
    rw [g, g, if_neg (by omega), if_pos rfl]
    by_cases h2 : b = i
    · rw [if_pos h2]; omega
    · rw [if_neg h2, if_neg (by omega)]; exact h.self b (by omega) hbk

/-- the first k places ascend -/
def UpTo (ys : List Int) (k : Nat) : Prop := ∀ a b, a < b → b < k → ys.getD a 0 ≤ ys.getD b 0

theorem Ins.start {xs ys : List Int} {k : Nat} (hp : ys.Perm xs) (hk : k < ys.length) (hu : UpTo ys k) : Ins xs ys k k :=
  ⟨hp, Nat.le_refl _, hk, fun a b hab hbk _ hb => hu a b hab (by omega), fun b h1 h2 => by omega⟩

theorem Ins.stop {xs ys : List Int} {k i : Nat} (h : Ins xs ys k i) (hs : i = 0 ∨ ys.getD (i - 1) 0 ≤ ys.getD i 0) : UpTo ys (k + 1) := by
  intro a b hab hbk
  by_cases h1 : a = i
  · subst h1; exact h.self b hab (by omega)
  · by_cases h2 : b = i
    · subst h2
      rcases hs with hs | hs
      · omega
      · by_cases h3 : a = b - 1
        · subst h3; exact hs
        · exact Int.le_trans (h.rest a (b - 1) (by omega) (by omega) h1 (by omega)) hs
    · exact h.rest a b hab (by omega) h1 h2

theorem UpTo.srt {xs ys : List Int} (hp : ys.Perm xs) (h : UpTo ys ys.length) : ys = srt xs := by
  have h1 : ys.Pairwise (· ≤ ·) := by
    rw [List.pairwise_iff_getElem]
    intro i j hi hj hij
    have := h i j hij hj
    simpa [List.getD_eq_getElem?_getD, hi, hj] using this
  exact (hp.trans (srt_perm xs).symm).eq_of_pairwise (le := (· ≤ ·)) (fun a b _ _ h1 h2 => Int.le_antisymm h1 h2) h1 (srt_le xs)

theorem rd_getD (ys : List Int) (i : Nat) : rd ys (i : Int) = ys.getD i 0 := by unfold rd; rw [Int.toNat_natCast]

/-- laws.sorted sorts -/
theorem sorted_l0 (xs : List Int) (hl : xs.length ≤ 100000) : ∀ (d kk : Nat) (ys : List Int), xs.length - kk ≤ d → ys.Perm xs → UpTo ys kk → 1 ≤ kk → ∃ k0, laws_sorted.l0 k0 ys (kk : Int) = some (srt xs) := by
  intro d
  induction d with
  | zero =>
    intro kk ys hd hp hu h1
    have hlen := hp.length_eq
    refine ⟨1, ?_⟩
    simp only [laws_sorted.l0]
    rw [if_neg (by omega)]
    have hz : ys = srt xs := UpTo.srt hp (fun a b hab hb => hu a b hab (by omega))
    rw [hz]
  | succ d ih =>
    intro kk ys hd hp hu h1
    have hlen := hp.length_eq
    by_cases hlt : kk < xs.length
    · have inner : ∀ (i : Nat) (zs : List Int), Ins xs zs kk i → ∃ k0, laws_sorted.l1 k0 zs (kk : Int) (i : Int) = some (srt xs) := by
        intro i
        induction i with
        | zero =>
          intro zs hI
          obtain ⟨k0, h0⟩ := ih (kk + 1) zs (by omega) hI.perm (hI.stop (.inl rfl)) (by omega)
          refine ⟨k0 + 1, ?_⟩
          simp only [laws_sorted.l1]
          have w2 : wrap64 ((kk : Int) + 1) = ((kk + 1 : Nat) : Int) := by unfold wrap64; omega
          rw [if_neg (by omega), w2, h0]
        | succ i ihi =>
          intro zs hI
          have hzl := hI.perm.length_eq
          have hik := hI.ik
          have w1 : wrap64 (((i + 1 : Nat) : Int) - 1) = (i : Int) := by unfold wrap64; omega
          have w2 : wrap64 ((kk : Int) + 1) = ((kk + 1 : Nat) : Int) := by unfold wrap64; omega
          by_cases hs : zs.getD (i + 1) 0 < zs.getD i 0
          · have hI2 := hI.step (by omega) (by simpa using hs)
            rw [Nat.add_sub_cancel] at hI2
            obtain ⟨k0, h0⟩ := ihi _ hI2
            refine ⟨k0 + 1, ?_⟩
            simp only [laws_sorted.l1]
            rw [w1, rd_getD, rd_getD, if_pos (by omega), if_pos (by omega), if_pos (by omega), if_pos (by omega), if_pos (by omega), if_pos hs, Int.toNat_natCast, Int.toNat_natCast]
            unfold swp2 at h0
            simpa using h0
          · obtain ⟨k0, h0⟩ := ih (kk + 1) zs (by omega) hI.perm (hI.stop (.inr (by rw [Nat.add_sub_cancel]; omega))) (by omega)
            refine ⟨k0 + 1, ?_⟩
            simp only [laws_sorted.l1]
            rw [w1, rd_getD, rd_getD, if_pos (by omega), if_pos (by omega), if_pos (by omega), if_pos (by omega), if_pos (by omega), if_neg hs, w2, h0]
      obtain ⟨k0, h0⟩ := inner kk ys (Ins.start hp (by omega) hu)
      refine ⟨k0 + 1, ?_⟩
      simp only [laws_sorted.l0]
      rw [if_pos (by omega), h0]
    · refine ⟨1, ?_⟩
      simp only [laws_sorted.l0]
      rw [if_neg (by omega)]
      have hz : ys = srt xs := UpTo.srt hp (fun a b hab hb => hu a b hab (by omega))
      rw [hz]

theorem sorted_f (xs : List Int) (hl : xs.length ≤ 100000) : ∃ k0, laws_sorted.f k0 xs = some (srt xs) := by
  obtain ⟨k0, h0⟩ := sorted_l0 xs hl xs.length 1 xs (by omega) (List.Perm.refl _) (fun a b h1 h2 => by omega) (Nat.le_refl _)
  refine ⟨k0, ?_⟩
  unfold laws_sorted.f slices_Clone_int_int_34.f
  rw [if_pos hl]
  exact h0
end Go.Proofs.YtolbfjjgdheikaaGreat.Q
namespace Go.Proofs.YtolbfjjgdheikaaGreat.R
open Go.RowKit Go.Lab Go.Proofs.YtolbfjjgdheikaaGreatW.PrintWords PL Q
theorem rising_l0 (l : List Int) (hl : l.length ≤ 100000) : ∀ (d k i : Nat), 1 ≤ i → l.length - i ≤ d → d < k →
    ∃ b, laws_rising.l0 k l (i : Int) = some b ∧ (b = true ↔ (∀ a, i - 1 ≤ a → a + 1 < l.length → l.getD a 0 < l.getD (a + 1) 0)) := by
  intro d
  induction d with
  | zero =>
    intro k i hi hd hk
    obtain ⟨k, rfl⟩ : ∃ m, k = m + 1 := ⟨k - 1, by omega⟩
    simp only [laws_rising.l0]
    rw [if_neg (by omega)]
    exact ⟨true, rfl, fun _ a h1 h2 => by omega, fun _ => rfl⟩
  | succ d ih =>
    intro k i hi hd hk
    obtain ⟨k, rfl⟩ : ∃ m, k = m + 1 := ⟨k - 1, by omega⟩
    simp only [laws_rising.l0]
    by_cases hlt : i < l.length
    · have w1 : wrap64 ((i : Int) - 1) = ((i - 1 : Nat) : Int) := by unfold wrap64; omega
      have w2 : wrap64 ((i : Int) + 1) = ((i + 1 : Nat) : Int) := by unfold wrap64; omega
      rw [if_pos (by omega), w1, if_pos (by omega), if_pos (by omega), if_pos (by omega), w2]
      have r1 : rd l ((i - 1 : Nat) : Int) = l.getD (i - 1) 0 := by unfold rd; rw [Int.toNat_natCast]
      have r2 : rd l (i : Int) = l.getD i 0 := by unfold rd; rw [Int.toNat_natCast]
      rw [r1, r2]
      by_cases hge : l.getD (i - 1) 0 ≥ l.getD i 0
      · rw [if_pos hge]
        refine ⟨false, rfl, fun h => (by cases h), fun h => ?_⟩
        have := h (i - 1) (Nat.le_refl _) (by omega)
        rw [show i - 1 + 1 = i by omega] at this
        omega
      · rw [if_neg hge]
        obtain ⟨b, hb1, hb2⟩ := ih k (i + 1) (by omega) (by omega) (by omega)
        refine ⟨b, hb1, ?_⟩
        rw [hb2]
        constructor
        · intro h a h1 h2
          by_cases ha : a = i - 1
          · subst ha; rw [show i - 1 + 1 = i by omega]; omega
          · exact h a (by omega) h2
        · intro h a h1 h2
          exact h a (by omega) h2
    · rw [if_neg (by omega)]
      exact ⟨true, rfl, fun _ a h1 h2 => by omega, fun _ => rfl⟩

theorem adj_pairwise (l : List Int) : (∀ a, 1 - 1 ≤ a → a + 1 < l.length → l.getD a 0 < l.getD (a + 1) 0) ↔ l.Pairwise (· < ·) := by
  constructor
  · intro h
    have hadj : ∀ j (hj : j + 1 < l.length), l[j] < l[j + 1] := by
      intro j hj
      have := h j (by omega) hj
      have e1 : l.getD j 0 = l[j] := by rw [List.getD_eq_getElem?_getD, List.getElem?_eq_getElem (by omega)]; rfl
      have e2 : l.getD (j + 1) 0 = l[j + 1] := by rw [List.getD_eq_getElem?_getD, List.getElem?_eq_getElem hj]; rfl
      rw [e1, e2] at this; exact this
    have hmono : ∀ i k, (hk : i + k + 1 < l.length) → l[i]'(by omega) < l[i + k + 1] := by
      intro i k
      induction k with
      | zero => intro hk; exact hadj i hk
      | succ k ih =>
        intro hk
        exact Int.lt_trans (ih (by omega)) (hadj (i + k + 1) (by omega))
    rw [List.pairwise_iff_getElem]
    intro i j hi hj hij
    have := hmono i (j - i - 1) (by omega)
    have e : i + (j - i - 1) + 1 = j := by omega
    simp only [e] at this
    exact this
  · intro h a _ ha
    have e1 : l.getD a 0 = l[a] := by rw [List.getD_eq_getElem?_getD, List.getElem?_eq_getElem (by omega)]; rfl
    have e2 : l.getD (a + 1) 0 = l[a + 1] := by rw [List.getD_eq_getElem?_getD, List.getElem?_eq_getElem ha]; rfl
    rw [e1, e2]
    exact (List.pairwise_iff_getElem.1 h) a (a + 1) (by omega) ha (by omega)


theorem rising_ev (l : List Int) (hl : l.length ≤ 100000) : Ev (fun k => laws_rising.f k l) (decide (l.Pairwise (· < ·))) := by
  obtain ⟨b, h1, h2⟩ := rising_l0 l hl l.length (l.length + 1) 1 (Nat.le_refl _) (by omega) (by omega)
  refine Ev.of (laws_rising.mono l) (k := l.length + 1) ?_
  unfold laws_rising.f
  rw [show (1 : Int) = ((1 : Nat) : Int) from rfl, h1]
  congr 1
  rw [adj_pairwise] at h2
  cases b with
  | true => exact (decide_eq_true (h2.1 rfl)).symm
  | false => exact (decide_eq_false (fun h => by have := h2.2 h; cases this)).symm

theorem index_ev (l : List Int) (x : Int) (hl : l.length ≤ 100000) : ∀ m i, l.length - i ≤ m → i ≤ l.length → ∃ r, Ev (fun k => laws_index.l0 k l x (i : Int)) r ∧ (r ≥ 0 ↔ x ∈ l.drop i)
  | 0, i, hm, hi => by
    refine ⟨-1, Ev.step (fun k => ?_) (Ev.now _), ?_⟩
    · simp only [laws_index.l0]
      rw [if_neg (by omega)]
    · rw [List.drop_eq_nil_of_le (by omega)]; simp
  | m + 1, i, hm, hi => by
    by_cases hlt : i < l.length
    · have w2 : wrap64 ((i : Int) + 1) = ((i + 1 : Nat) : Int) := by unfold wrap64; omega
      have r2 : rd l (i : Int) = l[i] := by unfold rd; rw [Int.toNat_natCast, List.getD_eq_getElem?_getD, List.getElem?_eq_getElem hlt]; rfl
      by_cases hx : l[i] = x
      · refine ⟨(i : Int), Ev.step (fun k => ?_) (Ev.now _), ?_⟩
        · simp only [laws_index.l0]
          rw [if_pos (by omega), if_pos (by omega), r2, if_pos hx]
        · rw [List.drop_eq_getElem_cons hlt, hx]; simp
      · obtain ⟨r, h1, h2⟩ := index_ev l x hl m (i + 1) (by omega) (by omega)
        refine ⟨r, Ev.step (fun k => ?_) h1, ?_⟩
        · simp only [laws_index.l0]
          rw [if_pos (by omega), if_pos (by omega), r2, if_neg hx, w2]
        · rw [h2, List.drop_eq_getElem_cons hlt, List.mem_cons]
          constructor
          · exact .inr
          · rintro (h | h)
            · exact absurd h.symm hx
            · exact h
    · refine ⟨-1, Ev.step (fun k => ?_) (Ev.now _), ?_⟩
      · simp only [laws_index.l0]
        rw [if_neg (by omega)]
      · rw [List.drop_eq_nil_of_le (by omega)]; simp

theorem has_ev (l : List Int) (x : Int) (hl : l.length ≤ 100000) : Ev (fun k => laws_has.f k l x) (decide (x ∈ l)) := by
  obtain ⟨r, h1, h2⟩ := index_ev l x hl l.length 0 (by omega) (Nat.zero_le _)
  have h3 : Ev (fun k => laws_index.f k l x) r := Ev.congr (fun k => rfl) h1
  refine Ev.congr (fun k => ?_) (Ev.bind h3 (f := fun _ t => some (decide (t ≥ 0))) ?_)
  · rfl
  · have : decide (r ≥ 0) = decide (x ∈ l) := by rw [decide_eq_decide, h2, List.drop_zero]
    rw [this]; exact Ev.now _

theorem rdT (es : List S34) (i : Nat) (h : i < es.length) : rd_T34 es (i : Int) = es[i] := by unfold rd_T34; simp [List.getD_eq_getElem?_getD, h]

theorem well_l0 (d : Bool) (zs : List Int) (es : List S34) (hz : zs.length ≤ 100000) (he : es.length ≤ 100000) : ∀ m i, es.length - i ≤ m → i ≤ es.length → Ev (fun k => laws_well.l0 k (i : Int) d zs es) ((es.drop i).all (goodE zs))
  | 0, i, hm, hi => by
    refine Ev.step (fun k => ?_) (Ev.now _)
    simp only [laws_well.l0]
    rw [if_neg (by omega), List.drop_eq_nil_of_le (by omega)]; rfl
  | m + 1, i, hm, hi => by
    by_cases hlt : i < es.length
    · have w2 : wrap64 ((i : Int) + 1) = ((i + 1 : Nat) : Int) := by unfold wrap64; omega
      have ih := well_l0 d zs es hz he m (i + 1) (by omega) (by omega)
      have hd : (es.drop i).all (goodE zs) = (goodE zs es[i] && (es.drop (i + 1)).all (goodE zs)) := by rw [List.drop_eq_getElem_cons hlt]; rfl
      rw [hd]
      have hr := rdT es i hlt
      generalize es[i] = e at hr
      by_cases h0 : e.f0 = e.f1
      · refine Ev.step (fun k => ?_) (Ev.now _)
        simp only [laws_well.l0]
        rw [if_pos (by omega), if_pos (by omega), hr, if_pos h0]
        have : goodE zs e = false := by unfold goodE; simp [h0]
        rw [this]; rfl
      · have a1 := has_ev zs e.f0 hz
        have a2 := has_ev zs e.f1 hz
        refine Ev.step (f := fun k => (laws_has.f k zs e.f0).bind fun t122 => (if t122 = true then ((laws_has.f k zs e.f1).bind fun t123 => (if t123 = true then (if e.f2 > 1099511627776 then (some false) else (if e.f2 < (-1099511627776) then (some false) else (laws_well.l0 k (wrap64 ((i : Int) + 1)) d zs es))) else (some false))) else (some false))) (fun k => ?_) ?_
        · simp only [laws_well.l0]
          rw [if_pos (by omega), if_pos (by omega), hr, if_neg h0]
        · by_cases m1 : e.f0 ∈ zs
          · by_cases m2 : e.f1 ∈ zs
            · rw [decide_eq_true m1] at a1
              rw [decide_eq_true m2] at a2
              by_cases g1 : 1099511627776 < e.f2
              · have hg : goodE zs e = false := by unfold goodE; simp [g1]
                rw [hg]
                refine Ev.bind a1 (Ev.congr (fun k => if_pos rfl) (Ev.bind a2 (Ev.congr (fun k => ?_) (Ev.now _))))
                rw [if_pos rfl, if_pos g1]; rfl
              · by_cases g2 : e.f2 < -1099511627776
                · have hg : goodE zs e = false := by unfold goodE; simp [g2]
                  rw [hg]
                  refine Ev.bind a1 (Ev.congr (fun k => if_pos rfl) (Ev.bind a2 (Ev.congr (fun k => ?_) (Ev.now _))))
                  rw [if_pos rfl, if_neg g1, if_pos g2]; rfl
                · have hg : goodE zs e = true := by unfold goodE; simp [m1, m2, h0, g1, g2]
                  rw [hg, Bool.true_and]
                  refine Ev.bind a1 (Ev.congr (fun k => if_pos rfl) (Ev.bind a2 (Ev.congr (fun k => ?_) ih)))
                  rw [if_pos rfl, if_neg g1, if_neg g2, w2]
            · rw [decide_eq_true m1] at a1
              rw [decide_eq_false m2] at a2
              have hg : goodE zs e = false := by unfold goodE; simp [m2]
              rw [hg]
              exact Ev.bind a1 (Ev.congr (fun k => if_pos rfl) (Ev.bind a2 (Ev.congr (fun k => if_neg (by simp)) (Ev.now _))))
          · rw [decide_eq_false m1] at a1
            have hg : goodE zs e = false := by unfold goodE; simp [m1]
            rw [hg]
            exact Ev.bind a1 (Ev.congr (fun k => if_neg (by simp)) (Ev.now _))
    · refine Ev.step (fun k => ?_) (Ev.now _)
      simp only [laws_well.l0]
      rw [if_neg (by omega), List.drop_eq_nil_of_le (by omega)]; rfl

theorem well_ev (d : Bool) (zs : List Int) (es : List S34) (hz : zs.length ≤ 1000) (he : es.length ≤ 100000) : Ev (fun k => laws_well.f k d zs es) (readOk zs es) := by
  obtain ⟨k0, h0⟩ := sorted_f zs (by omega)
  have h1 := Ev.of (laws_sorted.mono zs) h0
  have h2 := rising_ev (srt zs) (by rw [srt_length]; omega)
  refine Ev.bind h1 (Ev.bind h2 ?_)
  unfold readOk
  by_cases hs : (srt zs).Pairwise (· < ·)
  · rw [decide_eq_true hs, Bool.true_and]
    refine Ev.congr (fun k => if_pos rfl) ?_
    have := well_l0 d zs es (by omega) he es.length 0 (by omega) (Nat.zero_le _)
    rw [List.drop_zero] at this
    exact this
  · rw [decide_eq_false hs, Bool.false_and]
    exact Ev.congr (fun k => if_neg (by simp)) (Ev.now _)

/-- which graphs fewOf takes -/
def fewB (d want : Bool) (zs : List Int) (es : List S34) (n : Nat) : Bool := (d == want) && (decide (zs.length ≤ n) && (decide (es.length ≤ 8 * n) && readOk zs es))

theorem fewOf_ev (d want : Bool) (zs : List Int) (es : List S34) (n : Nat) (hn : n ≤ 1000) : Ev (fun k => laws_fewOf.f k d zs es want (n : Int)) (fewB d want zs es n) := by
  unfold fewB
  by_cases hd : (d == want) = true
  · rw [hd, Bool.true_and]
    refine Ev.congr (f := fun k => (laws_few.f k d zs es (n : Int)).bind fun t127 => (some t127)) (fun k => ?_) (Ev.bind (a := (decide (zs.length ≤ n) && (decide (es.length ≤ 8 * n) && readOk zs es))) ?_ (Ev.now _))
    · unfold laws_fewOf.f; rw [if_pos hd]
    · have hw : wrap64 (8 * (n : Int)) = 8 * (n : Int) := by unfold wrap64; omega
      by_cases h1 : zs.length ≤ n
      · by_cases h2 : es.length ≤ 8 * n
        · rw [decide_eq_true h1, decide_eq_true h2, Bool.true_and, Bool.true_and]
          refine Ev.congr (f := fun k => (laws_well.f k d zs es).bind fun t125 => (some t125)) (fun k => ?_) (Ev.bind (well_ev d zs es (by omega) (by omega)) (Ev.now _))
          unfold laws_few.f
          rw [if_pos (by omega), hw, if_pos (by omega)]
        · rw [decide_eq_true h1, decide_eq_false h2, Bool.true_and, Bool.false_and]
          refine Ev.congr (fun k => ?_) (Ev.now _)
          unfold laws_few.f
          rw [if_pos (by omega), hw, if_neg (by omega)]
      · rw [decide_eq_false h1, Bool.false_and]
        refine Ev.congr (fun k => ?_) (Ev.now _)
        unfold laws_few.f
        rw [if_neg (by omega)]
  · have : (d == want) = false := by simpa using hd
    rw [this, Bool.false_and]
    refine Ev.congr (fun k => ?_) (Ev.now _)
    unfold laws_fewOf.f
    rw [if_neg hd]

theorem rdI (l : List Int) (i : Nat) (h : i < l.length) : rd l (i : Int) = l[i] := by unfold rd; simp [List.getD_eq_getElem?_getD, h]
theorem equal_l0 (a b : List Int) (he : a.length = b.length) (hl : a.length ≤ 100000) : ∀ m i, a.length - i ≤ m → i ≤ a.length → Ev (fun k => slices_Equal_int_int.l0 k a b (a.length : Int) (i : Int)) (decide (a.drop i = b.drop i))
  | 0, i, hm, hi => by
    refine Ev.step (fun k => ?_) (Ev.now _)
    simp only [slices_Equal_int_int.l0]
    rw [if_neg (by omega), List.drop_eq_nil_of_le (by omega), List.drop_eq_nil_of_le (by omega)]; rfl
  | m + 1, i, hm, hi => by
    by_cases hlt : i < a.length
    · have w2 : wrap64 ((i : Int) + 1) = ((i + 1 : Nat) : Int) := by unfold wrap64; omega
      have hlb : i < b.length := by omega
      by_cases hx : a[i] = b[i]
      · have hd : decide (a.drop i = b.drop i) = decide (a.drop (i + 1) = b.drop (i + 1)) := by
          rw [List.drop_eq_getElem_cons hlt, List.drop_eq_getElem_cons hlb, hx]
          exact decide_eq_decide.2 ⟨fun h => (List.cons.inj h).2, fun h => by rw [h]⟩
        rw [hd]
        refine Ev.step (fun k => ?_) (equal_l0 a b he hl m (i + 1) (by omega) (by omega))
        simp only [slices_Equal_int_int.l0]
        rw [if_pos (by omega), if_pos (by omega), if_pos (by omega), if_pos (by omega), rdI a i hlt, rdI b i hlb, if_pos hx, w2]
      · have hd : decide (a.drop i = b.drop i) = false := by
          rw [List.drop_eq_getElem_cons hlt, List.drop_eq_getElem_cons hlb]
          exact decide_eq_false (fun h => hx (List.cons.inj h).1)
        rw [hd]
        refine Ev.step (fun k => ?_) (Ev.now _)
        simp only [slices_Equal_int_int.l0]
        rw [if_pos (by omega), if_pos (by omega), if_pos (by omega), if_pos (by omega), rdI a i hlt, rdI b i hlb, if_neg hx]
    · refine Ev.step (fun k => ?_) (Ev.now _)
      simp only [slices_Equal_int_int.l0]
      rw [if_neg (by omega), List.drop_eq_nil_of_le (by omega), List.drop_eq_nil_of_le (by omega)]; rfl
theorem equal_ev (a b : List Int) (hl : a.length ≤ 100000) : Ev (fun k => slices_Equal_int_int.f k a b) (decide (a = b)) := by
  by_cases he : a.length = b.length
  · have := equal_l0 a b he hl a.length 0 (by omega) (Nat.zero_le _)
    rw [List.drop_zero, List.drop_zero] at this
    refine Ev.congr (fun k => ?_) this
    unfold slices_Equal_int_int.f
    rw [if_pos (by omega)]; rfl
  · rw [decide_eq_false (fun h => he (by rw [h]))]
    refine Ev.congr (fun k => ?_) (Ev.now _)
    unfold slices_Equal_int_int.f
    rw [if_neg (by omega)]

theorem before_l0 (a b : List Int) (hl : a.length ≤ 100000) : ∀ m i, a.length - i ≤ m → i ≤ a.length → i ≤ b.length → Ev (fun k => laws_before.l0 k a b (i : Int)) (lexB (a.drop i) (b.drop i))
  | 0, i, hm, hi, hib => by
    have hda : a.drop i = [] := List.drop_eq_nil_of_le (by omega)
    have hres : lexB (a.drop i) (b.drop i) = decide ((a.length : Int) < (b.length : Int)) := by
      rw [hda]
      by_cases hb : i < b.length
      · rw [List.drop_eq_getElem_cons hb, decide_eq_true (by omega)]; rfl
      · rw [List.drop_eq_nil_of_le (by omega), decide_eq_false (by omega)]; rfl
    rw [hres]
    refine Ev.step (f := fun k => laws_before.j1 k a b (i : Int) false) (fun k => ?_) (Ev.step (fun k => ?_) (Ev.now _))
    · simp only [laws_before.l0]
      rw [if_neg (by omega)]
    · simp only [laws_before.j1]; rfl
  | m + 1, i, hm, hi, hib => by
    by_cases hlt : i < a.length
    · by_cases hlb : i < b.length
      · have w2 : wrap64 ((i : Int) + 1) = ((i + 1 : Nat) : Int) := by unfold wrap64; omega
        rw [List.drop_eq_getElem_cons hlt, List.drop_eq_getElem_cons hlb]
        unfold lexB
        refine Ev.step (f := fun k => laws_before.j1 k a b (i : Int) true) (fun k => ?_) ?_
        · simp only [laws_before.l0]
          rw [if_pos (by omega), decide_eq_true (show (i : Int) < (b.length : Int) by omega)]
        · by_cases hx : a[i] = b[i]
          · rw [if_pos hx]
            refine Ev.step (fun k => ?_) (before_l0 a b hl m (i + 1) (by omega) (by omega) (by omega))
            simp only [laws_before.j1]
            rw [if_pos trivial, if_pos (by omega), if_pos (by omega), if_pos (by omega), rdI a i hlt, rdI b i hlb, if_pos hx, w2]
          · rw [if_neg hx]
            refine Ev.step (fun k => ?_) (Ev.now _)
            simp only [laws_before.j1]
            rw [if_pos trivial, if_pos (by omega), if_pos (by omega), if_pos (by omega), rdI a i hlt, rdI b i hlb, if_neg hx]
      · have hres : lexB (a.drop i) (b.drop i) = decide ((a.length : Int) < (b.length : Int)) := by
          rw [List.drop_eq_getElem_cons hlt, List.drop_eq_nil_of_le (show b.length ≤ i by omega), decide_eq_false (by omega)]; rfl
        rw [hres]
        refine Ev.step (f := fun k => laws_before.j1 k a b (i : Int) false) (fun k => ?_) (Ev.step (fun k => ?_) (Ev.now _))
        · simp only [laws_before.l0]
          rw [if_pos (by omega), decide_eq_false (show ¬ (i : Int) < (b.length : Int) by omega)]
        · simp only [laws_before.j1]; rfl
    · have hda : a.drop i = [] := List.drop_eq_nil_of_le (by omega)
      have hres : lexB (a.drop i) (b.drop i) = decide ((a.length : Int) < (b.length : Int)) := by
        rw [hda]
        by_cases hb : i < b.length
        · rw [List.drop_eq_getElem_cons hb, decide_eq_true (by omega)]; rfl
        · rw [List.drop_eq_nil_of_le (by omega), decide_eq_false (by omega)]; rfl
      rw [hres]
      refine Ev.step (f := fun k => laws_before.j1 k a b (i : Int) false) (fun k => ?_) (Ev.step (fun k => ?_) (Ev.now _))
      · simp only [laws_before.l0]
        rw [if_neg (by omega)]
      · simp only [laws_before.j1]; rfl
theorem before_ev (a b : List Int) (hl : a.length ≤ 100000) : Ev (fun k => laws_before.f k a b) (lexB a b) := by
  have := before_l0 a b hl a.length 0 (by omega) (Nat.zero_le _) (Nat.zero_le _)
  rw [List.drop_zero, List.drop_zero] at this
  exact Ev.congr (fun k => rfl) this
end Go.Proofs.YtolbfjjgdheikaaGreat.R

/- laws.sameLists, in the printed contracts' form. -/
namespace Go.Proofs.YtolbfjjgdheikaaGreat.R
open Go.RowKit Go.Lab Go.Maps Go.Proofs.YtolbfjjgdheikaaGreatW.PrintWords Go.Proofs.YtolbfjjgdheikaaGreatW.PrintLast Go.Proofs.YtolbfjjgdheikaaGreatW.PrintMore PL Q

/-- lists of at most so many numbers each -/
def smallL (l : List (List Int)) : Bool := decide (l.length ≤ 100000) && l.all fun q => decide (q.length ≤ 100000)
theorem smallL_iff {l : List (List Int)} : smallL l = true ↔ l.length ≤ 100000 ∧ ∀ q ∈ l, q.length ≤ 100000 := by
  unfold smallL
  rw [Bool.and_eq_true, decide_eq_true_iff, List.all_eq_true]
  exact and_congr_right fun _ => forall_congr' fun q => forall_congr' fun _ => decide_eq_true_iff

theorem C_lists_at {w : World} {A : Option Addr} {n : Nat} {xs : List (List Int)} (h : Kd.C (Kd.slice 3 (Kd.int .i64)) w A n xs) (i : Nat) (hi : i < n) : ∃ ad A0 c0, A = some ad ∧ w.cell? (ad.add i) = some (.slice A0 (xs.getD i []).length c0) ∧ (xs.getD i []).length ≤ c0 ∧ Kd.C (Kd.int .i64) w A0 (xs.getD i []).length (xs.getD i []) := by
  obtain ⟨ad, A0, c0, e, h1, h2, h3⟩ := at_L2 h (i : Int) (by omega) (by omega)
  unfold rd_L2 at h1 h2 h3
  rw [Int.toNat_natCast] at h1 h2 h3
  exact ⟨ad, A0, c0, e, h1, h2, h3⟩

set_option maxHeartbeats 2000000 in
set_option maxRecDepth 100000 in
theorem eqFunc_any (A1 A2 : Option Addr) (c1 c2 : Nat) (xs ys : List (List Int)) (w : World) (hx : Kd.C (Kd.slice 3 (Kd.int .i64)) w A1 xs.length xs) (hy : Kd.C (Kd.slice 3 (Kd.int .i64)) w A2 ys.length ys) (hs1 : smallL xs = true) (hs2 : smallL ys = true) :
    Calls Tryz.prog 31 #[.slice A1 xs.length c1, .slice A2 ys.length c2, .func (.func 20) #[] #[]] w fun e w' => e = .returned (.bool (decide (xs = ys))) ∧ Below w.heap.size w w' := by
  obtain ⟨hl1, hr1⟩ := smallL_iff.1 hs1
  obtain ⟨hl2, hr2⟩ := smallL_iff.1 hs2
  have HX := Aside0.mk hx
  have HY := Aside0.mk hy
  have HS := Aside0.mk (And.intro hr1 hr2)
  clear hx hy hs1 hs2 hr1 hr2
  by_cases hlen : xs.length = ys.length
  · have HLEN := Aside0.mk hlen
    have hnq : ((xs.length : Int) != (ys.length : Int)) = false := by simp [hlen]
    have hnq2 : decide ((xs.length : Int) = (ys.length : Int)) = true := by simp [hlen]
    obtain ⟨n, hn⟩ : ∃ n, xs.length = n := ⟨_, rfl⟩
    have hn2 : ys.length = n := by omega
    rw [hn] at HX hl1
    rw [hn2] at HY hl2
    have HN := Aside0.mk (And.intro hn hn2)
    rw [hn, hn2]
    clear hlen hnq hnq2 hn hn2 HLEN
    go_enter Tryz.func31, Tryz.ntmps31
    go_wp2
    go_loopw [17] (fun i wr => ∃ k : Nat, k ≤ n ∧ i = .int .i64 k ∧ Aside0 (decide (xs = ys) = decide (xs.drop k = ys.drop k) ∧ Below w.heap.size w wr)) (fun i _ => n - (intOf i).toNat)
    case atStart => exact ⟨0, Nat.zero_le _, rfl, ⟨by simp, Below.refl _ _⟩⟩
    case round =>
      obtain ⟨k, hk, rfl, HR⟩ := hrel
      by_cases hlt : k < n
      · have hxl : k < xs.length := by rw [HN.out.1]; exact hlt
        have hyl : k < ys.length := by rw [HN.out.2]; exact hlt
        obtain ⟨ad, B1, d1, rfl, hc1, hd1, hC1⟩ := C_lists_at (Kd.C_below HX.out HR.out.2) k hlt
        obtain ⟨ad2, B2, d2, rfl, hc2, hd2, hC2⟩ := C_lists_at (Kd.C_below HY.out HR.out.2) k hlt
        have hgx : xs.getD k [] = xs[k] := by simp [List.getD_eq_getElem?_getD, hxl]
        have hgy : ys.getD k [] = ys[k] := by simp [List.getD_eq_getElem?_getD, hyl]
        have hq1 : (xs.getD k []).length ≤ 100000 := by rw [hgx]; exact HS.out.1 _ (List.getElem_mem _)
        have hdr : decide (xs.drop k = ys.drop k) = decide (xs.getD k [] = ys.getD k [] ∧ xs.drop (k + 1) = ys.drop (k + 1)) := by
          rw [List.drop_eq_getElem_cons hxl, List.drop_eq_getElem_cons hyl, hgx, hgy]
          exact decide_eq_decide.2 List.cons_eq_cons
        have HDR := Aside0.mk hdr
        have HBW := Aside0.mk HR.out.2.size
        clear hgx hgy hdr hxl hyl
        obtain ⟨p, hp⟩ : ∃ p, xs.getD k [] = p := ⟨_, rfl⟩
        obtain ⟨q, hq⟩ : ∃ q, ys.getD k [] = q := ⟨_, rfl⟩
        rw [hp] at hc1 hd1 hC1 hq1 HDR
        rw [hq] at hc2 hd2 hC2 HDR
        have HC1 := Aside0.mk hC1
        have HC2 := Aside0.mk hC2
        clear hp hq hC1 hC2
        obtain ⟨kk, hev⟩ := (equal_ev p q hq1).rounds
        have HEV := Aside0.mk hev
        clear hev
        by_cases he : p = q
        · have hde : decide (p = q) = true := decide_eq_true he
          have HDE := Aside0.mk he
          clear he
          go_wp2_with (go_at_call 20; refine (slices_Equal_int_int.calls kk _ _ p _ _ q _ _ HC1.out hd1 HC2.out hd2 HEV.out).mono ?_; rintro e w1 ⟨rfl, hdw⟩; rw [hde]; have HD := Aside0.mk hdw; clear hdw)
          go_roundw
          case rel => exact ⟨k + 1, by omega, by go_num, ⟨by rw [HR.out.1, HDR.out, HDE.out]; simp, HR.out.2.trans (HD.out.below.mono HBW.out)⟩⟩
          case measure => simp [intOf]; omega
        · have hde : decide (p = q) = false := decide_eq_false he
          have hres : decide (xs = ys) = false := by rw [HR.out.1, HDR.out]; exact decide_eq_false (fun h => he h.1)
          have HRES := Aside0.mk hres
          clear he hres
          go_wp2_with (go_at_call 20; refine (slices_Equal_int_int.calls kk _ _ p _ _ q _ _ HC1.out hd1 HC2.out hd2 HEV.out).mono ?_; rintro e w1 ⟨rfl, hdw⟩; rw [hde]; have HD := Aside0.mk hdw; clear hdw)
          go_ret
          exact ⟨by rw [HRES.out]; rfl, HR.out.2.trans (HD.out.below.mono HBW.out)⟩
      · have hres : decide (xs = ys) = true := by
          rw [HR.out.1, List.drop_eq_nil_of_le (by rw [HN.out.1]; omega), List.drop_eq_nil_of_le (by rw [HN.out.2]; omega)]; rfl
        have HRES := Aside0.mk hres
        clear hres
        go_wp2
        go_ret
        exact ⟨by rw [HRES.out]; rfl, HR.out.2⟩
  · have hres : decide (xs = ys) = false := decide_eq_false (fun h => hlen (by rw [h]))
    have hnq : ¬ ((xs.length : Int) = (ys.length : Int)) := by omega
    rw [hres]
    clear hres
    go_enter Tryz.func31, Tryz.ntmps31
    go_wp2
    go_ret
    exact ⟨rfl, Below.refl _ _⟩
end Go.Proofs.YtolbfjjgdheikaaGreat.R
namespace Go.Proofs.YtolbfjjgdheikaaGreat.PL
open Go.RowKit Go.Lab Go.Proofs.YtolbfjjgdheikaaGreatW.PrintWords Go.Proofs.YtolbfjjgdheikaaGreatW.PrintLast Go.Proofs.YtolbfjjgdheikaaGreatW.PrintMore Go.Proofs.YtolbfjjgdheikaaGreat.R
def laws_sameLists.f (l0 l1 : List (List Int)) : Option Bool := if (smallL l0 && smallL l1) = true then some (decide (l0 = l1)) else none
set_option maxHeartbeats 1000000 in
theorem laws_sameLists.calls (A0 : Option Addr) (c0 : Nat) (l0 : List (List Int)) (A1 : Option Addr) (c1 : Nat) (l1 : List (List Int)) (r : Bool) (w : World) (hr0 : Kd.C (Kd.slice 3 (Kd.int .i64)) w A0 l0.length l0) (hc0 : l0.length ≤ c0) (hr1 : Kd.C (Kd.slice 3 (Kd.int .i64)) w A1 l1.length l1) (hc1 : l1.length ≤ c1) (h : laws_sameLists.f l0 l1 = some r) :
    Calls Tryz.prog 13 #[.slice A0 l0.length c0, .slice A1 l1.length c1] w fun e w' => e = .returned (.bool r) ∧ Below w.heap.size w w' := by
  unfold laws_sameLists.f at h
  split at h
  · rename_i hs
    rw [Bool.and_eq_true] at hs
    injection h with h
    subst h
    have H := Aside0.mk (eqFunc_any A0 A1 c0 c1 l0 l1 w hr0 hr1 hs.1 hs.2)
    obtain ⟨b, hb⟩ : ∃ b, decide (l0 = l1) = b := ⟨_, rfl⟩
    rw [hb] at H ⊢
    clear hb hr0 hr1 hs
    go_enter Tryz.func13, Tryz.ntmps13
    go_wp2_with (go_at_call 31; refine H.out.mono ?_; rintro e w1 ⟨rfl, hbw⟩; have HB := Aside0.mk hbw; clear hbw)
    go_ret
    exact ⟨rfl, HB.out⟩
  · cases h
end Go.Proofs.YtolbfjjgdheikaaGreat.PL

/- laws.sortedLists, in the printed contracts' form. -/
namespace Go.Proofs.YtolbfjjgdheikaaGreat.R
open Go.RowKit Go.Lab Go.Maps Go.Proofs.YtolbfjjgdheikaaGreatW.PrintWords Go.Proofs.YtolbfjjgdheikaaGreatW.PrintLast Go.Proofs.YtolbfjjgdheikaaGreatW.PrintMore PL Q

abbrev VL := Value × List Int
def vl0 : VL := (.slice none 0 0, [])
def leP (a b : VL) : Prop := lexB b.2 a.2 = false
theorem leP.trans {a b c : VL} (h1 : leP a b) (h2 : leP b c) : leP a c := lexB_ntrans h2 h1
/-- two places exchanged -/
def swpP (ys : List VL) (i : Nat) : List VL := (ys.set i (ys.getD (i - 1) vl0)).set (i - 1) (ys.getD i vl0)
structure InsP (xs ys : List VL) (k i : Nat) : Prop where
  perm : ys.Perm xs
  ik : i ≤ k
  kn : k < ys.length
  rest : ∀ a b, a < b → b ≤ k → a ≠ i → b ≠ i → leP (ys.getD a vl0) (ys.getD b vl0)
  self : ∀ b, i < b → b ≤ k → leP (ys.getD i vl0) (ys.getD b vl0)
theorem swpP_length (ys : List VL) (i : Nat) : (swpP ys i).length = ys.length := by simp [swpP]
theorem swpP_get (ys : List VL) (i : Nat) (h0 : 0 < i) (hi : i < ys.length) (j : Nat) : (swpP ys i).getD j vl0 = if j = i then ys.getD (i - 1) vl0 else if j = i - 1 then ys.getD i vl0 else ys.getD j vl0 := by
  unfold swpP
  simp only [List.getD_eq_getElem?_getD, List.getElem?_set, List.length_set]
  by_cases h1 : j = i
  · subst h1
    rw [if_neg (by omega), if_pos rfl, if_pos hi, if_pos rfl]; rfl
  · rw [if_neg h1]
    by_cases h2 : j = i - 1
    · subst h2
      rw [if_pos rfl, if_pos (by omega), if_pos rfl]; rfl
    · rw [if_neg (fun e => h2 e.symm), if_neg (fun e => h1 e.symm), if_neg h2]
theorem swpP_perm (ys : List VL) (i : Nat) (h0 : 0 < i) (hi : i < ys.length) : (swpP ys i).Perm ys := by
  unfold swpP
  have h1 : ys.getD (i - 1) vl0 = ys[i - 1] := by rw [List.getD_eq_getElem?_getD, List.getElem?_eq_getElem (by omega)]; rfl
  have h2 : ys.getD i vl0 = ys[i] := by rw [List.getD_eq_getElem?_getD, List.getElem?_eq_getElem hi]; rfl
  rw [h1, h2]
  exact Go.Sort.perm_set_set ys i (i - 1) hi (by omega)
theorem InsP.step {xs ys : List VL} {k i : Nat} (h : InsP xs ys k i) (h0 : 0 < i) (hlt : lexB (ys.getD i vl0).2 (ys.getD (i - 1) vl0).2 = true) : InsP xs (swpP ys i) k (i - 1) := by
  have hi : i < ys.length := by have := h.ik; have := h.kn; omega
  have g := swpP_get ys i h0 hi
  refine ⟨(swpP_perm ys i h0 hi).trans h.perm, by have := h.ik; omega, by rw [swpP_length]; exact h.kn, ?_, ?_⟩
  · intro a b hab hbk ha hb
    rw [g, g]
    by_cases h1 : a = i
    · rw [if_pos h1, if_neg (by omega), if_neg (by omega)]
      exact h.rest (i - 1) b (by omega) hbk (by omega) (by omega)
    · rw [if_neg h1, if_neg ha]
      by_cases h2 : b = i
      · rw [if_pos h2]; exact h.rest a (i - 1) (by omega) (by have := h.ik; omega) h1 (by omega)
      · rw [if_neg h2, if_neg hb]; exact h.rest a b hab hbk h1 h2
  · intro b hb hbk
    rw [g, g, if_neg (by omega), if_pos rfl]
    by_cases h2 : b = i
    · rw [if_pos h2]; exact lexB_asymm hlt
    · rw [if_neg h2, if_neg (by omega)]; exact h.self b (by omega) hbk
def UpToP (ys : List VL) (k : Nat) : Prop := ∀ a b, a < b → b < k → leP (ys.getD a vl0) (ys.getD b vl0)
theorem InsP.start {xs ys : List VL} {k : Nat} (hp : ys.Perm xs) (hk : k < ys.length) (hu : UpToP ys k) : InsP xs ys k k :=
  ⟨hp, Nat.le_refl _, hk, fun a b hab hbk _ hb => hu a b hab (by omega), fun b h1 h2 => by omega⟩
theorem InsP.stop {xs ys : List VL} {k i : Nat} (h : InsP xs ys k i) (hs : i = 0 ∨ leP (ys.getD (i - 1) vl0) (ys.getD i vl0)) : UpToP ys (k + 1) := by
  intro a b hab hbk
  by_cases h1 : a = i
  · subst h1; exact h.self b hab (by omega)
  · by_cases h2 : b = i
    · subst h2
      rcases hs with hs | hs
      · omega
      · by_cases h3 : a = b - 1
        · subst h3; exact hs
        · exact (h.rest a (b - 1) (by omega) (by omega) h1 (by omega)).trans hs
    · exact h.rest a b hab (by omega) h1 h2
theorem UpToP.sortL {xs ys : List VL} (hn : (xs.map (·.2)).Nodup) (hp : ys.Perm xs) (h : UpToP ys ys.length) : ys.map (·.2) = sortL (xs.map (·.2)) := by
  have hp2 := hp.map (·.2)
  refine sortL_eq hn hp2 ?_
  have h1 : (ys.map (·.2)).Pairwise fun x y => lexB y x = false := by
    rw [List.pairwise_map, List.pairwise_iff_getElem]
    intro i j hi hj hij
    have := h i j hij hj
    unfold leP at this
    rw [List.getD_eq_getElem?_getD, List.getD_eq_getElem?_getD, List.getElem?_eq_getElem hi, List.getElem?_eq_getElem hj] at this
    exact this
  refine (h1.and (hp2.nodup_iff.2 hn)).imp ?_
  rintro x y ⟨h1, h3⟩
  cases h4 : lexB x y with
  | true => rfl
  | false => exact absurd (lexB_total h4 h1) h3

set_option maxHeartbeats 1000000 in
theorem cloneL_any (A : Option Addr) (c : Nat) (xs : List (List Int)) (w : World) (h : Kd.C (Kd.slice 3 (Kd.int .i64)) w A xs.length xs) (hb : xs.length ≤ 1000000) :
    Calls Tryz.prog 32 #[.slice A xs.length c] w fun e w' => ∃ v' inner, e = .returned v' ∧ w'.ownsRow w.heap.size 22 1 v' xs.length inner ∧ Reps ((Kd.slice 3 (Kd.int .i64)).K w) 1 xs inner ∧ Below w.heap.size w w' := by
  have q29 : ∀ (w : World) (a : Option Addr) (n c n' c' : Nat), (binOp .eql 29 (.slice a n c) (.slice none n' c')).run Tryz.prog w = .ok (.bool a.isNone) w := fun w a n c n' c' => Lib.run_eql_slice_nil w _ _ a n c n' c' Tryz.underlying29
  cases A with
  | none =>
    have h0 : xs.length = 0 := by
      rcases Nat.eq_zero_or_pos xs.length with h0 | h0
      · exact h0
      · obtain ⟨ad, e, _⟩ := h.2.2 h0; cases e
    have hx : xs = [] := List.eq_nil_of_length_eq_zero h0
    subst hx
    clear h h0
    go_enter Tryz.func32, Tryz.ntmps32
    go_wp2
    go_ret
    exact ⟨_, [], rfl, World.ownsRow_nil _ _ _ _, Reps.none _ _, Below.refl _ _⟩
  | some ad =>
    obtain ⟨inner, hr, hc⟩ := ReadsRow.inner_ h
    have hl : inner.length = xs.length * 1 := hr.1
    have h1 : ∀ u ∈ inner, u.oneCell' = true := by
      intro u hu
      obtain ⟨j, hj, rfl⟩ := List.mem_iff_getElem.1 hu
      have hjx : j < xs.length := by omega
      have h2 := hr.2 j _ (List.getElem?_eq_getElem hjx)
      refine (Kd.slice 3 (Kd.int .i64)).K_one h2 inner[j] ?_
      rw [List.mem_iff_getElem?]
      refine ⟨0, ?_⟩
      rw [List.getElem?_take, if_pos (by show 0 < 1; omega), List.getElem?_drop]
      show inner[j * 1 + 0]? = _
      rw [Nat.mul_one, Nat.add_zero, List.getElem?_eq_getElem hj]
    have HX := Aside0.mk (And.intro hl (And.intro h1 (And.intro hc hr)))
    obtain ⟨i0, hi, hz0, hz1, hz2⟩ := info_parts Tryz.info22
    have HI := Aside0.mk (And.intro hi (And.intro hz0 (And.intro hz1 hz2)))
    clear hi hz0 hz1 hz2 h hr hl h1 hc
    go_enter Tryz.func32, Tryz.ntmps32
    go_wp2_with (at_builtin; refine wpList_append_own _ rfl _ _ 29 rfl w.heap.size 22 i0 (.slice none 0 0) 1 24 Tryz.underlying29 HI.out.1 HI.out.2.1 HI.out.2.2.1 HI.out.2.2.2 rfl (by decide) _ _ _ rfl (World.ownsRow_made w #[] 0 (Nat.le_refl _) (Nat.zero_le _) (by simp)) ad xs.length c inner rfl ?qc1 ?qc2 ?qc3 ?qc4 ?qc5 ?qc6 ?_)
    case qc1 => exact HX.out.1
    case qc2 =>
      intro j u hj
      exact Lib.cell?_alloc_some _ (HX.out.2.2.1 j u hj)
    case qc3 => exact HX.out.2.1
    case qc4 => rw [Nat.zero_add]; unfold maxLen; omega
    case qc5 => rw [Nat.zero_add]; omega
    case qc6 => simp
    intro v' w1 hown hgrow hnil
    go_wp2
    go_ret
    refine ⟨v', inner, rfl, by simpa using hown, HX.out.2.2.2, ?_⟩
    exact ((Below.refl _ w).alloc (Nat.le_refl _) _).grown hgrow (by simp) (by intro k hk; simp [Value.ownBlock] at hk; omega)

/-- a value that is read as a list -/
def RdV (w : World) (p : VL) : Prop := ∃ A c, p.1 = .slice A p.2.length c ∧ p.2.length ≤ c ∧ Kd.C (Kd.int .i64) w A p.2.length p.2
/-- the state of sortedLists -/
structure SrtS (w wr : World) (v : Value) (xs ps : List VL) : Prop where
  own : wr.ownsRow w.heap.size 22 1 v ps.length (ps.map (·.1))
  perm : ps.Perm xs
  bel : Below w.heap.size w wr
theorem SrtS.below {w wr w1 : World} {v : Value} {xs ps : List VL} (h : SrtS w wr v xs ps) (hb : Below wr.heap.size wr w1) : SrtS w w1 v xs ps :=
  ⟨own_of_heap h.own (fun k hk => hb.block k (by obtain ⟨c, hc⟩ := own_block h.own hk; exact blk_lt hc)), h.perm, h.bel.trans (hb.mono h.bel.size)⟩

set_option maxHeartbeats 8000000 in
set_option maxRecDepth 100000 in
theorem sortedLists_any (A : Option Addr) (c : Nat) (xs : List (List Int)) (w : World) (hx : Kd.C (Kd.slice 3 (Kd.int .i64)) w A xs.length xs) (hs : smallL xs = true) (hnd : xs.Nodup) :
    Calls Tryz.prog 14 #[.slice A xs.length c] w fun e w' => ∃ (v : Value) (ps : List VL), e = .returned v ∧ w'.ownsRow w.heap.size 22 1 v ps.length (ps.map (·.1)) ∧ ps.map (·.2) = sortL xs ∧ (∀ p ∈ ps, RdV w p) ∧ Below w.heap.size w w' := by
  obtain ⟨hl, hr⟩ := smallL_iff.1 hs
  have HX := Aside0.mk hx
  have HND := Aside0.mk hnd
  have HSM := Aside0.mk hr
  clear hx hs hnd hr
  go_enter Tryz.func14, Tryz.ntmps14
  go_wp2_with (go_at_call 32; refine (cloneL_any A c xs _ HX.out (by omega)).mono ?_; rintro e w1 ⟨v, inner, rfl, ho1, hr1, hb1⟩; have H1 := Aside0.mk (And.intro ho1 (And.intro hr1 hb1)); obtain ⟨VA, VC, rfl⟩ := own_slice ho1; clear ho1 hr1 hb1)
  obtain ⟨ps0, hp0⟩ : ∃ ps0 : List VL, ps0 = inner.zip xs := ⟨_, rfl⟩
  have hil : inner.length = xs.length := by have := H1.out.2.1.1; omega
  have hm1 : ps0.map (·.1) = inner := by rw [hp0, List.map_fst_zip (by omega)]
  have hm2 : ps0.map (·.2) = xs := by rw [hp0, List.map_snd_zip (by omega)]
  have hpl : ps0.length = xs.length := by rw [hp0, List.length_zip]; omega
  have hrd : ∀ p ∈ ps0, RdV w p := by
    intro p hp
    obtain ⟨j, hj, rfl⟩ := List.mem_iff_getElem.1 hp
    have hjx : j < xs.length := by omega
    have h2 := H1.out.2.1.2 j _ (List.getElem?_eq_getElem hjx)
    have e1 : ps0[j].1 = inner[j] := by simp [hp0]
    have e2 : ps0[j].2 = xs[j] := by simp [hp0]
    rw [Nat.mul_one, List.drop_eq_getElem_cons (by omega)] at h2
    obtain ⟨A', c', h3, h4, h5⟩ := h2
    refine ⟨A', c', ?_, by rw [e2]; exact h4, by rw [e2]; exact h5⟩
    rw [e1, e2]
    exact (List.cons.inj h3).1
  have H0 := Aside0.mk (show SrtS w w1 (.slice VA xs.length VC) ps0 ps0 from ⟨by rw [hm1, hpl]; exact H1.out.1, List.Perm.refl _, H1.out.2.2⟩)
  have HP := Aside0.mk (And.intro hm2 (And.intro hpl hrd))
  clear hp0 hil hm1 hm2 hpl hrd H1
  obtain ⟨n, hn⟩ : ∃ n, xs.length = n := ⟨_, rfl⟩
  rw [hn] at H0 hl
  have HN := Aside0.mk hn
  rw [hn]
  clear hn
  go_loopw [4] (fun i wr => ∃ k : Nat, 1 ≤ k ∧ i = .int .i64 k ∧ k ≤ n + 1 ∧ Aside0 (∃ ps, SrtS w wr (.slice VA n VC) ps0 ps ∧ UpToP ps k)) (fun i _ => n + 1 - (intOf i).toNat)
  case atStart => exact ⟨1, Nat.le_refl _, rfl, by omega, ⟨ps0, H0.out, fun a b h1 h2 => by omega⟩⟩
  case round =>
    obtain ⟨k, hk1, rfl, hkn, HR0⟩ := hrel
    obtain ⟨ps, hS, hU⟩ := HR0.out
    have hpn : ps.length = n := by rw [hS.perm.length_eq, HP.out.2.1, HN.out]
    by_cases hlt : k < n
    · obtain ⟨g, c', he, hc', hcell0, hcur0⟩ := own_cells hS.own (by omega)
      simp only [Value.slice.injEq] at he
      obtain ⟨rfl, -, rfl⟩ := he
      have HI0 := Aside0.mk (show ∃ i ps, i ≤ k ∧ SrtS w wr (.slice (some ⟨g, 0, none⟩) n VC) ps0 ps ∧ InsP ps0 ps k i ∧ i = k from ⟨k, ps, Nat.le_refl _, hS, InsP.start hS.perm (by omega) hU, rfl⟩)
      clear HR0 hS hU hpn hcell0 hcur0 H0 hc'
      go_wp2
      go_loopw [5] (fun v5 w5 => ∃ i : Nat, v5 = .int .i64 i ∧ i ≤ k ∧ Aside0 (∃ ps, SrtS w w5 (.slice (some ⟨g, 0, none⟩) n VC) ps0 ps ∧ InsP ps0 ps k i)) (fun v5 _ => (intOf v5).toNat)
      case atStart =>
        obtain ⟨i, ps, h1, h2, h3, rfl⟩ := HI0.out
        exact ⟨i, rfl, h1, ⟨ps, h2, h3⟩⟩
      case round =>
        clear HI0
        obtain ⟨i, rfl, hik, HR1⟩ := hrel
        obtain ⟨ps, hS, hI⟩ := HR1.out
        have HS := Aside0.mk hS
        have HII := Aside0.mk hI
        have hpn : ps.length = n := by rw [hS.perm.length_eq, HP.out.2.1, HN.out]
        cases i with
        | zero =>
          have HU := Aside0.mk (hI.stop (.inl rfl))
          clear hS hI HR1 hpn
          go_wp2_with fail
          go_quiet (fail)
          go_wp2
          go_roundw
          case rel => exact ⟨k + 1, by omega, by go_num, by omega, ⟨ps, HS.out.below (pw_below_drewN (Below.refl _ _) _), HU.out⟩⟩
          case measure => simp [intOf]; omega
        | succ i =>
          obtain ⟨g', c', he, hc', hcell, hcur⟩ := own_cells hS.own (by omega)
          obtain ⟨cur, hcur⟩ := hcur
          rw [hpn] at he hc'
          have hgg : g = g' := Option.some.inj (show (some g : Option Nat) = some g' from congrArg Value.ownBlock he)
          subst hgg
          clear he
          have hi1 : i + 1 < ps.length := by omega
          obtain ⟨p1, hp1⟩ : ∃ p, ps[i + 1] = p := ⟨_, rfl⟩
          obtain ⟨p2, hp2⟩ : ∃ p, ps[i]'(by omega) = p := ⟨_, rfl⟩
          have hd1 : ps.getD (i + 1) vl0 = p1 := by rw [List.getD_eq_getElem?_getD, List.getElem?_eq_getElem hi1, ← hp1]; rfl
          have hd2 : ps.getD i vl0 = p2 := by rw [List.getD_eq_getElem?_getD, List.getElem?_eq_getElem (by omega), ← hp2]; rfl
          have hq1 := hcell (i + 1) p1.1 (by rw [List.getElem?_map, List.getElem?_eq_getElem hi1, hp1]; rfl)
          have hq2 := hcell i p2.1 (by rw [List.getElem?_map, List.getElem?_eq_getElem (by omega), hp2]; rfl)
          have hm1 : p1 ∈ ps0 := hS.perm.mem_iff.1 (hp1 ▸ List.getElem_mem _)
          have hm2 : p2 ∈ ps0 := hS.perm.mem_iff.1 (hp2 ▸ List.getElem_mem _)
          obtain ⟨A1, c1, e1, hc1, hC1⟩ := HP.out.2.2 p1 hm1
          obtain ⟨A2, c2, e2, hc2, hC2⟩ := HP.out.2.2 p2 hm2
          have hl1 : p1.2.length ≤ 100000 := HSM.out _ (by rw [← HP.out.1]; exact List.mem_map_of_mem hm1)
          have HD := Aside0.mk (And.intro hd1 (And.intro hd2 (And.intro e1 e2)))
          have HC1 := Aside0.mk (Kd.C_below hC1 hS.bel)
          have HC2 := Aside0.mk (Kd.C_below hC2 hS.bel)
          rw [e1] at hq1
          rw [e2] at hq2
          have hfz1 := blk_frozen hcur (i + 1)
          have hfz2 := blk_frozen hcur i
          have hgl := blk_lt hcur
          obtain ⟨kk, hev⟩ := (before_ev p1.2 p2.2 hl1).rounds
          have HEV := Aside0.mk hev
          have hx1 : (0 : Int) ≤ (i : Int) := by omega
          have hx2 : (i : Int) < (n : Int) := by omega
          have hx3 : ((i + 1 : Nat) : Int) < (n : Int) := by omega
          have hx4 : (0 : Int) ≤ ((i + 1 : Nat) : Int) := by omega
          clear hS hI HR1 hcell hev hd1 hd2 hp1 hp2 hm1 hm2 hC1 hC2 hl1 e1 e2 hcur hi1 hpn
          obtain ⟨q1, hqe1⟩ : ∃ q, p1.2 = q := ⟨_, rfl⟩
          obtain ⟨q2, hqe2⟩ : ∃ q, p2.2 = q := ⟨_, rfl⟩
          rw [hqe1] at hq1 hc1 HC1 HEV HD
          rw [hqe2] at hq2 hc2 HC2 HEV HD
          have HQE := Aside0.mk (And.intro hqe1 hqe2)
          clear hqe1 hqe2
          obtain ⟨m, hm⟩ : ∃ m, i + 1 = m := ⟨_, rfl⟩
          rw [hm] at hq1 hfz1 hx3 hx4 ⊢
          have hwm : IntKind.i64.wrap ((m : Int) - 1) = (i : Int) := by rw [IntKind.wrap_i64]; omega
          have hm0 : (0 : Int) < (m : Int) := by omega
          have hm00 : 0 < m := by omega
          have hne : m ≠ i := by omega
          have hne2 : i ≠ m := by omega
          have HM := Aside0.mk hm
          clear hm
          obtain ⟨bb, hbb⟩ : ∃ b, lexB q1 q2 = b := ⟨_, rfl⟩
          rw [hbb] at HEV
          have HBB := Aside0.mk hbb
          clear hbb
          go_wp2_with fail
          go_region_held3 (fun w' => w'.cell? ⟨g, m, none⟩ = some (.slice A1 q1.length c1) ∧ w'.cell? ⟨g, i, none⟩ = some (.slice A2 q2.length c2))
            (first | (exact ⟨below_cellOf hbel (by assumption), below_cellOf hbel (by assumption)⟩) | go_keep)
            (first | (go_at_call 33; refine (laws_before.calls kk A1 c1 q1 A2 c2 q2 bb _ (Kd.C_below HC1.out ((Below.refl _ _).drew)) hc1 (Kd.C_below HC2.out ((Below.refl _ _).drew)) hc2 HEV.out).mono ?_; rintro e w6 ⟨rfl, hdw⟩; have hbel := hdw.below; have HD6 := Aside0.mk hdw; clear hdw))
          have h6 := HS.out.below ((Below.refl _ _).drew.trans (hbel.mono (by simp)))
          have HS6 := Aside0.mk h6
          have hpn6 : ps.length = n := by rw [h6.perm.length_eq, HP.out.2.1, HN.out]
          obtain ⟨g6, c6, he6, _, hcell6, cur6, hcur6⟩ := own_cells h6.own (by omega)
          have hgg6 : g = g6 := Option.some.inj (show (some g : Option Nat) = some g6 from congrArg Value.ownBlock he6)
          subst hgg6
          have HPN := Aside0.mk hpn6
          have fz1 := blk_frozen hcur6 m
          have fz2 := blk_frozen hcur6 i
          have hg6 := blk_lt hcur6
          have hbw6 : Below wr.heap.size wr w6 := (Below.refl _ _).drew.trans (hbel.mono (by simp))
          have r1 : w6.cell? ⟨g, m, none⟩ = some (.slice A1 q1.length c1) := below_cellOf hbw6 hq1
          have r2 : w6.cell? ⟨g, i, none⟩ = some (.slice A2 q2.length c2) := below_cellOf hbw6 hq2
          clear hbw6 hbel
          clear h6 hcell6 hcur6 he6 hpn6 hq1 hq2 hfz1 hfz2 hgl
          cases bb with
          | false =>
            have HU := Aside0.mk (HII.out.stop (.inr (by
              unfold leP
              rw [Nat.add_sub_cancel, HD.out.1, HD.out.2.1, HQE.out.1, HQE.out.2]
              exact HBB.out)))
            go_wp2
            go_roundw
            case rel => exact ⟨k + 1, by omega, by go_num, by omega, ⟨ps, HS6.out, HU.out⟩⟩
            case measure => simp [intOf]; omega
          | true =>
            have HI2 := Aside0.mk (HII.out.step (by omega) (by
              rw [Nat.add_sub_cancel, HD.out.1, HD.out.2.1, HQE.out.1, HQE.out.2]
              exact HBB.out))
            have HSW := Aside0.mk (show SrtS w ((w6.setCell ⟨g, m, none⟩ (.slice A2 q2.length c2)).setCell ⟨g, i, none⟩ (.slice A1 q1.length c1)).drew (.slice (some ⟨g, 0, none⟩) n VC) ps0 (swpP ps (i + 1)) by
              have h0 : w6.ownsRow w.heap.size 22 1 (.slice (some ⟨g, 0, none⟩) n VC) n (ps.map (·.1)) := by have h9 := HS6.out.own; rw [HPN.out] at h9; exact h9
              have h1 := own_put (own_put h0 m (.slice A2 q2.length c2)) i (.slice A1 q1.length c1)
              have e1 : ((ps.map (·.1)).set m (.slice A2 q2.length c2)).set i (.slice A1 q1.length c1) = (swpP ps (i + 1)).map (·.1) := by
                unfold swpP
                rw [Nat.add_sub_cancel, HD.out.1, HD.out.2.1, List.map_set, List.map_set, HD.out.2.2.1, HD.out.2.2.2, HM.out]
              rw [e1] at h1
              refine ⟨by rw [swpP_length, HPN.out]; exact h1, (swpP_perm ps (i + 1) (by omega) (by rw [HPN.out]; omega)).trans HS6.out.perm, ?_⟩
              have hge := own_base HS6.out.own g rfl
              exact (Below.setCell (Below.setCell HS6.out.bel (p := (⟨g, m, none⟩ : Addr)) hge _) (p := (⟨g, i, none⟩ : Addr)) hge _).drew)
            rw [Nat.add_sub_cancel] at HI2
            go_wp2_with fail
            go_region
            all_goals
              go_wp2
              exact ⟨⟨i, rfl, by omega, ⟨swpP ps (i + 1), HSW.out, HI2.out⟩⟩, by have := HM.out; simp [intOf]; omega⟩
    · have hkn2 : n ≤ k := by omega
      have H2 := Aside0.mk hS
      have hz : ps.map (·.2) = sortL xs := by
        rw [← HP.out.1]
        exact UpToP.sortL (by rw [HP.out.1]; exact HND.out) hS.perm (fun a b h1 h2 => hU a b h1 (by omega))
      have HZ := Aside0.mk hz
      clear HR0 hS hU hz hpn
      go_wp2
      go_ret
      exact ⟨_, ps, rfl, H2.out.own, HZ.out, fun p hp => HP.out.2.2 p (H2.out.perm.mem_iff.1 hp), H2.out.bel⟩

/-- what comes back shares what was handed over -/
theorem N_of_pairs {w w' : World} {v : Value} {ps : List VL} {ys : List (List Int)} (ho : w'.ownsRow w.heap.size 22 1 v ps.length (ps.map (·.1))) (he : ps.map (·.2) = ys) (hr : ∀ p ∈ ps, RdV w p) (hb : Below w.heap.size w w') : Kd.N (Kd.slice 3 (Kd.int .i64)) 22 w' w.heap.size (fun _ => True) v ys := by
  subst he
  refine ⟨fun _ _ => trivial, ps.map fun p => [p.1], by simp, ?_, fun j x c hx hc => ?_⟩
  · refine ⟨fun k hk => hk.symm, ps.map (·.1), by rw [List.length_map]; exact ho, ⟨by show (ps.map (·.1)).length = (ps.map fun p => [p.1]).length * 1; simp, fun j q hj => ?_⟩⟩
    rw [List.getElem?_map] at hj
    obtain ⟨p, hp, rfl⟩ := Option.map_eq_some_iff.1 hj
    obtain ⟨hl, hpe⟩ := List.getElem?_eq_some_iff.1 hp
    have e1 : ((ps.map (·.1)).drop (j * 1)).take 1 = [p.1] := by
      rw [Nat.mul_one, List.drop_eq_getElem_cons (by simpa using hl), List.getElem_map, hpe]; rfl
    have hone : ∀ u ∈ [p.1], u.oneCell' = true := by
      intro u hu
      rw [List.mem_singleton] at hu
      subst hu
      obtain ⟨A, c, e, _⟩ := hr p (hpe ▸ List.getElem_mem hl)
      rw [e]; rfl
    show ((ps.map (·.1)).drop (j * 1)).take 1 = [p.1] ∧ (((ps.map (·.1)).drop (j * 1)).take 1).length = 1 ∧ ∀ u ∈ ((ps.map (·.1)).drop (j * 1)).take 1, u.oneCell' = true
    rw [e1]
    exact ⟨rfl, rfl, hone⟩
  · rw [List.getElem?_map] at hx hc
    obtain ⟨p, hp, rfl⟩ := Option.map_eq_some_iff.1 hx
    obtain ⟨p', hp', rfl⟩ := Option.map_eq_some_iff.1 hc
    rw [hp] at hp'
    obtain rfl := Option.some.inj hp'
    obtain ⟨hl, hpe⟩ := List.getElem?_eq_some_iff.1 hp
    obtain ⟨A, c, e, hc2, hC⟩ := hr p (hpe ▸ List.getElem_mem hl)
    intro W2 hW
    refine ⟨A, c, by rw [e], hc2, ?_⟩
    obtain ⟨h1, h2, h3⟩ := hC
    refine ⟨h1, h2, fun h0 => ?_⟩
    obtain ⟨ad, rfl, h4⟩ := h3 h0
    refine ⟨ad, rfl, fun j q hj => ?_⟩
    obtain ⟨cs, h5, h6, h7⟩ := h4 j q hj
    refine ⟨cs, h5, h6, fun i u hu => ?_⟩
    have h8 := h7 i u hu
    have h9 := World.block_lt_of_cell? w _ h8
    have hne : some (ad.add (j * (Kd.int .i64).sz + i)).block ≠ v.ownBlock := fun e2 => by
      have := own_base ho _ e2.symm
      omega
    have h10 : W2.heap[(ad.add (j * (Kd.int .i64).sz + i)).block]? = w.heap[(ad.add (j * (Kd.int .i64).sz + i)).block]? := (hW _ ⟨trivial, hne⟩ (Nat.lt_of_lt_of_le h9 hb.size)).trans (hb.block _ h9)
    exact (World.cell?_of_block h10).trans h8
end Go.Proofs.YtolbfjjgdheikaaGreat.R
namespace Go.Proofs.YtolbfjjgdheikaaGreat.PL
open Go.RowKit Go.Lab Go.Proofs.YtolbfjjgdheikaaGreatW.PrintWords Go.Proofs.YtolbfjjgdheikaaGreatW.PrintLast Go.Proofs.YtolbfjjgdheikaaGreatW.PrintMore Go.Proofs.YtolbfjjgdheikaaGreat.R
def laws_sortedLists.f (l0 : List (List Int)) : Option (List (List Int)) := if (smallL l0 && decide l0.Nodup) = true then some (sortL l0) else none
theorem laws_sortedLists.calls (A0 : Option Addr) (c0 : Nat) (l0 : List (List Int)) (r : List (List Int)) (w : World) (hr0 : Kd.C (Kd.slice 3 (Kd.int .i64)) w A0 l0.length l0) (hc0 : l0.length ≤ c0) (h : laws_sortedLists.f l0 = some r) :
    Calls Tryz.prog 14 #[.slice A0 l0.length c0] w fun e w' => ∃ v0_ : Value, e = .returned (v0_) ∧ Kd.N (Kd.slice 3 (Kd.int .i64)) 22 w' w.heap.size (fun _ => True) v0_ r ∧ Below w.heap.size w w' := by
  unfold laws_sortedLists.f at h
  split at h
  · rename_i hs
    rw [Bool.and_eq_true, decide_eq_true_iff] at hs
    injection h with h
    subst h
    refine (sortedLists_any A0 c0 l0 w hr0 hs.1 hs.2).mono ?_
    rintro e w' ⟨v, ps, rfl, ho, he, hr, hb⟩
    exact ⟨v, rfl, N_of_pairs ho he hr hb, hb⟩
  · cases h
end Go.Proofs.YtolbfjjgdheikaaGreat.PL

/- What Components answers, in plain lists. -/
namespace Go.Proofs.YtolbfjjgdheikaaGreat.R
open Go.RowKit Go.Lab Go.Proofs.YtolbfjjgdheikaaGreatW.PrintWords PL Q

theorem srt_lt {xs : List Int} (h : xs.Nodup) : (srt xs).Pairwise (· < ·) := by
  have h1 : (srt xs).Nodup := (srt_perm xs).nodup_iff.2 h
  have h2 := srt_le xs
  rw [List.pairwise_iff_getElem] at h2 ⊢
  intro i j hi hj hij
  have h3 := h2 i j hi hj hij
  have h4 : (srt xs)[i] ≠ (srt xs)[j] := fun e => by
    have := (List.pairwise_iff_getElem.1 h1) i j hi hj hij
    exact this e
  omega
theorem srt_nodup {xs : List Int} (h : (srt xs).Pairwise (· < ·)) : xs.Nodup := by
  refine (srt_perm xs).nodup_iff.1 (h.imp (fun h => ?_))
  omega
theorem allV_ends' (walk : List Int → Int → Option (List Int)) (ns : List Int) (hw : ∀ vis, ∀ u ∈ ns, ∃ pt, walk vis u = some pt) : ∀ (l vis : List Int) (out : List (List Int)), (∀ u ∈ l, u ∈ ns) → ∃ r, allV walk l vis out = some r := by
  intro l
  induction l with
  | nil => intro vis out _; exact ⟨_, rfl⟩
  | cons u l ih =>
    intro vis out hl
    have hl2 : ∀ x ∈ l, x ∈ ns := fun x hx => hl x (by simp [hx])
    by_cases h : u ∈ vis
    · obtain ⟨r, hr⟩ := ih vis out hl2
      exact ⟨r, by rw [allV, if_pos h]; exact hr⟩
    · obtain ⟨pt, hpt⟩ := hw vis u (hl u (by simp))
      obtain ⟨r, hr⟩ := ih (vis ++ pt) (out ++ [pt]) hl2
      exact ⟨r, by rw [allV, if_neg h, hpt]; exact hr⟩
theorem walkD_some (zs : List Int) (es : List S34) (hz : zs.length ≤ 90) (vis : List Int) (u : Int) (hu : u ∈ zs) : ∃ pt, walkD zs es vis u = some pt := by
  refine dfsV_ends (outN zs es) vis zs (fun u v hv => (outN_mem hv).1) 9000 [u] [] (fun x hx => by simp at hx; subst hx; exact hu) ?_
  have := lefts_bound (fun u => (outN zs es u).length) 90 (fun u => Nat.le_trans (outN_len zs es u) hz) (vis ++ []) zs
  simp only [List.length_singleton]
  have h2 : zs.length * 90 ≤ 90 * 90 := Nat.mul_le_mul_right _ hz
  omega

theorem srt_part {ns pt : List Int} (hns : ns.Pairwise (· < ·)) (hnd : pt.Nodup) (hin : ∀ x ∈ pt, x ∈ ns) : srt pt = ns.filter fun v => decide (v ∈ pt) := by
  refine int_ext (srt_lt hnd) (hns.filter _) fun x => ?_
  rw [mem_srt, List.mem_filter]
  exact ⟨fun h => ⟨hin x h, decide_eq_true h⟩, fun h => of_decide_eq_true h.2⟩
/-- what Components answers of a good undirected graph -/
theorem comps_f (zs : List Int) (es : List S34) (hz : zs.length ≤ 90) (he : es.length ≤ 1000000) (hwf : ∀ x ∈ zs, (Lit.int .i64 x).wf = true) (hro : readOk zs es = true) :
    impl_Components.f false zs es = some (canonC (RchW (outN zs (dbl false es))) (srt zs), false) := by
  obtain ⟨h1, h2⟩ := read_good hro
  obtain ⟨out, hout⟩ := allV_ends' (walkD zs (dbl false es)) zs (fun vis u hu => walkD_some zs _ hz vis u hu) (srt zs) [] [] (fun u hu => (mem_srt _ _).1 hu)
  have hcs := parts_comps hro (walkD zs (dbl false es)) (fun vis u pt a b c => walkD_ok zs (dbl false es) vis u pt a b c) hout
  have hsy : ∀ u v, v ∈ outN zs (dbl false es) u → u ∈ outN zs (dbl false es) v := fun u v hv => outN_sym (outN_in (dbl_good (zs := zs) false h2) hv) hv
  have hcn := hcs.canon h1 hsy
  have hsm : out.map srt = canonC (RchW (outN zs (dbl false es))) (srt zs) := by
    rw [← hcn]
    refine List.map_congr_left fun pt hpt => ?_
    obtain ⟨u, hu, l, rfl, hm, hnd, _⟩ := hcs.parts pt hpt
    exact (srt_part h1 hnd (fun x hx => rch_in zs _ u hu x ((hm x).1 hx))).trans (List.filter_congr fun x _ => decide_eq_decide.2 Iff.rfl)
  have hns := hcs.srt_nodup (rch_in zs _)
  have hlex := canonC_lex (rch_eqv hsy) h1
  unfold impl_Components.f
  rw [if_pos ⟨hz, he, List.all_eq_true.2 hwf⟩, if_pos (by rw [hro]; rfl), hout]
  simp only [Option.map_some]
  have : sortL (out.map srt) = canonC (RchW (outN zs (dbl false es))) (srt zs) := by
    rw [hsm] at hns ⊢
    exact (sortL_eq hns (List.Perm.refl _) hlex).symm
  rw [this]
theorem canonC_small {zs : List Int} {R : Int → Int → Prop} (hE : Eqv R) (h1 : (srt zs).Pairwise (· < ·)) (hz : zs.length ≤ 1000) : smallL (canonC R (srt zs)) = true := by
  refine smallL_iff.2 ⟨?_, fun q hq => ?_⟩
  · unfold canonC
    rw [List.length_map]
    have := List.length_filter_le (fun u => (open Classical in decide (∀ w ∈ srt zs, R u w → u ≤ w))) (srt zs)
    rw [srt_length] at this
    omega
  · obtain ⟨w, hw, rfl⟩ := (canonC_mem hE h1 q).1 hq
    have := List.length_filter_le (fun x => (open Classical in decide (R w x))) (srt zs)
    rw [srt_length] at this
    omega
end Go.Proofs.YtolbfjjgdheikaaGreat.R
