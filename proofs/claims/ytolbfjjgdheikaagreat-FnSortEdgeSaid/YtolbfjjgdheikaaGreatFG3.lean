import Derived.Test.YtolbfjjgdheikaaGreatFV3
import Derived.Test.YtolbfjjgdheikaaGreatFV4
import Derived.Sort.Lot0
import Derived.Deep.RegionHeld3
set_option linter.unusedVariables false
set_option linter.unusedSimpArgs false
/- Plain laws: what the small functions answer. -/
namespace Go.Proofs.YtolbfjjgdheikaaGreat.Q
open Go.RowKit Go.Lab Go.Proofs.YtolbfjjgdheikaaGreatW.PrintWords PL
/-- two places exchanged -/
def swp2 (ys : List Int) (i : Nat) : List Int := (ys.set i (ys.getD (i - 1) 0)).set (i - 1) (ys.getD i 0)

/-- the state of the inner loop of sorted -/
structure Ins (xs ys : List Int) (k i : Nat) : Prop where
  perm : ys.Perm xs
  ik : i ≤ k
  kn : k < ys.length
  rest : ∀ a b, a < b → b ≤ k → a ≠ i → b ≠ i → ys.getD a 0 ≤ ys.getD b 0
  self : ∀ b, i < b → b ≤ k → ys.getD i 0 ≤ ys.getD b 0

theorem swp2_length (ys : List Int) (i : Nat) : (swp2 ys i).length = ys.length := by simp [swp2]

theorem swp2_get (ys : List Int) (i : Nat) (h0 : 0 < i) (hi : i < ys.length) (j : Nat) : (swp2 ys i).getD j 0 = if j = i then ys.getD (i - 1) 0 else if j = i - 1 then ys.getD i 0 else ys.getD j 0 := by
  unfold swp2
  simp only [List.getD_eq_getElem?_getD, List.getElem?_set, List.length_set]
  by_cases h1 : j = i
  · subst h1
    rw [if_neg (by omega), if_pos rfl, if_pos hi, if_pos rfl]; rfl
  · rw [if_neg h1]
    by_cases h2 : j = i - 1
    · subst h2
      rw [if_pos rfl, if_pos (by omega), if_pos rfl]; rfl
    · rw [if_neg (fun e => h2 e.symm), if_neg (fun e => h1 e.symm), if_neg h2]

theorem swp2_perm (ys : List Int) (i : Nat) (h0 : 0 < i) (hi : i < ys.length) : (swp2 ys i).Perm ys := by
  unfold swp2
  have h1 : ys.getD (i - 1) 0 = ys[i - 1] := by rw [List.getD_eq_getElem?_getD, List.getElem?_eq_getElem (by omega)]; rfl
  have h2 : ys.getD i 0 = ys[i] := by rw [List.getD_eq_getElem?_getD, List.getElem?_eq_getElem hi]; rfl
  rw [h1, h2]
  exact Go.Sort.perm_set_set ys i (i - 1) hi (by omega)

theorem Ins.step {xs ys : List Int} {k i : Nat} (h : Ins xs ys k i) (h0 : 0 < i) (hlt : ys.getD i 0 < ys.getD (i - 1) 0) : Ins xs (swp2 ys i) k (i - 1) := by
  have hi : i < ys.length := by have := h.ik; have := h.kn; omega
  have g := swp2_get ys i h0 hi
  refine ⟨(swp2_perm ys i h0 hi).trans h.perm, by have := h.ik; omega, by rw [swp2_length]; exact h.kn, ?_, ?_⟩
  · intro a b hab hbk ha hb
    rw [g, g]
    by_cases h1 : a = i
    · rw [if_pos h1, if_neg (by omega), if_neg (by omega)]
      exact h.rest (i - 1) b (by omega) hbk (by omega) (by omega)
    · rw [if_neg h1, if_neg ha]
      by_cases h2 : b = i
      · rw [if_pos h2]; exact h.rest a (i - 1) (by omega) (by have := h.ik; omega) h1 (by omega)
      · rw [if_neg h2, if_neg hb]; exact h.rest a b hab hbk h1 h2
  · intro b hb hbk
    rw [g, g, if_neg (by omega), if_pos rfl]
    by_cases h2 : b = i
    · rw [if_pos h2]; omega
    · rw [if_neg h2, if_neg (by omega)]; exact h.self b (by omega) hbk

/-- the first k places ascend -/
def UpTo (ys : List Int) (k : Nat) : Prop := ∀ a b, a < b → b < k → ys.getD a 0 ≤ ys.getD b 0

theorem Ins.start {xs ys : List Int} {k : Nat} (hp : ys.Perm xs) (hk : k < ys.length) (hu : UpTo ys k) : Ins xs ys k k :=
  ⟨hp, Nat.le_refl _, hk, fun a b hab hbk _ hb => hu a b hab (by omega), fun b h1 h2 => by omega⟩

theorem Ins.stop {xs ys : List Int} {k i : Nat} (h : Ins xs ys k i) (hs : i = 0 ∨ ys.getD (i - 1) 0 ≤ ys.getD i 0) : UpTo ys (k + 1) := by
  intro a b hab hbk
  by_cases h1 : a = i
  · subst h1; exact h.self b hab (by omega)
  · by_cases h2 : b = i
    · subst h2
      rcases hs with hs | hs
      · omega
      · by_cases h3 : a = b - 1
        · subst h3; exact hs
        · exact Int.le_trans (h.rest a (b - 1) (by omega) (by omega) h1 (by omega)) hs
    · exact h.rest a b hab (by omega) h1 h2

theorem UpTo.srt {xs ys : List Int} (hp : ys.Perm xs) (h : UpTo ys ys.length) : ys = srt xs := by
  have h1 : ys.Pairwise (· ≤ ·) := by
    rw [List.pairwise_iff_getElem]
    intro i j hi hj hij
    have := h i j hij hj
    simpa [List.getD_eq_getElem?_getD, hi, hj] using this
  exact (hp.trans (srt_perm xs).symm).eq_of_pairwise (le := (· ≤ ·)) (fun a b _ _ h1 h2 => Int.le_antisymm h1 h2) h1 (srt_le xs)

theorem rd_getD (ys : List Int) (i : Nat) : rd ys (i : Int) = ys.getD i 0 := by unfold rd; rw [Int.toNat_natCast]

/-- laws.sorted sorts -/
theorem sorted_l0 (xs : List Int) (hl : xs.length ≤ 100000) : ∀ (d kk : Nat) (ys : List Int), xs.length - kk ≤ d → ys.Perm xs → UpTo ys kk → 1 ≤ kk → ∃ k0, laws_sorted.l0 k0 ys (kk : Int) = some (srt xs) := by
  intro d
  induction d with
  | zero =>
    intro kk ys hd hp hu h1
    have hlen := hp.length_eq
    refine ⟨1, ?_⟩
    simp only [laws_sorted.l0]
    rw [if_neg (by omega)]
    have hz : ys = srt xs := UpTo.srt hp (fun a b hab hb => hu a b hab (by omega))
    rw [hz]
  | succ d ih =>
    intro kk ys hd hp hu h1
    have hlen := hp.length_eq
    by_cases hlt : kk < xs.length
    · have inner : ∀ (i : Nat) (zs : List Int), Ins xs zs kk i → ∃ k0, laws_sorted.l1 k0 zs (kk : Int) (i : Int) = some (srt xs) := by
        intro i
        induction i with
        | zero =>
          intro zs hI
          obtain ⟨k0, h0⟩ := ih (kk + 1) zs (by omega) hI.perm (hI.stop (.inl rfl)) (by omega)
          refine ⟨k0 + 1, ?_⟩
          simp only [laws_sorted.l1]
          have w2 : wrap64 ((kk : Int) + 1) = ((kk + 1 : Nat) : Int) := by unfold wrap64; omega
          rw [if_neg (by omega), w2, h0]
        | succ i ihi =>
          intro zs hI
          have hzl := hI.perm.length_eq
          have hik := hI.ik
          have w1 : wrap64 (((i + 1 : Nat) : Int) - 1) = (i : Int) := by unfold wrap64; omega
          have w2 : wrap64 ((kk : Int) + 1) = ((kk + 1 : Nat) : Int) := by unfold wrap64; omega
          by_cases hs : zs.getD (i + 1) 0 < zs.getD i 0
          · have hI2 := hI.step (by omega) (by simpa using hs)
            rw [Nat.add_sub_cancel] at hI2
            obtain ⟨k0, h0⟩ := ihi _ hI2
            refine ⟨k0 + 1, ?_⟩
            simp only [laws_sorted.l1]
            rw [w1, rd_getD, rd_getD, if_pos (by omega), if_pos (by omega), if_pos (by omega), if_pos (by omega), if_pos (by omega), if_pos hs, Int.toNat_natCast, Int.toNat_natCast]
            unfold swp2 at h0
            simpa using h0
          · obtain ⟨k0, h0⟩ := ih (kk + 1) zs (by omega) hI.perm (hI.stop (.inr (by rw [Nat.add_sub_cancel]; omega))) (by omega)
            refine ⟨k0 + 1, ?_⟩
            simp only [laws_sorted.l1]
            rw [w1, rd_getD, rd_getD, if_pos (by omega), if_pos (by omega), if_pos (by omega), if_pos (by omega), if_pos (by omega), if_neg hs, w2, h0]
      obtain ⟨k0, h0⟩ := inner kk ys (Ins.start hp (by omega) hu)
      refine ⟨k0 + 1, ?_⟩
      simp only [laws_sorted.l0]
      rw [if_pos (by omega), h0]
    · refine ⟨1, ?_⟩
      simp only [laws_sorted.l0]
      rw [if_neg (by omega)]
      have hz : ys = srt xs := UpTo.srt hp (fun a b hab hb => hu a b hab (by omega))
      rw [hz]

theorem sorted_f (xs : List Int) (hl : xs.length ≤ 100000) : ∃ k0, laws_sorted.f k0 xs = some (srt xs) := by
  obtain ⟨k0, h0⟩ := sorted_l0 xs hl xs.length 1 xs (by omega) (List.Perm.refl _) (fun a b h1 h2 => by omega) (Nat.le_refl _)
  refine ⟨k0, ?_⟩
  unfold laws_sorted.f slices_Clone_int_int_34.f
  rw [if_pos hl]
  exact h0
end Go.Proofs.YtolbfjjgdheikaaGreat.Q
namespace Go.Proofs.YtolbfjjgdheikaaGreat.R
open Go.RowKit Go.Lab Go.Proofs.YtolbfjjgdheikaaGreatW.PrintWords PL Q
theorem rising_l0 (l : List Int) (hl : l.length ≤ 100000) : ∀ (d k i : Nat), 1 ≤ i → l.length - i ≤ d → d < k →
    ∃ b, laws_rising.l0 k l (i : Int) = some b ∧ (b = true ↔ (∀ a, i - 1 ≤ a → a + 1 < l.length → l.getD a 0 < l.getD (a + 1) 0)) := by
  intro d
  induction d with
  | zero =>
    intro k i hi hd hk
    obtain ⟨k, rfl⟩ : ∃ m, k = m + 1 := ⟨k - 1, by omega⟩
    simp only [laws_rising.l0]
    rw [if_neg (by omega)]
    exact ⟨true, rfl, fun _ a h1 h2 => by omega, fun _ => rfl⟩
  | succ d ih =>
    intro k i hi hd hk
    obtain ⟨k, rfl⟩ : ∃ m, k = m + 1 := ⟨k - 1, by omega⟩
    simp only [laws_rising.l0]
    by_cases hlt : i < l.length
    · have w1 : wrap64 ((i : Int) - 1) = ((i - 1 : Nat) : Int) := by unfold wrap64; omega
      have w2 : wrap64 ((i : Int) + 1) = ((i + 1 : Nat) : Int) := by unfold wrap64; omega
      rw [if_pos (by omega), w1, if_pos (by omega), if_pos (by omega), if_pos (by omega), w2]
      have r1 : rd l ((i - 1 : Nat) : Int) = l.getD (i - 1) 0 := by unfold rd; rw [Int.toNat_natCast]
      have r2 : rd l (i : Int) = l.getD i 0 := by unfold rd; rw [Int.toNat_natCast]
      rw [r1, r2]
      by_cases hge : l.getD (i - 1) 0 ≥ l.getD i 0
      · rw [if_pos hge]
        refine ⟨false, rfl, fun h => (by cases h), fun h => ?_⟩
        have := h (i - 1) (Nat.le_refl _) (by omega)
        rw [show i - 1 + 1 = i by omega] at this
        omega
      · rw [if_neg hge]
        obtain ⟨b, hb1, hb2⟩ := ih k (i + 1) (by omega) (by omega) (by omega)
        refine ⟨b, hb1, ?_⟩
        rw [hb2]
        constructor
        · intro h a h1 h2
          by_cases ha : a = i - 1
          · subst ha; rw [show i - 1 + 1 = i by omega]; omega
          · exact h a (by omega) h2
        · intro h a h1 h2
          exact h a (by omega) h2
    · rw [if_neg (by omega)]
      exact ⟨true, rfl, fun _ a h1 h2 => by omega, fun _ => rfl⟩

theorem adj_pairwise (l : List Int) : (∀ a, 1 - 1 ≤ a → a + 1 < l.length → l.getD a 0 < l.getD (a + 1) 0) ↔ l.Pairwise (· < ·) := by
  constructor
  · intro h
    have hadj : ∀ j (hj : j + 1 < l.length), l[j] < l[j + 1] := by
      intro j hj
      have := h j (by omega) hj
      have e1 : l.getD j 0 = l[j] := by rw [List.getD_eq_getElem?_getD, List.getElem?_eq_getElem (by omega)]; rfl
      have e2 : l.getD (j + 1) 0 = l[j + 1] := by rw [List.getD_eq_getElem?_getD, List.getElem?_eq_getElem hj]; rfl
      rw [e1, e2] at this; exact this
    have hmono : ∀ i k, (hk : i + k + 1 < l.length) → l[i]'(by omega) < l[i + k + 1] := by
      intro i k
      induction k with
      | zero => intro hk; exact hadj i hk
      | succ k ih =>
        intro hk
        exact Int.lt_trans (ih (by omega)) (hadj (i + k + 1) (by omega))
    rw [List.pairwise_iff_getElem]
    intro i j hi hj hij
    have := hmono i (j - i - 1) (by omega)
    have e : i + (j - i - 1) + 1 = j := by omega
    simp only [e] at this
    exact this
  · intro h a _ ha
    have e1 : l.getD a 0 = l[a] := by rw [List.getD_eq_getElem?_getD, List.getElem?_eq_getElem (by omega)]; rfl
    have e2 : l.getD (a + 1) 0 = l[a + 1] := by rw [List.getD_eq_getElem?_getD, List.getElem?_eq_getElem ha]; rfl
    rw [e1, e2]
    exact (List.pairwise_iff_getElem.1 h) a (a + 1) (by omega) ha (by omega)


theorem rising_ev (l : List Int) (hl : l.length ≤ 100000) : Ev (fun k => laws_rising.f k l) (decide (l.Pairwise (· < ·))) := by
  obtain ⟨b, h1, h2⟩ := rising_l0 l hl l.length (l.length + 1) 1 (Nat.le_refl _) (by omega) (by omega)
  refine Ev.of (laws_rising.mono l) (k := l.length + 1) ?_
  unfold laws_rising.f
  rw [show (1 : Int) = ((1 : Nat) : Int) from rfl, h1]
  congr 1
  rw [adj_pairwise] at h2
  cases b with
  | true => exact (decide_eq_true (h2.1 rfl)).symm
  | false => exact (decide_eq_false (fun h => by have := h2.2 h; cases this)).symm

theorem index_ev (l : List Int) (x : Int) (hl : l.length ≤ 100000) : ∀ m i, l.length - i ≤ m → i ≤ l.length → ∃ r, Ev (fun k => laws_index.l0 k l x (i : Int)) r ∧ (r ≥ 0 ↔ x ∈ l.drop i)
  | 0, i, hm, hi => by
    refine ⟨-1, Ev.step (fun k => ?_) (Ev.now _), ?_⟩
    · simp only [laws_index.l0]
      rw [if_neg (by omega)]
    · rw [List.drop_eq_nil_of_le (by omega)]; simp
  | m + 1, i, hm, hi => by
    by_cases hlt : i < l.length
    · have w2 : wrap64 ((i : Int) + 1) = ((i + 1 : Nat) : Int) := by unfold wrap64; omega
      have r2 : rd l (i : Int) = l[i] := by unfold rd; rw [Int.toNat_natCast, List.getD_eq_getElem?_getD, List.getElem?_eq_getElem hlt]; rfl
      by_cases hx : l[i] = x
      · refine ⟨(i : Int), Ev.step (fun k => ?_) (Ev.now _), ?_⟩
        · simp only [laws_index.l0]
          rw [if_pos (by omega), if_pos (by omega), r2, if_pos hx]
        · rw [List.drop_eq_getElem_cons hlt, hx]; simp
      · obtain ⟨r, h1, h2⟩ := index_ev l x hl m (i + 1) (by omega) (by omega)
        refine ⟨r, Ev.step (fun k => ?_) h1, ?_⟩
        · simp only [laws_index.l0]
          rw [if_pos (by omega), if_pos (by omega), r2, if_neg hx, w2]
        · rw [h2, List.drop_eq_getElem_cons hlt, List.mem_cons]
          constructor
          · exact .inr
          · rintro (h | h)
            · exact absurd h.symm hx
            · exact h
    · refine ⟨-1, Ev.step (fun k => ?_) (Ev.now _), ?_⟩
      · simp only [laws_index.l0]
        rw [if_neg (by omega)]
      · rw [List.drop_eq_nil_of_le (by omega)]; simp

theorem has_ev (l : List Int) (x : Int) (hl : l.length ≤ 100000) : Ev (fun k => laws_has.f k l x) (decide (x ∈ l)) := by
  obtain ⟨r, h1, h2⟩ := index_ev l x hl l.length 0 (by omega) (Nat.zero_le _)
  have h3 : Ev (fun k => laws_index.f k l x) r := Ev.congr (fun k => rfl) h1
  refine Ev.congr (fun k => ?_) (Ev.bind h3 (f := fun _ t => some (decide (t ≥ 0))) ?_)
  · rfl
  · have : decide (r ≥ 0) = decide (x ∈ l) := by rw [decide_eq_decide, h2, List.drop_zero]
    rw [this]; exact Ev.now _

theorem rdT (es : List S34) (i : Nat) (h : i < es.length) : rd_T34 es (i : Int) = es[i] := by unfold rd_T34; simp [List.getD_eq_getElem?_getD, h]

theorem well_l0 (d : Bool) (zs : List Int) (es : List S34) (hz : zs.length ≤ 100000) (he : es.length ≤ 100000) : ∀ m i, es.length - i ≤ m → i ≤ es.length → Ev (fun k => laws_well.l0 k (i : Int) d zs es) ((es.drop i).all (goodE zs))
  | 0, i, hm, hi => by
    refine Ev.step (fun k => ?_) (Ev.now _)
    simp only [laws_well.l0]
    rw [if_neg (by omega), List.drop_eq_nil_of_le (by omega)]; rfl
  | m + 1, i, hm, hi => by
    by_cases hlt : i < es.length
    · have w2 : wrap64 ((i : Int) + 1) = ((i + 1 : Nat) : Int) := by unfold wrap64; omega
      have ih := well_l0 d zs es hz he m (i + 1) (by omega) (by omega)
      have hd : (es.drop i).all (goodE zs) = (goodE zs es[i] && (es.drop (i + 1)).all (goodE zs)) := by rw [List.drop_eq_getElem_cons hlt]; rfl
      rw [hd]
      have hr := rdT es i hlt
      generalize es[i] = e at hr
      by_cases h0 : e.f0 = e.f1
      · refine Ev.step (fun k => ?_) (Ev.now _)
        simp only [laws_well.l0]
        rw [if_pos (by omega), if_pos (by omega), hr, if_pos h0]
        have : goodE zs e = false := by unfold goodE; simp [h0]
        rw [this]; rfl
      · have a1 := has_ev zs e.f0 hz
        have a2 := has_ev zs e.f1 hz
        refine Ev.step (f := fun k => (laws_has.f k zs e.f0).bind fun t122 => (if t122 = true then ((laws_has.f k zs e.f1).bind fun t123 => (if t123 = true then (if e.f2 > 1099511627776 then (some false) else (if e.f2 < (-1099511627776) then (some false) else (laws_well.l0 k (wrap64 ((i : Int) + 1)) d zs es))) else (some false))) else (some false))) (fun k => ?_) ?_
        · simp only [laws_well.l0]
          rw [if_pos (by omega), if_pos (by omega), hr, if_neg h0]
        · by_cases m1 : e.f0 ∈ zs
          · by_cases m2 : e.f1 ∈ zs
            · rw [decide_eq_true m1] at a1
              rw [decide_eq_true m2] at a2
              by_cases g1 : 1099511627776 < e.f2
              · have hg : goodE zs e = false := by unfold goodE; simp [g1]
                rw [hg]
                refine Ev.bind a1 (Ev.congr (fun k => if_pos rfl) (Ev.bind a2 (Ev.congr (fun k => ?_) (Ev.now _))))
                rw [if_pos rfl, if_pos g1]; rfl
              · by_cases g2 : e.f2 < -1099511627776
                · have hg : goodE zs e = false := by unfold goodE; simp [g2]
                  rw [hg]
                  refine Ev.bind a1 (Ev.congr (fun k => if_pos rfl) (Ev.bind a2 (Ev.congr (fun k => ?_) (Ev.now _))))
                  rw [if_pos rfl, if_neg g1, if_pos g2]; rfl
                · have hg : goodE zs e = true := by unfold goodE; simp [m1, m2, h0, g1, g2]
                  rw [hg, Bool.true_and]
                  refine Ev.bind a1 (Ev.congr (fun k => if_pos rfl) (Ev.bind a2 (Ev.congr (fun k => ?_) ih)))
                  rw [if_pos rfl, if_neg g1, if_neg g2, w2]
            · rw [decide_eq_true m1] at a1
              rw [decide_eq_false m2] at a2
              have hg : goodE zs e = false := by unfold goodE; simp [m2]
              rw [hg]
              exact Ev.bind a1 (Ev.congr (fun k => if_pos rfl) (Ev.bind a2 (Ev.congr (fun k => if_neg (by simp)) (Ev.now _))))
          · rw [decide_eq_false m1] at a1
            have hg : goodE zs e = false := by unfold goodE; simp [m1]
            rw [hg]
            exact Ev.bind a1 (Ev.congr (fun k => if_neg (by simp)) (Ev.now _))
    · refine Ev.step (fun k => ?_) (Ev.now _)
      simp only [laws_well.l0]
      rw [if_neg (by omega), List.drop_eq_nil_of_le (by omega)]; rfl

theorem well_ev (d : Bool) (zs : List Int) (es : List S34) (hz : zs.length ≤ 1000) (he : es.length ≤ 100000) : Ev (fun k => laws_well.f k d zs es) (readOk zs es) := by
  obtain ⟨k0, h0⟩ := sorted_f zs (by omega)
  have h1 := Ev.of (laws_sorted.mono zs) h0
  have h2 := rising_ev (srt zs) (by rw [srt_length]; omega)
  refine Ev.bind h1 (Ev.bind h2 ?_)
  unfold readOk
  by_cases hs : (srt zs).Pairwise (· < ·)
  · rw [decide_eq_true hs, Bool.true_and]
    refine Ev.congr (fun k => if_pos rfl) ?_
    have := well_l0 d zs es (by omega) he es.length 0 (by omega) (Nat.zero_le _)
    rw [List.drop_zero] at this
    exact this
  · rw [decide_eq_false hs, Bool.false_and]
    exact Ev.congr (fun k => if_neg (by simp)) (Ev.now _)

/-- which graphs fewOf takes -/
def fewB (d want : Bool) (zs : List Int) (es : List S34) (n : Nat) : Bool := (d == want) && (decide (zs.length ≤ n) && (decide (es.length ≤ 8 * n) && readOk zs es))

theorem fewOf_ev (d want : Bool) (zs : List Int) (es : List S34) (n : Nat) (hn : n ≤ 1000) : Ev (fun k => laws_fewOf.f k d zs es want (n : Int)) (fewB d want zs es n) := by
  unfold fewB
  by_cases hd : (d == want) = true
  · rw [hd, Bool.true_and]
    refine Ev.congr (f := fun k => (laws_few.f k d zs es (n : Int)).bind fun t127 => (some t127)) (fun k => ?_) (Ev.bind (a := (decide (zs.length ≤ n) && (decide (es.length ≤ 8 * n) && readOk zs es))) ?_ (Ev.now _))
    · unfold laws_fewOf.f; rw [if_pos hd]
    · have hw : wrap64 (8 * (n : Int)) = 8 * (n : Int) := by unfold wrap64; omega
      by_cases h1 : zs.length ≤ n
      · by_cases h2 : es.length ≤ 8 * n
        · rw [decide_eq_true h1, decide_eq_true h2, Bool.true_and, Bool.true_and]
          refine Ev.congr (f := fun k => (laws_well.f k d zs es).bind fun t125 => (some t125)) (fun k => ?_) (Ev.bind (well_ev d zs es (by omega) (by omega)) (Ev.now _))
          unfold laws_few.f
          rw [if_pos (by omega), hw, if_pos (by omega)]
        · rw [decide_eq_true h1, decide_eq_false h2, Bool.true_and, Bool.false_and]
          refine Ev.congr (fun k => ?_) (Ev.now _)
          unfold laws_few.f
          rw [if_pos (by omega), hw, if_neg (by omega)]
      · rw [decide_eq_false h1, Bool.false_and]
        refine Ev.congr (fun k => ?_) (Ev.now _)
        unfold laws_few.f
        rw [if_neg (by omega)]
  · have : (d == want) = false := by simpa using hd
    rw [this, Bool.false_and]
    refine Ev.congr (fun k => ?_) (Ev.now _)
    unfold laws_fewOf.f
    rw [if_neg hd]

end Go.Proofs.YtolbfjjgdheikaaGreat.R

/- laws.sameLists, in the printed contracts' form. -/
namespace Go.Proofs.YtolbfjjgdheikaaGreat.R
open Go.RowKit Go.Lab Go.Maps Go.Proofs.YtolbfjjgdheikaaGreatW.PrintWords Go.Proofs.YtolbfjjgdheikaaGreatW.PrintLast Go.Proofs.YtolbfjjgdheikaaGreatW.PrintMore PL Q

end Go.Proofs.YtolbfjjgdheikaaGreat.R
namespace Go.Proofs.YtolbfjjgdheikaaGreat.PL
open Go.RowKit Go.Lab Go.Proofs.YtolbfjjgdheikaaGreatW.PrintWords Go.Proofs.YtolbfjjgdheikaaGreatW.PrintLast Go.Proofs.YtolbfjjgdheikaaGreatW.PrintMore Go.Proofs.YtolbfjjgdheikaaGreat.R
end Go.Proofs.YtolbfjjgdheikaaGreat.PL

/- laws.sortedLists, in the printed contracts' form. -/
namespace Go.Proofs.YtolbfjjgdheikaaGreat.R
open Go.RowKit Go.Lab Go.Maps Go.Proofs.YtolbfjjgdheikaaGreatW.PrintWords Go.Proofs.YtolbfjjgdheikaaGreatW.PrintLast Go.Proofs.YtolbfjjgdheikaaGreatW.PrintMore PL Q

abbrev VL := Value × List Int
def vl0 : VL := (.slice none 0 0, [])
def leP (a b : VL) : Prop := lexB b.2 a.2 = false
theorem leP.trans {a b c : VL} (h1 : leP a b) (h2 : leP b c) : leP a c := lexB_ntrans h2 h1
/-- two places exchanged -/
def swpP (ys : List VL) (i : Nat) : List VL := (ys.set i (ys.getD (i - 1) vl0)).set (i - 1) (ys.getD i vl0)
structure InsP (xs ys : List VL) (k i : Nat) : Prop where
  perm : ys.Perm xs
  ik : i ≤ k
  kn : k < ys.length
  rest : ∀ a b, a < b → b ≤ k → a ≠ i → b ≠ i → leP (ys.getD a vl0) (ys.getD b vl0)
  self : ∀ b, i < b → b ≤ k → leP (ys.getD i vl0) (ys.getD b vl0)
theorem swpP_length (ys : List VL) (i : Nat) : (swpP ys i).length = ys.length := by simp [swpP]
theorem swpP_get (ys : List VL) (i : Nat) (h0 : 0 < i) (hi : i < ys.length) (j : Nat) : (swpP ys i).getD j vl0 = if j = i then ys.getD (i - 1) vl0 else if j = i - 1 then ys.getD i vl0 else ys.getD j vl0 := by
  unfold swpP
  simp only [List.getD_eq_getElem?_getD, List.getElem?_set, List.length_set]
  by_cases h1 : j = i
  · subst h1
    rw [if_neg (by omega), if_pos rfl, if_pos hi, if_pos rfl]; rfl
  · rw [if_neg h1]
    by_cases h2 : j = i - 1
    · subst h2
      rw [if_pos rfl, if_pos (by omega), if_pos rfl]; rfl
    · rw [if_neg (fun e => h2 e.symm), if_neg (fun e => h1 e.symm), if_neg h2]
theorem swpP_perm (ys : List VL) (i : Nat) (h0 : 0 < i) (hi : i < ys.length) : (swpP ys i).Perm ys := by
  unfold swpP
  have h1 : ys.getD (i - 1) vl0 = ys[i - 1] := by rw [List.getD_eq_getElem?_getD, List.getElem?_eq_getElem (by omega)]; rfl
  have h2 : ys.getD i vl0 = ys[i] := by rw [List.getD_eq_getElem?_getD, List.getElem?_eq_getElem hi]; rfl
  rw [h1, h2]
  exact Go.Sort.perm_set_set ys i (i - 1) hi (by omega)
theorem InsP.step {xs ys : List VL} {k i : Nat} (h : InsP xs ys k i) (h0 : 0 < i) (hlt : lexB (ys.getD i vl0).2 (ys.getD (i - 1) vl0).2 = true) : InsP xs (swpP ys i) k (i - 1) := by
  have hi : i < ys.length := by have := h.ik; have := h.kn; omega
  have g := swpP_get ys i h0 hi
  refine ⟨(swpP_perm ys i h0 hi).trans h.perm, by have := h.ik; omega, by rw [swpP_length]; exact h.kn, ?_, ?_⟩
  · intro a b hab hbk ha hb
    rw [g, g]
    by_cases h1 : a = i
    · rw [if_pos h1, if_neg (by omega), if_neg (by omega)]
      exact h.rest (i - 1) b (by omega) hbk (by omega) (by omega)
    · rw [if_neg h1, if_neg ha]
      by_cases h2 : b = i
      · rw [if_pos h2]; exact h.rest a (i - 1) (by omega) (by have := h.ik; omega) h1 (by omega)
      · rw [if_neg h2, if_neg hb]; exact h.rest a b hab hbk h1 h2
  · intro b hb hbk
    rw [g, g, if_neg (by omega), if_pos rfl]
    by_cases h2 : b = i
    · rw [if_pos h2]; exact lexB_asymm hlt
    · rw [if_neg h2, if_neg (by omega)]; exact h.self b (by omega) hbk
def UpToP (ys : List VL) (k : Nat) : Prop := ∀ a b, a < b → b < k → leP (ys.getD a vl0) (ys.getD b vl0)
theorem InsP.start {xs ys : List VL} {k : Nat} (hp : ys.Perm xs) (hk : k < ys.length) (hu : UpToP ys k) : InsP xs ys k k :=
  ⟨hp, Nat.le_refl _, hk, fun a b hab hbk _ hb => hu a b hab (by omega), fun b h1 h2 => by omega⟩
theorem InsP.stop {xs ys : List VL} {k i : Nat} (h : InsP xs ys k i) (hs : i = 0 ∨ leP (ys.getD (i - 1) vl0) (ys.getD i vl0)) : UpToP ys (k + 1) := by
  intro a b hab hbk
  by_cases h1 : a = i
  · subst h1; exact h.self b hab (by omega)
  · by_cases h2 : b = i
    · subst h2
      rcases hs with hs | hs
      · omega
      · by_cases h3 : a = b - 1
        · subst h3; exact hs
        · exact (h.rest a (b - 1) (by omega) (by omega) h1 (by omega)).trans hs
    · exact h.rest a b hab (by omega) h1 h2
theorem UpToP.sortL {xs ys : List VL} (hn : (xs.map (·.2)).Nodup) (hp : ys.Perm xs) (h : UpToP ys ys.length) : ys.map (·.2) = sortL (xs.map (·.2)) := by
  have hp2 := hp.map (·.2)
  refine sortL_eq hn hp2 ?_
  have h1 : (ys.map (·.2)).Pairwise fun x y => lexB y x = false := by
    rw [List.pairwise_map, List.pairwise_iff_getElem]
    intro i j hi hj hij
    have := h i j hij hj
    unfold leP at this
    rw [List.getD_eq_getElem?_getD, List.getD_eq_getElem?_getD, List.getElem?_eq_getElem hi, List.getElem?_eq_getElem hj] at this
    exact this
  refine (h1.and (hp2.nodup_iff.2 hn)).imp ?_
  rintro x y ⟨h1, h3⟩
  cases h4 : lexB x y with
  | true => rfl
  | false => exact absurd (lexB_total h4 h1) h3

/-- the state of sortedLists -/
structure SrtS (w wr : World) (v : Value) (xs ps : List VL) : Prop where
  own : wr.ownsRow w.heap.size 22 1 v ps.length (ps.map (·.1))
  perm : ps.Perm xs
  bel : Below w.heap.size w wr
theorem SrtS.below {w wr w1 : World} {v : Value} {xs ps : List VL} (h : SrtS w wr v xs ps) (hb : Below wr.heap.size wr w1) : SrtS w w1 v xs ps :=
  ⟨own_of_heap h.own (fun k hk => hb.block k (by obtain ⟨c, hc⟩ := own_block h.own hk; exact blk_lt hc)), h.perm, h.bel.trans (hb.mono h.bel.size)⟩

end Go.Proofs.YtolbfjjgdheikaaGreat.R
namespace Go.Proofs.YtolbfjjgdheikaaGreat.PL
open Go.RowKit Go.Lab Go.Proofs.YtolbfjjgdheikaaGreatW.PrintWords Go.Proofs.YtolbfjjgdheikaaGreatW.PrintLast Go.Proofs.YtolbfjjgdheikaaGreatW.PrintMore Go.Proofs.YtolbfjjgdheikaaGreat.R
end Go.Proofs.YtolbfjjgdheikaaGreat.PL

/- What Components answers, in plain lists. -/
namespace Go.Proofs.YtolbfjjgdheikaaGreat.R
open Go.RowKit Go.Lab Go.Proofs.YtolbfjjgdheikaaGreatW.PrintWords PL Q

theorem srt_lt {xs : List Int} (h : xs.Nodup) : (srt xs).Pairwise (· < ·) := by
  have h1 : (srt xs).Nodup := (srt_perm xs).nodup_iff.2 h
  have h2 := srt_le xs
  rw [List.pairwise_iff_getElem] at h2 ⊢
  intro i j hi hj hij
  have h3 := h2 i j hi hj hij
  have h4 : (srt xs)[i] ≠ (srt xs)[j] := fun e => by
    have := (List.pairwise_iff_getElem.1 h1) i j hi hj hij
    exact this e
  omega
theorem srt_nodup {xs : List Int} (h : (srt xs).Pairwise (· < ·)) : xs.Nodup := by
  refine (srt_perm xs).nodup_iff.1 (h.imp (fun h => ?_))
  omega
theorem srt_part {ns pt : List Int} (hns : ns.Pairwise (· < ·)) (hnd : pt.Nodup) (hin : ∀ x ∈ pt, x ∈ ns) : srt pt = ns.filter fun v => decide (v ∈ pt) := by
  refine int_ext (srt_lt hnd) (hns.filter _) fun x => ?_
  rw [mem_srt, List.mem_filter]
  exact ⟨fun h => ⟨hin x h, decide_eq_true h⟩, fun h => of_decide_eq_true h.2⟩
end Go.Proofs.YtolbfjjgdheikaaGreat.R
