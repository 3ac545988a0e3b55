import Derived.Test.YtlokbaljkmblaaaP3
namespace Go.Proofs.Ytlokbaljkmblaaa
open Go.RowKit Go.Lab Go.Proofs.YtlokbaljkmblaaaW.PrintWords Go.Proofs.YtlokbaljkmblaaaW.PrintLast Go.Proofs.YtlokbaljkmblaaaW.PrintMore PFnIsPathJoined

theorem rising_l0 (l : List Int) (hl : l.length ≤ 100000) : ∀ (d k i : Nat), 1 ≤ i → l.length - i ≤ d → d < k →
    ∃ b, laws_rising.l0 k l (i : Int) = some b ∧ (b = true ↔ (∀ a, i - 1 ≤ a → a + 1 < l.length → l.getD a 0 < l.getD (a + 1) 0)) := by
  intro d
  induction d with
  | zero =>
    intro k i hi hd hk
    obtain ⟨k, rfl⟩ : ∃ m, k = m + 1 := ⟨k - 1, by omega⟩
    simp only [laws_rising.l0]
    rw [if_neg (by omega)]
    exact ⟨true, rfl, fun _ a h1 h2 => by omega, fun _ => rfl⟩
  | succ d ih =>
    intro k i hi hd hk
    obtain ⟨k, rfl⟩ : ∃ m, k = m + 1 := ⟨k - 1, by omega⟩
    simp only [laws_rising.l0]
    by_cases hlt : i < l.length
    · have w1 : wrap64 ((i : Int) - 1) = ((i - 1 : Nat) : Int) := by unfold wrap64; omega
      have w2 : wrap64 ((i : Int) + 1) = ((i + 1 : Nat) : Int) := by unfold wrap64; omega
      rw [if_pos (by omega), w1, if_pos (by omega), if_pos (by omega), if_pos (by omega), w2]
      have r1 : rd l ((i - 1 : Nat) : Int) = l.getD (i - 1) 0 := by unfold rd; rw [Int.toNat_natCast]
      have r2 : rd l (i : Int) = l.getD i 0 := by unfold rd; rw [Int.toNat_natCast]
      rw [r1, r2]
      by_cases hge : l.getD (i - 1) 0 ≥ l.getD i 0
      · rw [if_pos hge]
        refine ⟨false, rfl, fun h => (by cases h), fun h => ?_⟩
        have := h (i - 1) (Nat.le_refl _) (by omega)
        rw [show i - 1 + 1 = i by omega] at this
        omega
      · rw [if_neg hge]
        obtain ⟨b, hb1, hb2⟩ := ih k (i + 1) (by omega) (by omega) (by omega)
        refine ⟨b, hb1, ?_⟩
        rw [hb2]
        constructor
        · intro h a h1 h2
          by_cases ha : a = i - 1
          · subst ha; rw [show i - 1 + 1 = i by omega]; omega
          · exact h a (by omega) h2
        · intro h a h1 h2
          exact h a (by omega) h2
    · rw [if_neg (by omega)]
      exact ⟨true, rfl, fun _ a h1 h2 => by omega, fun _ => rfl⟩

theorem adj_pairwise (l : List Int) : (∀ a, 1 - 1 ≤ a → a + 1 < l.length → l.getD a 0 < l.getD (a + 1) 0) ↔ l.Pairwise (· < ·) := by
  constructor
  · intro h
    have hadj : ∀ j (hj : j + 1 < l.length), l[j] < l[j + 1] := by
      intro j hj
      have := h j (by omega) hj
      have e1 : l.getD j 0 = l[j] := by rw [List.getD_eq_getElem?_getD, List.getElem?_eq_getElem (by omega)]; rfl
      have e2 : l.getD (j + 1) 0 = l[j + 1] := by rw [List.getD_eq_getElem?_getD, List.getElem?_eq_getElem hj]; rfl
      rw [e1, e2] at this; exact this
    have hmono : ∀ i k, (hk : i + k + 1 < l.length) → l[i]'(by omega) < l[i + k + 1] := by
      intro i k
      induction k with
      | zero => intro hk; exact hadj i hk
      | succ k ih =>
        intro hk
        exact Int.lt_trans (ih (by omega)) (hadj (i + k + 1) (by omega))
    rw [List.pairwise_iff_getElem]
    intro i j hi hj hij
    have := hmono i (j - i - 1) (by omega)
    have e : i + (j - i - 1) + 1 = j := by omega
    simp only [e] at this
    exact this
  · intro h a _ ha
    have e1 : l.getD a 0 = l[a] := by rw [List.getD_eq_getElem?_getD, List.getElem?_eq_getElem (by omega)]; rfl
    have e2 : l.getD (a + 1) 0 = l[a + 1] := by rw [List.getD_eq_getElem?_getD, List.getElem?_eq_getElem ha]; rfl
    rw [e1, e2]
    exact (List.pairwise_iff_getElem.1 h) a (a + 1) (by omega) ha (by omega)

theorem rising_any (A : Option Addr) (c : Nat) (l : List Int) (w : World) (h : Kd.C (Kd.int .i64) w A l.length l) (hc : l.length ≤ c) (hl : l.length ≤ 100000) :
    Calls Try.prog 12 #[.slice A l.length c] w fun e w' => e = .returned (.bool (decide (l.Pairwise (· < ·)))) ∧ Drawn0 w w' := by
  refine laws_rising.calls (l.length + 1) A c l _ w h hc ?_
  obtain ⟨b, h1, h2⟩ := rising_l0 l hl l.length (l.length + 1) 1 (Nat.le_refl _) (by omega) (by omega)
  unfold laws_rising.f
  rw [show (1 : Int) = ((1 : Nat) : Int) from rfl, h1]
  congr 1
  rw [adj_pairwise] at h2
  cases b with
  | true => exact (decide_eq_true (h2.1 rfl)).symm
  | false => exact (decide_eq_false (fun h => by have := h2.2 h; cases this)).symm

theorem index_l0 (l : List Int) (x : Int) (hl : l.length ≤ 100000) : ∀ (d k i : Nat), l.length - i ≤ d → d < k →
    ∃ r : Int, laws_index.l0 k l x (i : Int) = some r ∧ (0 ≤ r ↔ x ∈ l.drop i) := by
  intro d
  induction d with
  | zero =>
    intro k i hd hk
    obtain ⟨k, rfl⟩ : ∃ m, k = m + 1 := ⟨k - 1, by omega⟩
    simp only [laws_index.l0]
    rw [if_neg (by omega)]
    exact ⟨_, rfl, by rw [List.drop_eq_nil_of_le (by omega)]; simp⟩
  | succ d ih =>
    intro k i hd hk
    obtain ⟨k, rfl⟩ : ∃ m, k = m + 1 := ⟨k - 1, by omega⟩
    simp only [laws_index.l0]
    by_cases hlt : i < l.length
    · have w2 : wrap64 ((i : Int) + 1) = ((i + 1 : Nat) : Int) := by unfold wrap64; omega
      have r2 : rd l (i : Int) = l[i] := by unfold rd; rw [Int.toNat_natCast, List.getD_eq_getElem?_getD, List.getElem?_eq_getElem hlt]; rfl
      rw [if_pos (by omega), if_pos (by omega), r2, w2, List.drop_eq_getElem_cons hlt]
      by_cases he : l[i] = x
      · rw [if_pos he]
        exact ⟨_, rfl, by simp [he]⟩
      · rw [if_neg he]
        obtain ⟨r, h1, h2⟩ := ih k (i + 1) (by omega) (by omega)
        refine ⟨r, h1, ?_⟩
        rw [h2, List.mem_cons]
        constructor
        · exact fun h => .inr h
        · rintro (h | h)
          · exact absurd h.symm he
          · exact h
    · rw [if_neg (by omega)]
      exact ⟨_, rfl, by rw [List.drop_eq_nil_of_le (by omega)]; simp⟩

theorem has_any (A : Option Addr) (c : Nat) (l : List Int) (x : Int) (w : World) (h : Kd.C (Kd.int .i64) w A l.length l) (hc : l.length ≤ c) (hl : l.length ≤ 100000) :
    Calls Try.prog 14 #[.slice A l.length c, .int .i64 x] w fun e w' => e = .returned (.bool (decide (x ∈ l))) ∧ Drawn0 w w' := by
  refine laws_has.calls (l.length + 1) A c l x _ w h hc ?_
  obtain ⟨r, h1, h2⟩ := index_l0 l x hl l.length (l.length + 1) 0 (by omega) (by omega)
  unfold laws_has.f laws_index.f
  rw [show (0 : Int) = ((0 : Nat) : Int) from rfl, h1]
  simp only [Option.bind_some]
  congr 1
  rw [decide_eq_decide]
  simpa using h2
end Go.Proofs.Ytlokbaljkmblaaa
