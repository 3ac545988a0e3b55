import Derived.Test.YtgiebjihceggjaaT3
import Derived.Sort.Lot0
set_option linter.unusedVariables false
set_option linter.unusedSimpArgs false
namespace Go.Proofs.Ytgiebjihceggjaa
open Go.RowKit Go.Proofs.YtgiebjihceggjaaW.PrintWords Go.Proofs.YtgiebjihceggjaaW.PrintLast Go.Proofs.YtgiebjihceggjaaW.PrintMore PFnGenTree

/-- two places exchanged -/
def swp2 (ys : List Int) (i : Nat) : List Int := (ys.set i (ys.getD (i - 1) 0)).set (i - 1) (ys.getD i 0)

/-- the state of the inner loop of sorted -/
structure Ins (xs ys : List Int) (k i : Nat) : Prop where
  perm : ys.Perm xs
  ik : i ≤ k
  kn : k < ys.length
  rest : ∀ a b, a < b → b ≤ k → a ≠ i → b ≠ i → ys.getD a 0 ≤ ys.getD b 0
  self : ∀ b, i < b → b ≤ k → ys.getD i 0 ≤ ys.getD b 0

theorem swp2_length (ys : List Int) (i : Nat) : (swp2 ys i).length = ys.length := by simp [swp2]

theorem swp2_get (ys : List Int) (i : Nat) (h0 : 0 < i) (hi : i < ys.length) (j : Nat) : (swp2 ys i).getD j 0 = if j = i then ys.getD (i - 1) 0 else if j = i - 1 then ys.getD i 0 else ys.getD j 0 := by
  unfold swp2
  simp only [List.getD_eq_getElem?_getD, List.getElem?_set, List.length_set]
  by_cases h1 : j = i
  · subst h1
    rw [if_neg (by omega), if_pos rfl, if_pos hi, if_pos rfl]; rfl
  · rw [if_neg h1]
    by_cases h2 : j = i - 1
    · subst h2
      rw [if_pos rfl, if_pos (by omega), if_pos rfl]; rfl
    · rw [if_neg (fun e => h2 e.symm), if_neg (fun e => h1 e.symm), if_neg h2]

theorem swp2_perm (ys : List Int) (i : Nat) (h0 : 0 < i) (hi : i < ys.length) : (swp2 ys i).Perm ys := by
  unfold swp2
  have h1 : ys.getD (i - 1) 0 = ys[i - 1] := by rw [List.getD_eq_getElem?_getD, List.getElem?_eq_getElem (by omega)]; rfl
  have h2 : ys.getD i 0 = ys[i] := by rw [List.getD_eq_getElem?_getD, List.getElem?_eq_getElem hi]; rfl
  rw [h1, h2]
  exact Go.Sort.perm_set_set ys i (i - 1) hi (by omega)

theorem Ins.step {xs ys : List Int} {k i : Nat} (h : Ins xs ys k i) (h0 : 0 < i) (hlt : ys.getD i 0 < ys.getD (i - 1) 0) : Ins xs (swp2 ys i) k (i - 1) := by
  have hi : i < ys.length := by have := h.ik; have := h.kn; omega
  have g := swp2_get ys i h0 hi
  refine ⟨(swp2_perm ys i h0 hi).trans h.perm, by have := h.ik; omega, by rw [swp2_length]; exact h.kn, ?_, ?_⟩
  · intro a b hab hbk ha hb
    rw [g, g]
    by_cases h1 : a = i
    · rw [if_pos h1, if_neg (by omega), if_neg (by omega)]
      exact h.rest (i - 1) b (by omega) hbk (by omega) (by omega)
    · rw [if_neg h1, if_neg ha]
      by_cases h2 : b = i
      · rw [if_pos h2]; exact h.rest a (i - 1) (by omega) (by have := h.ik; omega) h1 (by omega)
      · rw [if_neg h2, if_neg hb]; exact h.rest a b hab hbk h1 h2
  · intro b hb hbk
    rw [g, g, if_neg (by omega), if_pos rfl]
    by_cases h2 : b = i
    · rw [if_pos h2]; omega
    · rw [if_neg h2, if_neg (by omega)]; exact h.self b (by omega) hbk

/-- the first k places ascend -/
def UpTo (ys : List Int) (k : Nat) : Prop := ∀ a b, a < b → b < k → ys.getD a 0 ≤ ys.getD b 0

theorem Ins.start {xs ys : List Int} {k : Nat} (hp : ys.Perm xs) (hk : k < ys.length) (hu : UpTo ys k) : Ins xs ys k k :=
  ⟨hp, Nat.le_refl _, hk, fun a b hab hbk _ hb => hu a b hab (by omega), fun b h1 h2 => by omega⟩

theorem Ins.stop {xs ys : List Int} {k i : Nat} (h : Ins xs ys k i) (hs : i = 0 ∨ ys.getD (i - 1) 0 ≤ ys.getD i 0) : UpTo ys (k + 1) := by
  intro a b hab hbk
  by_cases h1 : a = i
  · subst h1; exact h.self b hab (by omega)
  · by_cases h2 : b = i
    · subst h2
      rcases hs with hs | hs
      · omega
      · by_cases h3 : a = b - 1
        · subst h3; exact hs
        · exact Int.le_trans (h.rest a (b - 1) (by omega) (by omega) h1 (by omega)) hs
    · exact h.rest a b hab (by omega) h1 h2

theorem UpTo.srt {xs ys : List Int} (hp : ys.Perm xs) (h : UpTo ys ys.length) : ys = srt xs := by
  have h1 : ys.Pairwise (· ≤ ·) := by
    rw [List.pairwise_iff_getElem]
    intro i j hi hj hij
    have := h i j hij hj
    simpa [List.getD_eq_getElem?_getD, hi, hj] using this
  exact (hp.trans (srt_perm xs).symm).eq_of_pairwise (le := (· ≤ ·)) (fun a b _ _ h1 h2 => Int.le_antisymm h1 h2) h1 (srt_le xs)

theorem rd_getD (ys : List Int) (i : Nat) : rd ys (i : Int) = ys.getD i 0 := by unfold rd; rw [Int.toNat_natCast]

/-- laws.sorted sorts -/
theorem sorted_l0 (xs : List Int) (hl : xs.length ≤ 100000) : ∀ (d kk : Nat) (ys : List Int), xs.length - kk ≤ d → ys.Perm xs → UpTo ys kk → 1 ≤ kk → ∃ k0, laws_sorted.l0 k0 ys (kk : Int) = some (srt xs) := by
  intro d
  induction d with
  | zero =>
    intro kk ys hd hp hu h1
    have hlen := hp.length_eq
    refine ⟨1, ?_⟩
    simp only [laws_sorted.l0]
    rw [if_neg (by omega)]
    have hz : ys = srt xs := UpTo.srt hp (fun a b hab hb => hu a b hab (by omega))
    rw [hz]
  | succ d ih =>
    intro kk ys hd hp hu h1
    have hlen := hp.length_eq
    by_cases hlt : kk < xs.length
    · have inner : ∀ (i : Nat) (zs : List Int), Ins xs zs kk i → ∃ k0, laws_sorted.l1 k0 zs (kk : Int) (i : Int) = some (srt xs) := by
        intro i
        induction i with
        | zero =>
          intro zs hI
          obtain ⟨k0, h0⟩ := ih (kk + 1) zs (by omega) hI.perm (hI.stop (.inl rfl)) (by omega)
          refine ⟨k0 + 1, ?_⟩
          simp only [laws_sorted.l1]
          have w2 : wrap64 ((kk : Int) + 1) = ((kk + 1 : Nat) : Int) := by unfold wrap64; omega
          rw [if_neg (by omega), w2, h0]
        | succ i ihi =>
          intro zs hI
          have hzl := hI.perm.length_eq
          have hik := hI.ik
          have w1 : wrap64 (((i + 1 : Nat) : Int) - 1) = (i : Int) := by unfold wrap64; omega
          have w2 : wrap64 ((kk : Int) + 1) = ((kk + 1 : Nat) : Int) := by unfold wrap64; omega
          by_cases hs : zs.getD (i + 1) 0 < zs.getD i 0
          · have hI2 := hI.step (by omega) (by simpa using hs)
            rw [Nat.add_sub_cancel] at hI2
            obtain ⟨k0, h0⟩ := ihi _ hI2
            refine ⟨k0 + 1, ?_⟩
            simp only [laws_sorted.l1]
            rw [w1, rd_getD, rd_getD, if_pos (by omega), if_pos (by omega), if_pos (by omega), if_pos (by omega), if_pos (by omega), if_pos hs, Int.toNat_natCast, Int.toNat_natCast]
            unfold swp2 at h0
            simpa using h0
          · obtain ⟨k0, h0⟩ := ih (kk + 1) zs (by omega) hI.perm (hI.stop (.inr (by rw [Nat.add_sub_cancel]; omega))) (by omega)
            refine ⟨k0 + 1, ?_⟩
            simp only [laws_sorted.l1]
            rw [w1, rd_getD, rd_getD, if_pos (by omega), if_pos (by omega), if_pos (by omega), if_pos (by omega), if_pos (by omega), if_neg hs, w2, h0]
      obtain ⟨k0, h0⟩ := inner kk ys (Ins.start hp (by omega) hu)
      refine ⟨k0 + 1, ?_⟩
      simp only [laws_sorted.l0]
      rw [if_pos (by omega), h0]
    · refine ⟨1, ?_⟩
      simp only [laws_sorted.l0]
      rw [if_neg (by omega)]
      have hz : ys = srt xs := UpTo.srt hp (fun a b hab hb => hu a b hab (by omega))
      rw [hz]

theorem sorted_f (xs : List Int) (hl : xs.length ≤ 100000) : ∃ k0, laws_sorted.f k0 xs = some (srt xs) := by
  obtain ⟨k0, h0⟩ := sorted_l0 xs hl xs.length 1 xs (by omega) (List.Perm.refl _) (fun a b h1 h2 => by omega) (Nat.le_refl _)
  refine ⟨k0, ?_⟩
  unfold laws_sorted.f slices_Clone_int_int.f
  rw [if_pos hl]
  exact h0
end Go.Proofs.Ytgiebjihceggjaa
