import Derived.Test.YtlokbaljkmblaaaP1
import Derived.BigRegion
import Derived.BigQuiet
import Derived.Deep.QuietTactic
namespace Go.Proofs.Ytlokbaljkmblaaa
open Go.RowKit Go.Lab Go.Proofs.YtlokbaljkmblaaaW.PrintWords Go.Proofs.YtlokbaljkmblaaaW.PrintLast Go.Proofs.YtlokbaljkmblaaaW.PrintMore PFnIsPathJoined

set_option maxHeartbeats 1000000 in
theorem cloneI_some (A : Addr) (c : Nat) (xs : List Int) (w : World) (h : Kd.C (Kd.int .i64) w (some A) xs.length xs) (hb : xs.length * 8 ≤ 140737488355328) :
    Calls Try.prog 7 #[.slice (some A) xs.length c] w fun e w' => ∃ v', e = .returned v' ∧ w'.ownsRow w.heap.size 3 1 v' xs.length (nums .i64 xs) ∧ Below w.heap.size w w' := by
  have q22 : ∀ (w : World) (a : Option Addr) (n c n' c' : Nat), (binOp .eql 22 (.slice a n c) (.slice none n' c')).run Try.prog w = .ok (.bool a.isNone) w := fun w a n c n' c' => Lib.run_eql_slice_nil w _ _ a n c n' c' Try.underlying22
  have hcells := C_int_cells h rfl
  have HC := Aside0.mk hcells
  clear hcells
  have h1 : ∀ u ∈ nums .i64 xs, u.oneCell' = true := by intro u hu; obtain ⟨x, _, rfl⟩ := List.mem_map.1 hu; rfl
  have H1 := Aside0.mk h1
  clear h1
  have hn : xs.length ≤ maxLen := by unfold maxLen; omega
  obtain ⟨i0, hi, hz0, hz1, hz2⟩ := info_parts Try.info3
  have HL := Aside0.mk (nums_length .i64 xs)
  have HI := Aside0.mk (And.intro hi (And.intro hz0 (And.intro hz1 hz2)))
  clear hi hz0 hz1 hz2 h
  go_enter Try.func7, Try.ntmps7
  go_wp2_with (at_builtin; refine wpList_append_own _ rfl _ _ 22 rfl w.heap.size 3 i0 (.int .i64 0) 1 8 Try.underlying22 HI.out.1 HI.out.2.1 HI.out.2.2.1 HI.out.2.2.2 rfl (by decide) _ _ _ rfl (World.ownsRow_made w #[] 0 (Nat.le_refl _) (Nat.zero_le _) (by simp)) A xs.length c (nums .i64 xs) rfl ?qc1 ?qc2 ?qc3 ?qc4 ?qc5 ?qc6 ?_)
  case qc1 => rw [HL.out]; omega
  case qc2 =>
    intro j u hj
    exact Lib.cell?_alloc_some _ (HC.out j u hj)
  case qc3 => exact H1.out
  case qc4 => rw [Nat.zero_add]; exact hn
  case qc5 => rw [Nat.zero_add]; exact hb
  case qc6 => simp
  intro v' w1 hown hgrow hnil
  go_wp2
  go_ret
  refine ⟨v', rfl, by simpa using hown, ?_⟩
  exact ((Below.refl _ w).alloc (Nat.le_refl _) _).grown hgrow (by simp) (by intro k hk; simp [Value.ownBlock] at hk; omega)
set_option maxHeartbeats 400000 in
theorem cloneI_none (n c : Nat) (w : World) : Calls Try.prog 7 #[.slice none n c] w fun e w' => e = .returned (.slice none 0 0) ∧ w = w' := by
  have q22 : ∀ (w : World) (a : Option Addr) (n c n' c' : Nat), (binOp .eql 22 (.slice a n c) (.slice none n' c')).run Try.prog w = .ok (.bool a.isNone) w := fun w a n c n' c' => Lib.run_eql_slice_nil w _ _ a n c n' c' Try.underlying22
  go_enter Try.func7, Try.ntmps7
  go_wp2
  go_ret
  exact ⟨rfl, rfl⟩

/-- slices.Clone at int, of a slice that is read -/
theorem cloneI_any (A : Option Addr) (c : Nat) (xs : List Int) (w : World) (h : Kd.C (Kd.int .i64) w A xs.length xs) (hb : xs.length ≤ 100000) :
    Calls Try.prog 7 #[.slice A xs.length c] w fun e w' => ∃ v', e = .returned v' ∧ w'.ownsRow w.heap.size 3 1 v' xs.length (nums .i64 xs) ∧ Below w.heap.size w w' := by
  cases A with
  | none =>
    refine (cloneI_none _ _ w).mono ?_
    rintro e w' ⟨rfl, rfl⟩
    have h0 : xs.length = 0 := by
      rcases Nat.eq_zero_or_pos xs.length with h0 | h0
      · exact h0
      · obtain ⟨ad, e, _⟩ := h.2.2 h0; cases e
    have hx : xs = [] := List.eq_nil_of_length_eq_zero h0
    subst hx
    exact ⟨_, rfl, World.ownsRow_nil _ _ _ _, Below.refl _ _⟩
  | some ad => exact cloneI_some ad c xs w h (by omega)

/-- two places exchanged -/
def swp2 (ys : List Int) (i : Nat) : List Int := (ys.set i (ys.getD (i - 1) 0)).set (i - 1) (ys.getD i 0)

/-- the state of the inner loop of sorted -/
structure Ins (xs ys : List Int) (k i : Nat) : Prop where
  perm : ys.Perm xs
  ik : i ≤ k
  kn : k < ys.length
  rest : ∀ a b, a < b → b ≤ k → a ≠ i → b ≠ i → ys.getD a 0 ≤ ys.getD b 0
  self : ∀ b, i < b → b ≤ k → ys.getD i 0 ≤ ys.getD b 0

theorem swp2_length (ys : List Int) (i : Nat) : (swp2 ys i).length = ys.length := by simp [swp2]

theorem swp2_get (ys : List Int) (i : Nat) (h0 : 0 < i) (hi : i < ys.length) (j : Nat) : (swp2 ys i).getD j 0 = if j = i then ys.getD (i - 1) 0 else if j = i - 1 then ys.getD i 0 else ys.getD j 0 := by
  unfold swp2
  simp only [List.getD_eq_getElem?_getD, List.getElem?_set, List.length_set]
  by_cases h1 : j = i
  · subst h1
    rw [if_neg (by omega), if_pos rfl, if_pos hi, if_pos rfl]; rfl
  · rw [if_neg h1]
    by_cases h2 : j = i - 1
    · subst h2
      rw [if_pos rfl, if_pos (by omega), if_pos rfl]; rfl
    · rw [if_neg (fun e => h2 e.symm), if_neg (fun e => h1 e.symm), if_neg h2]

theorem swp2_perm (ys : List Int) (i : Nat) (h0 : 0 < i) (hi : i < ys.length) : (swp2 ys i).Perm ys := by
  unfold swp2
  have h1 : ys.getD (i - 1) 0 = ys[i - 1] := by rw [List.getD_eq_getElem?_getD, List.getElem?_eq_getElem (by omega)]; rfl
  have h2 : ys.getD i 0 = ys[i] := by rw [List.getD_eq_getElem?_getD, List.getElem?_eq_getElem hi]; rfl
  rw [h1, h2]
  exact Go.Sort.perm_set_set ys i (i - 1) hi (by omega)

theorem Ins.step {xs ys : List Int} {k i : Nat} (h : Ins xs ys k i) (h0 : 0 < i) (hlt : ys.getD i 0 < ys.getD (i - 1) 0) : Ins xs (swp2 ys i) k (i - 1) := by
  have hi : i < ys.length := by have := h.ik; have := h.kn; omega
  have g := swp2_get ys i h0 hi
  refine ⟨(swp2_perm ys i h0 hi).trans h.perm, by have := h.ik; omega, by rw [swp2_length]; exact h.kn, ?_, ?_⟩
  · intro a b hab hbk ha hb
    rw [g, g]
    by_cases h1 : a = i
    · rw [if_pos h1, if_neg (by omega), if_neg (by omega)]
      exact h.rest (i - 1) b (by omega) hbk (by omega) (by omega)
    · rw [if_neg h1, if_neg ha]
      by_cases h2 : b = i
      · rw [if_pos h2]; exact h.rest a (i - 1) (by omega) (by have := h.ik; omega) h1 (by omega)
      · rw [if_neg h2, if_neg hb]; exact h.rest a b hab hbk h1 h2
  · intro b hb hbk
    rw [g, g, if_neg (by omega), if_pos rfl]
    by_cases h2 : b = i
    · rw [if_pos h2]; omega
    · rw [if_neg h2, if_neg (by omega)]; exact h.self b (by omega) hbk

/-- the first k places ascend -/
def UpTo (ys : List Int) (k : Nat) : Prop := ∀ a b, a < b → b < k → ys.getD a 0 ≤ ys.getD b 0

theorem Ins.start {xs ys : List Int} {k : Nat} (hp : ys.Perm xs) (hk : k < ys.length) (hu : UpTo ys k) : Ins xs ys k k :=
  ⟨hp, Nat.le_refl _, hk, fun a b hab hbk _ hb => hu a b hab (by omega), fun b h1 h2 => by omega⟩

theorem Ins.stop {xs ys : List Int} {k i : Nat} (h : Ins xs ys k i) (hs : i = 0 ∨ ys.getD (i - 1) 0 ≤ ys.getD i 0) : UpTo ys (k + 1) := by
  intro a b hab hbk
  by_cases h1 : a = i
  · subst h1; exact h.self b hab (by omega)
  · by_cases h2 : b = i
    · subst h2
      rcases hs with hs | hs
      · omega
      · by_cases h3 : a = b - 1
        · subst h3; exact hs
        · exact Int.le_trans (h.rest a (b - 1) (by omega) (by omega) h1 (by omega)) hs
    · exact h.rest a b hab (by omega) h1 h2

theorem UpTo.srt {xs ys : List Int} (hp : ys.Perm xs) (h : UpTo ys ys.length) : ys = srt xs := by
  have h1 : ys.Pairwise (· ≤ ·) := by
    rw [List.pairwise_iff_getElem]
    intro i j hi hj hij
    have := h i j hij hj
    simpa [List.getD_eq_getElem?_getD, hi, hj] using this
  exact (hp.trans (srt_perm xs).symm).eq_of_pairwise (le := (· ≤ ·)) (fun a b _ _ h1 h2 => Int.le_antisymm h1 h2) h1 (srt_le xs)
end Go.Proofs.Ytlokbaljkmblaaa
