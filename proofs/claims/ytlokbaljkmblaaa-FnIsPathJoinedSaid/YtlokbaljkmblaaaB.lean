import Derived.Test.YtlokbaljkmblaaaA
namespace Go.Proofs.Ytlokbaljkmblaaa
open Go.RowKit Go.Proofs.YtlokbaljkmblaaaW.PrintWords Go.Proofs.YtlokbaljkmblaaaW.PrintLast Go.Proofs.YtlokbaljkmblaaaW.PrintMore

set_option maxHeartbeats 400000 in
theorem cmpNaN_any (n : Int) (w : World) :
    Calls Try.prog 46 #[.int .i64 n] w fun e w' => e = .returned (.bool false) ∧ w = w' := by
  go_enter Try.func46, Try.ntmps46
  go_wp2
  go_ret
  exact ⟨by simp, rfl⟩

set_option maxHeartbeats 400000 in
theorem slNaN_any (n : Int) (w : World) :
    Calls Try.prog 37 #[.int .i64 n] w fun e w' => e = .returned (.bool false) ∧ w = w' := by
  go_enter Try.func37, Try.ntmps37
  go_wp2
  go_ret
  exact ⟨by simp, rfl⟩

set_option maxHeartbeats 400000 in
theorem less_any (a b : Int) (w : World) :
    Calls Try.prog 32 #[.int .i64 a, .int .i64 b] w fun e w' => e = .returned (.bool (decide (a < b))) ∧ w = w' := by
  go_enter Try.func32, Try.ntmps32
  go_wp2_with (go_at_call 46; refine (cmpNaN_any _ _).mono ?_; rintro e w' ⟨rfl, rfl⟩)
  go_ret
  exact ⟨rfl, rfl⟩

/-- how many of a list are less -/
def rank (ids : List Int) (t : Int) : Nat := (ids.filter fun x => decide (x < t)).length

theorem rank_le (ids : List Int) (t : Int) : rank ids t ≤ ids.length := List.length_filter_le _ _

theorem rank_lt {ids : List Int} (h : ids.Pairwise (· < ·)) (t : Int) : ∀ i (hi : i < ids.length), ids[i] < t ↔ i < rank ids t := by
  induction ids with
  | nil => intro i hi; simp at hi
  | cons x r ih =>
    intro i hi
    rw [List.pairwise_cons] at h
    have hr : rank (x :: r) t = if x < t then rank r t + 1 else rank r t := by
      unfold rank
      rw [List.filter_cons]
      by_cases hx : x < t <;> simp [hx]
    by_cases hx : x < t
    · rw [hr, if_pos hx]
      cases i with
      | zero => simp [hx]
      | succ i => simpa using ih h.2 i (by simpa using hi)
    · have h0 : rank r t = 0 := by
        unfold rank
        rw [List.length_eq_zero_iff, List.filter_eq_nil_iff]
        intro y hy
        have := h.1 y hy
        simp; omega
      rw [hr, if_neg hx, h0]
      refine ⟨fun hlt => ?_, fun h => by omega⟩
      cases i with
      | zero => exact absurd hlt hx
      | succ i =>
        have hm : r[i]'(by simpa using hi) ∈ r := List.getElem_mem _
        have := h.1 _ hm
        simp at hlt; omega

theorem rank_mem {ids : List Int} (h : ids.Pairwise (· < ·)) (t : Int) : t ∈ ids ↔ ∃ hr : rank ids t < ids.length, ids[rank ids t] = t := by
  constructor
  · intro hm
    obtain ⟨i, hi, he⟩ := List.getElem_of_mem hm
    have h1 := rank_lt h t i hi
    have h2 : ¬ i < rank ids t := by rw [← h1]; omega
    have hr : rank ids t < ids.length := by omega
    refine ⟨hr, ?_⟩
    rcases Nat.lt_or_ge (rank ids t) i with h3 | h3
    · have := List.pairwise_iff_getElem.1 h _ _ hr hi h3
      have h4 := rank_lt h t _ hr
      have : ids[rank ids t] < t := by omega
      rw [h4] at this
      omega
    · have : i = rank ids t := by omega
      subst this; exact he
  · rintro ⟨hr, he⟩
    rw [← he]; exact List.getElem_mem _

theorem C_int_at {w : World} {A : Option Addr} {n : Nat} {xs : List Int} {k : IntKind} (h : Kd.C (Kd.int k) w A n xs) (i : Nat) (hi : i < n) : ∃ ad, A = some ad ∧ w.cell? (ad.add i) = some (.int k (xs.getD i 0)) := by
  obtain ⟨ad, e, hc⟩ := Kd.at_int h i (by omega) (by omega)
  exact ⟨ad, e, by simpa [rd] using hc⟩

set_option maxHeartbeats 1000000 in
set_option maxRecDepth 100000 in
theorem bsearch_any (A : Option Addr) (c : Nat) (ids : List Int) (t : Int) (w : World) (h : Kd.C (Kd.int .i64) w A ids.length ids) (hs : ids.Pairwise (· < ·)) (hb : ids.length ≤ 1000) :
    Calls Try.prog 24 #[.slice A ids.length c, .int .i64 t] w fun e w' => e = .returned (.tuple #[.int .i64 (rank ids t), .bool (decide (t ∈ ids))]) ∧ w = w' := by
  have HS := Aside0.mk hs
  have HC := Aside0.mk h
  clear hs h
  have hrl := rank_le ids t
  go_enter Try.func24, Try.ntmps24
  go_wp2
  go_loop [7, 8] (fun i j => ∃ a b : Nat, i = .int .i64 a ∧ j = .int .i64 b ∧ a ≤ rank ids t ∧ rank ids t ≤ b ∧ b ≤ ids.length) (fun i j => (intOf j - intOf i).toNat)
  case atStart => exact ⟨0, ids.length, rfl, rfl, Nat.zero_le _, hrl, Nat.le_refl _⟩
  case round =>
    obtain ⟨a, b, rfl, rfl, h1, h2, h3⟩ := hrel
    by_cases hab : a < b
    · obtain ⟨h, hh⟩ : ∃ h : Nat, ((a : Int) + (b : Int)) / 2 = (h : Int) := ⟨(a + b) / 2, by omega⟩
      have hh1 : a ≤ h := by omega
      have hh2 : h < b := by omega
      have hlt : h < ids.length := by omega
      obtain ⟨ad, rfl, hc⟩ := C_int_at HC.out h hlt
      have hge : ids.getD h 0 = ids[h] := by simp [List.getD_eq_getElem?_getD, hlt]
      have hr := rank_lt HS.out t h hlt
      rw [← hge] at hr
      have HR := Aside0.mk hr
      clear hr hge
      generalize ids.getD h 0 = x at HR hc
      by_cases hx : x < t
      · have hx' : decide (x < t) = true := by simpa using hx
        go_wp2_with (go_at_call 32; refine (less_any _ _ _).mono ?_; rintro e w' ⟨rfl, rfl⟩)
        go_round
        case rel => exact ⟨h + 1, b, by go_num, rfl, HR.out.1 hx, h2, h3⟩
        case measure => simp [intOf]; omega
      · have hx' : decide (x < t) = false := by simpa using hx
        go_wp2_with (go_at_call 32; refine (less_any _ _ _).mono ?_; rintro e w' ⟨rfl, rfl⟩)
        go_round
        case rel => exact ⟨a, h, rfl, rfl, h1, by have := HR.out; omega, by omega⟩
        case measure => simp [intOf]; omega
    · have hab' : a = rank ids t := by omega
      have hm := rank_mem HS.out t
      by_cases hlt : a < ids.length
      · obtain ⟨ad, rfl, hc⟩ := C_int_at HC.out a hlt
        have hge : ids.getD a 0 = ids[a] := by simp [List.getD_eq_getElem?_getD, hlt]
        have hm' : t ∈ ids ↔ ids.getD a 0 = t := by rw [hm, hge]; subst hab'; exact ⟨fun ⟨_, e⟩ => e, fun e => ⟨hlt, e⟩⟩
        have HM := Aside0.mk hm'
        have HA := Aside0.mk hab'
        clear hm hm' hge hab'
        generalize ids.getD a 0 = x at HM hc
        have hd : decide (t ∈ ids) = decide (x = t) := by simp [HM.out]
        have HD := Aside0.mk hd
        clear hd
        by_cases hx : x = t
        · have hx' : (x == t) = true := by simpa using hx
          go_wp2_with (go_at_call 37; refine (slNaN_any _ _).mono ?_; rintro e w' ⟨rfl, rfl⟩)
          go_ret2
          exact ⟨by rw [HD.out, ← HA.out]; simp [hx], rfl⟩
        · have hx' : (x == t) = false := by simpa using hx
          go_wp2_with (go_at_call 37; refine (slNaN_any _ _).mono ?_; rintro e w' ⟨rfl, rfl⟩)
          go_ret2
          exact ⟨by rw [HD.out, ← HA.out]; simp [hx], rfl⟩
      · have hd : decide (t ∈ ids) = false := by
          rw [decide_eq_false_iff_not, hm]; rintro ⟨h, _⟩; omega
        have HD := Aside0.mk hd
        have HA := Aside0.mk hab'
        clear hd hm hab'
        go_wp2
        go_ret2
        exact ⟨by rw [HD.out, ← HA.out]; rfl, rfl⟩
end Go.Proofs.Ytlokbaljkmblaaa
