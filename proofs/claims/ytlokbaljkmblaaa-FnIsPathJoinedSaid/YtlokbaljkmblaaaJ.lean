import Derived.Test.YtlokbaljkmblaaaI
import Derived.Test.YtlokbaljkmblaaaS2
import Derived.Shelf.SlicesE.Compact
namespace Go.Proofs.Ytlokbaljkmblaaa
open Go.RowKit Go.Lab Go.Proofs.YtlokbaljkmblaaaW.PrintWords Go.Proofs.YtlokbaljkmblaaaW.PrintLast Go.Proofs.YtlokbaljkmblaaaW.PrintMore

open Go.Lib in
theorem compact_len (xs : List Int) (hs : xs.Pairwise (· ≤ ·)) : (compactUpTo xs.toArray xs.length).length ≤ xs.length ∧ ((compactUpTo xs.toArray xs.length).length = xs.length ↔ xs.Pairwise (· < ·)) := by
  have hle : (compactUpTo xs.toArray xs.length).length ≤ xs.length := by
    unfold compactUpTo
    rw [List.length_map]
    exact Nat.le_trans (List.length_filter_le _ _) (by simp)
  refine ⟨hle, ?_⟩
  unfold compactUpTo
  rw [List.length_map]
  have hr : (List.range xs.length).length = xs.length := by simp
  constructor
  · intro h
    have hall : ∀ j ∈ List.range xs.length, keeps xs.toArray j = true := by
      have h2 : ((List.range xs.length).filter (keeps xs.toArray)).length = (List.range xs.length).length := by rw [h, hr]
      exact List.length_filter_eq_length_iff.1 h2
    have hadj : ∀ j (hj : j + 1 < xs.length), xs[j] < xs[j + 1] := by
      intro j hj
      have h1 := hall (j + 1) (by simpa using hj)
      have h2 : xs[j] ≤ xs[j + 1] := (List.pairwise_iff_getElem.1 hs) j (j + 1) (by omega) hj (by omega)
      unfold keeps at h1
      rw [getElem!_pos xs.toArray (j + 1) (by simpa using hj), getElem!_pos xs.toArray (j + 1 - 1) (by simp; omega)] at h1
      simp at h1
      omega
    have hmono : ∀ i k, (hk : i + k + 1 < xs.length) → xs[i]'(by omega) < xs[i + k + 1] := by
      intro i k
      induction k with
      | zero => intro hk; exact hadj i hk
      | succ k ih =>
        intro hk
        have h1 := ih (by omega)
        have h2 := hadj (i + k + 1) (by omega)
        exact Int.lt_trans h1 h2
    rw [List.pairwise_iff_getElem]
    intro i j hi hj hij
    have := hmono i (j - i - 1) (by omega)
    have e : i + (j - i - 1) + 1 = j := by omega
    simp only [e] at this
    exact this
  · intro h
    rw [List.length_filter_eq_length_iff.2, hr]
    intro j hj
    unfold keeps
    by_cases hj0 : j = 0
    · simp [hj0]
    · have hj' : j < xs.length := by simpa using hj
      rw [getElem!_pos xs.toArray j (by simpa using hj'), getElem!_pos xs.toArray (j - 1) (by simp; omega)]
      have := (List.pairwise_iff_getElem.1 h) (j - 1) j (by omega) hj' (by omega)
      simp
      right
      omega

set_option maxHeartbeats 400000 in
theorem compact_none (n c : Nat) (h : n < 2) (A : Option Addr) (w : World) : Calls Try.prog 18 #[.slice A n c] w fun e w' => e = .returned (.slice A n c) ∧ w = w' := by
  go_enter Try.func18, Try.ntmps18
  go_wp2
  go_ret
  exact ⟨rfl, rfl⟩

open Go.Sort in
theorem compact_own (base : Nat) (v : Value) (xs : List Int) (w : World) (h : w.ownsRow base 2 1 v xs.length (nums .i64 xs)) (hs : xs.Pairwise (· ≤ ·)) (hb : xs.length ≤ 100000) :
    Calls Try.prog 18 #[v] w fun e w' => ∃ A m c, e = .returned (.slice A m c) ∧ m ≤ xs.length ∧ (m = xs.length ↔ xs.Pairwise (· < ·)) ∧ w.grownBy w' v.ownBlock := by
  by_cases h0 : xs.length < 2
  · obtain ⟨A, c, rfl⟩ := own_slice h
    refine (compact_none _ c h0 A w).mono ?_
    rintro e w' ⟨rfl, rfl⟩
    refine ⟨_, _, _, rfl, Nat.le_refl _, ⟨fun _ => ?_, fun _ => rfl⟩, ⟨rfl, rfl, rfl, Nat.le_refl _, fun _ _ _ => rfl⟩⟩
    match xs, h0 with
    | [], _ => exact List.Pairwise.nil
    | [x], _ => simp
  · rcases h.2 with ⟨_, hn⟩ | ⟨g, cap, cur, rfl, hb1, hg, hc1, hc2, hcs, htk⟩
    · omega
    · have hH : Holds (Value.int .i64) w g 0 xs.toArray := by
        intro j hj
        have hj' : j < xs.length := by simpa using hj
        refine ⟨?_, blk_frozen hg _⟩
        rw [Nat.zero_add, blk_cell hg]
        have h1 : (cur.toList.take (xs.length * 1))[j]? = some (.int .i64 xs[j]) := by rw [htk]; simp [nums, hj']
        rw [List.getElem?_take] at h1
        split at h1
        · rw [getElem!_pos xs.toArray j (by simpa using hj)]
          simpa using h1
        · cases h1
      have hcl := compact_len xs hs
      have hc := AnyE.slices_Compact Try.laysCompact (Value.int .i64) (fun _ => rfl) (EqlAt.intD _ _ _) (NeqAt.intD _ _ _) (0 : Int) (fun w => by kernel_rfl) g 0 cap xs.toArray w hH (by simp; omega) (by simpa using hc1)
      have hc' : Calls Try.prog 18 #[.slice (some ⟨g, 0, none⟩) xs.length cap] w _ := hc
      refine hc'.mono ?_
      rintro e w' ⟨rfl, q, rfl⟩
      refine ⟨_, _, _, rfl, by simpa using hcl.1, by simpa using hcl.2, ⟨rfl, rfl, rfl, by simp [putRow, mapBlock, Go.Sort.ahead], fun k hk hne => ?_⟩⟩
      have hkg : k ≠ g := fun e => hne (by simp [Value.ownBlock, e])
      unfold putRow mapBlock
      have : (Go.Sort.ahead w q).heap = w.heap := rfl
      simp only [this, Array.getElem?_modify]
      rw [if_neg (Ne.symm hkg)]
end Go.Proofs.Ytlokbaljkmblaaa
