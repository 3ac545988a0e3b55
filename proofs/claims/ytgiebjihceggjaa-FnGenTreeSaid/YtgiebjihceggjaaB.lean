import Derived.Test.YtgiebjihceggjaaA
import Derived.Test.YtgiebjihceggjaaS
import Derived.Test.YtgiebjihceggjaaS2
import Derived.Shelf.SlicesE.Compact
set_option linter.unusedVariables false
set_option linter.unusedSimpArgs false
namespace Go.Proofs.Ytgiebjihceggjaa
open Go.RowKit Go.Proofs.YtgiebjihceggjaaW.PrintWords Go.Proofs.YtgiebjihceggjaaW.PrintLast Go.Proofs.YtgiebjihceggjaaW.PrintMore

open Go.Sort in
theorem putCells_take (cur : Array Value) (n : Nat) (ys : List Int) (hl : ys.length = n) (hn : n ≤ cur.size) : (putCells (Value.int .i64) 0 ys.toArray cur).toList.take n = nums .i64 ys := by
  apply List.ext_getElem?
  intro j
  rw [List.getElem?_take]
  by_cases hj : j < n
  · rw [if_pos hj, Array.getElem?_toList]
    unfold putCells nums
    rw [Array.getElem?_mapIdx, Array.getElem?_eq_getElem (by omega), List.getElem?_map, List.getElem?_eq_getElem (by omega)]
    have : j < ys.toArray.size := by simp; omega
    simp only [Option.map_some, Nat.zero_le, true_and, Nat.zero_add, Nat.sub_zero]
    rw [if_pos this, getElem!_pos ys.toArray j this]
    simp
  · rw [if_neg hj, List.getElem?_eq_none (by rw [nums_length]; omega)]

open Go.Sort in
theorem sort_own (base : Nat) (v : Value) (xs : List Int) (w : World) (h : w.ownsRow base 3 1 v xs.length (nums .i64 xs)) (hb : xs.length ≤ 100000) :
    Calls Try.prog 18 #[v] w fun e w' => e = .returned (.tuple #[]) ∧ w'.ownsRow base 3 1 v xs.length (nums .i64 (srt xs)) ∧ w.grownBy w' v.ownBlock := by
  by_cases h0 : xs.length = 0
  · have hx : xs = [] := List.eq_nil_of_length_eq_zero h0
    subst hx
    obtain ⟨A, c, rfl⟩ := own_slice h
    refine (Try.slices_Sort_int_none A c w).mono ?_
    rintro e w' ⟨rfl, rfl⟩
    exact ⟨rfl, (by simpa [srt] using h), ⟨rfl, rfl, rfl, Nat.le_refl _, fun _ _ _ => rfl⟩⟩
  · rcases h.2 with ⟨_, hn⟩ | ⟨g, cap, cur, rfl, hb1, hg, hc1, hc2, hcs, htk⟩
    · exact absurd hn h0
    · have hH : Holds (Value.int .i64) w g 0 xs.toArray := by
        intro j hj
        have hj' : j < xs.length := by simpa using hj
        refine ⟨?_, blk_frozen hg _⟩
        rw [Nat.zero_add, blk_cell hg]
        have h1 : (cur.toList.take (xs.length * 1))[j]? = some (.int .i64 xs[j]) := by rw [htk]; simp [nums, hj']
        rw [List.getElem?_take] at h1
        split at h1
        · rw [getElem!_pos xs.toArray j (by simpa using hj)]
          simpa using h1
        · cases h1
      refine (Try.slices_Sort_int g 0 cap xs w hH (blk_lt hg) (by omega)).mono ?_
      rintro e w' ⟨rfl, n, os, rfl⟩
      have hgl : g < w.heap.size := blk_lt hg
      have hh : (grow (putRow (Value.int .i64) (Go.Sort.ahead w n) g 0 (xs.mergeSort fun x y => decide (x ≤ y)).toArray) os).heap[g]? = some (.cells (putCells (Value.int .i64) 0 (srt xs).toArray cur) 3 (0, 0)) := by
        have hsz : (putRow (Value.int .i64) (Go.Sort.ahead w n) g 0 (xs.mergeSort fun x y => decide (x ≤ y)).toArray).heap.size = w.heap.size := by simp [putRow, mapBlock, Go.Sort.ahead]
        rw [heap_grow_old _ _ (by rw [hsz]; exact hgl)]
        unfold putRow mapBlock
        have : (Go.Sort.ahead w n).heap = w.heap := rfl
        simp only [this, Array.getElem?_modify, if_true]
        rw [hg]
        rfl
      have hsl : (putCells (Value.int .i64) 0 (srt xs).toArray cur).size = cur.size := by simp [putCells]
      refine ⟨rfl, ⟨by rw [nums_length, srt_length]; omega, .inr ⟨g, cap, _, rfl, hb1, hh, hc1, hc2, by rw [hsl]; exact hcs, ?_⟩⟩, ⟨rfl, rfl, rfl, ?_, fun k hk hne => ?_⟩⟩
      · rw [Nat.mul_one]
        exact putCells_take cur xs.length (srt xs) (srt_length xs) (by rw [hcs]; omega)
      · simp [grow, putRow, mapBlock, Go.Sort.ahead]
      · have hkg : k ≠ g := fun e => hne (by simp [Value.ownBlock, e])
        have hsz : (putRow (Value.int .i64) (Go.Sort.ahead w n) g 0 (xs.mergeSort fun x y => decide (x ≤ y)).toArray).heap.size = w.heap.size := by simp [putRow, mapBlock, Go.Sort.ahead]
        rw [heap_grow_old _ _ (by rw [hsz]; exact hk)]
        unfold putRow mapBlock
        have : (Go.Sort.ahead w n).heap = w.heap := rfl
        simp only [this, Array.getElem?_modify]
        rw [if_neg (Ne.symm hkg)]

open Go.Lib in
theorem compact_len (xs : List Int) (hs : xs.Pairwise (· ≤ ·)) : (compactUpTo xs.toArray xs.length).length ≤ xs.length ∧ ((compactUpTo xs.toArray xs.length).length = xs.length ↔ xs.Pairwise (· < ·)) := by
  have hle : (compactUpTo xs.toArray xs.length).length ≤ xs.length := by
    unfold compactUpTo
    rw [List.length_map]
    exact Nat.le_trans (List.length_filter_le _ _) (by simp)
  refine ⟨hle, ?_⟩
  unfold compactUpTo
  rw [List.length_map]
  have hr : (List.range xs.length).length = xs.length := by simp
  constructor
  · intro h
    have hall : ∀ j ∈ List.range xs.length, keeps xs.toArray j = true := by
      have h2 : ((List.range xs.length).filter (keeps xs.toArray)).length = (List.range xs.length).length := by rw [h, hr]
      exact List.length_filter_eq_length_iff.1 h2
    have hadj : ∀ j (hj : j + 1 < xs.length), xs[j] < xs[j + 1] := by
      intro j hj
      have h1 := hall (j + 1) (by simpa using hj)
      have h2 : xs[j] ≤ xs[j + 1] := (List.pairwise_iff_getElem.1 hs) j (j + 1) (by omega) hj (by omega)
      unfold keeps at h1
      rw [getElem!_pos xs.toArray (j + 1) (by simpa using hj), getElem!_pos xs.toArray (j + 1 - 1) (by simp; omega)] at h1
      simp at h1
      omega
    have hmono : ∀ i k, (hk : i + k + 1 < xs.length) → xs[i]'(by omega) < xs[i + k + 1] := by
      intro i k
      induction k with
      | zero => intro hk; exact hadj i hk
      | succ k ih =>
        intro hk
        have h1 := ih (by omega)
        have h2 := hadj (i + k + 1) (by omega)
        exact Int.lt_trans h1 h2
    rw [List.pairwise_iff_getElem]
    intro i j hi hj hij
    have := hmono i (j - i - 1) (by omega)
    have e : i + (j - i - 1) + 1 = j := by omega
    simp only [e] at this
    exact this
  · intro h
    rw [List.length_filter_eq_length_iff.2, hr]
    intro j hj
    unfold keeps
    by_cases hj0 : j = 0
    · simp [hj0]
    · have hj' : j < xs.length := by simpa using hj
      rw [getElem!_pos xs.toArray j (by simpa using hj'), getElem!_pos xs.toArray (j - 1) (by simp; omega)]
      have := (List.pairwise_iff_getElem.1 h) (j - 1) j (by omega) hj' (by omega)
      simp
      right
      omega


open Go.Lib in
theorem compact_mem {α : Type} [Inhabited α] [DecidableEq α] (xs : List α) : ∀ n, n ≤ xs.length → ∀ x, x ∈ compactUpTo xs.toArray n ↔ x ∈ xs.take n
  | 0, _, x => by simp [compactUpTo]
  | n + 1, h, x => by
    have ih := compact_mem xs n (by omega)
    rw [compactUpTo_succ, List.mem_append, ih x, List.take_succ_eq_append_getElem (by omega), List.mem_append]
    have e : xs.toArray[n]! = xs[n] := by rw [getElem!_pos xs.toArray n (by simpa using (by omega : n < xs.length))]; simp
    by_cases hk : keeps xs.toArray n = true
    · rw [if_pos hk, e]
    · rw [if_neg hk]
      have h1 : n ≠ 0 ∧ xs.toArray[n]! = xs.toArray[n - 1]! := by
        unfold keeps at hk
        rw [decide_eq_true_eq, not_or] at hk
        exact ⟨hk.1, Classical.not_not.1 hk.2⟩
      have e2 : xs.toArray[n - 1]! = xs[n - 1]'(by omega) := by rw [getElem!_pos xs.toArray (n - 1) (by simp; omega)]; simp
      have e3 : xs[n] = xs[n - 1]'(by omega) := by rw [← e, h1.2, e2]
      have hm : xs[n - 1]'(by omega) ∈ xs.take n := by
        rw [List.mem_take_iff_getElem]
        exact ⟨n - 1, by omega, rfl⟩
      constructor
      · rintro (h | h)
        · exact .inl h
        · exact absurd h (by simp)
      · rintro (h | h)
        · exact .inl h
        · simp at h
          rw [h, e3]; exact .inl hm

open Go.Lib in
theorem compact_strict (xs : List Int) (hs : xs.Pairwise (· ≤ ·)) : ∀ n, n ≤ xs.length → (compactUpTo xs.toArray n).Pairwise (· < ·)
  | 0, _ => by simp [compactUpTo]
  | n + 1, h => by
    have ih := compact_strict xs hs n (by omega)
    rw [compactUpTo_succ]
    by_cases hk : keeps xs.toArray n = true
    · rw [if_pos hk, List.pairwise_append]
      refine ⟨ih, by simp, ?_⟩
      intro a ha b hb
      simp only [List.mem_singleton] at hb
      subst hb
      have e : xs.toArray[n]! = xs[n] := by rw [getElem!_pos xs.toArray n (by simpa using (by omega : n < xs.length))]; simp
      rw [e]
      rw [compact_mem xs n (by omega), List.mem_take_iff_getElem] at ha
      obtain ⟨i, hi, rfl⟩ := ha
      have h0 : n ≠ 0 := by omega
      have hne : xs[n] ≠ xs[n - 1]'(by omega) := by
        unfold keeps at hk
        rw [decide_eq_true_eq] at hk
        have e2 : xs.toArray[n - 1]! = xs[n - 1]'(by omega) := by rw [getElem!_pos xs.toArray (n - 1) (by simp; omega)]; simp
        rw [e, e2] at hk
        exact hk.resolve_left h0
      have hle : xs[n - 1]'(by omega) ≤ xs[n] := (List.pairwise_iff_getElem.1 hs) (n - 1) n (by omega) (by omega) (by omega)
      have hle2 : xs[i]'(by omega) ≤ xs[n - 1]'(by omega) := by
        by_cases hin : i = n - 1
        · subst hin; exact Int.le_refl _
        · exact (List.pairwise_iff_getElem.1 hs) i (n - 1) (by omega) (by omega) (by omega)
      omega
    · rw [if_neg hk, List.append_nil]; exact ih

set_option maxHeartbeats 400000 in
theorem compact_none (n c : Nat) (h : n < 2) (A : Option Addr) (w : World) : Calls Try.prog 19 #[.slice A n c] w fun e w' => e = .returned (.slice A n c) ∧ w = w' := by
  go_enter Try.func19, Try.ntmps19
  go_wp2
  go_ret
  exact ⟨rfl, rfl⟩

/-- what slices.Compact keeps -/
def cpt (xs : List Int) : List Int := Go.Lib.compactUpTo xs.toArray xs.length
theorem cpt_short (xs : List Int) (h : xs.length < 2) : cpt xs = xs := by
  match xs, h with
  | [], _ => rfl
  | [x], _ => simp [cpt, Go.Lib.compactUpTo, Go.Lib.keeps]
theorem mem_cpt (xs : List Int) (x : Int) : x ∈ cpt xs ↔ x ∈ xs := by
  unfold cpt; rw [compact_mem xs _ (Nat.le_refl _), List.take_length]
theorem cpt_le (xs : List Int) : (cpt xs).length ≤ xs.length := by
  unfold cpt Go.Lib.compactUpTo
  rw [List.length_map]
  exact Nat.le_trans (List.length_filter_le _ _) (by simp)

open Go.Sort in
theorem compact_own (base : Nat) (v : Value) (xs : List Int) (w : World) (h : w.ownsRow base 3 1 v xs.length (nums .i64 xs)) (hb : xs.length ≤ 100000) :
    Calls Try.prog 19 #[v] w fun e w' => ∃ A m c, e = .returned (.slice A m c) ∧ m = (cpt xs).length ∧ w'.ownsRow base 3 1 (.slice A m c) m (nums .i64 (cpt xs)) ∧ (Value.slice A m c).ownBlock = v.ownBlock ∧ w.grownBy w' v.ownBlock := by
  by_cases h0 : xs.length < 2
  · obtain ⟨A, c, rfl⟩ := own_slice h
    refine (compact_none _ c h0 A w).mono ?_
    rintro e w' ⟨rfl, rfl⟩
    rw [cpt_short xs h0]
    exact ⟨_, _, _, rfl, rfl, h, rfl, ⟨rfl, rfl, rfl, Nat.le_refl _, fun _ _ _ => rfl⟩⟩
  · rcases h.2 with ⟨_, hn⟩ | ⟨g, cap, cur, rfl, hb1, hg, hc1, hc2, hcs, htk⟩
    · omega
    · have hH : Holds (Value.int .i64) w g 0 xs.toArray := by
        intro j hj
        have hj' : j < xs.length := by simpa using hj
        refine ⟨?_, blk_frozen hg _⟩
        rw [Nat.zero_add, blk_cell hg]
        have h1 : (cur.toList.take (xs.length * 1))[j]? = some (.int .i64 xs[j]) := by rw [htk]; simp [nums, hj']
        rw [List.getElem?_take] at h1
        split at h1
        · rw [getElem!_pos xs.toArray j (by simpa using hj)]
          simpa using h1
        · cases h1
      have hc := AnyE.slices_Compact Try.laysCompact (Value.int .i64) (fun _ => rfl) (EqlAt.intD _ _ _) (NeqAt.intD _ _ _) (0 : Int) (fun w => by kernel_rfl) g 0 cap xs.toArray w hH (by simp; omega) (by simpa using hc1)
      have hc' : Calls Try.prog 19 #[.slice (some ⟨g, 0, none⟩) xs.length cap] w _ := hc
      refine hc'.mono ?_
      rintro e w' ⟨rfl, q, rfl⟩
      have hle := cpt_le xs
      have hcp : Go.Lib.compactUpTo xs.toArray xs.toArray.size = cpt xs := rfl
      have hlen : (cpt xs ++ List.replicate (xs.toArray.size - (cpt xs).length) (0 : Int)).length = xs.length := by simp; omega
      refine ⟨_, _, _, rfl, by rw [hcp], ?_, rfl, ⟨rfl, rfl, rfl, by simp [putRow, mapBlock, Go.Sort.ahead], fun k hk hne => ?_⟩⟩
      · rw [hcp]
        have hh : (putRow (Value.int .i64) (Go.Sort.ahead w q) g 0 (cpt xs ++ List.replicate (xs.toArray.size - (cpt xs).length) (0 : Int)).toArray).heap[g]? = some (.cells (putCells (Value.int .i64) 0 (cpt xs ++ List.replicate (xs.toArray.size - (cpt xs).length) (0 : Int)).toArray cur) 3 (0, 0)) := by
          unfold putRow mapBlock
          have : (Go.Sort.ahead w q).heap = w.heap := rfl
          simp only [this, Array.getElem?_modify, if_true]
          rw [hg]
          rfl
        have hsl : (putCells (Value.int .i64) 0 (cpt xs ++ List.replicate (xs.toArray.size - (cpt xs).length) (0 : Int)).toArray cur).size = cur.size := by simp [putCells]
        refine ⟨by rw [nums_length]; omega, .inr ⟨g, cap, _, rfl, hb1, hh, by omega, hc2, by rw [hsl]; exact hcs, ?_⟩⟩
        have ht := putCells_take cur xs.length _ hlen (by rw [hcs]; omega)
        have h2 := congrArg (List.take ((cpt xs).length * 1)) ht
        rw [List.take_take] at h2
        rw [Nat.min_eq_left (by omega)] at h2
        rw [h2]
        unfold nums
        rw [← List.map_take, Nat.mul_one, List.take_left]
      have hkg : k ≠ g := fun e => hne (by simp [Value.ownBlock, e])
      unfold putRow mapBlock
      have : (Go.Sort.ahead w q).heap = w.heap := rfl
      simp only [this, Array.getElem?_modify]
      rw [if_neg (Ne.symm hkg)]
end Go.Proofs.Ytgiebjihceggjaa
