import Derived.Test.YtolbfjjgdheikaaGreatCB1
import Derived.Test.YtolbfjjgdheikaaGreatCS
import Derived.Shelf.SlicesE.Compact
import Derived.Deep.RegionHeld3
import Derived.Laws.MakeOwn
import Derived.Laws.Cover2
import Derived.BigRegion
import Derived.Deep.Cut
import Derived.Maps.OwnSet
set_option linter.unusedVariables false
set_option linter.unusedSimpArgs false
namespace Go.Proofs.YtolbfjjgdheikaaGreat.R
open Go.RowKit Go.Lab Go.Proofs.YtolbfjjgdheikaaGreatW.PrintWords Go.Proofs.YtolbfjjgdheikaaGreatW.PrintLast Go.Proofs.YtolbfjjgdheikaaGreatW.PrintMore

open Go.Sort in
theorem putCells_take (cur : Array Value) (n : Nat) (ys : List Int) (hl : ys.length = n) (hn : n ≤ cur.size) : (putCells (Value.int .i64) 0 ys.toArray cur).toList.take n = nums .i64 ys := by
  apply List.ext_getElem?
  intro j
  rw [List.getElem?_take]
  by_cases hj : j < n
  · rw [if_pos hj, Array.getElem?_toList]
    unfold putCells nums
    rw [Array.getElem?_mapIdx, Array.getElem?_eq_getElem (by omega), List.getElem?_map, List.getElem?_eq_getElem (by omega)]
    have : j < ys.toArray.size := by simp; omega
    simp only [Option.map_some, Nat.zero_le, true_and, Nat.zero_add, Nat.sub_zero]
    rw [if_pos this, getElem!_pos ys.toArray j this]
    simp
  · rw [if_neg hj, List.getElem?_eq_none (by rw [nums_length]; omega)]

open Go.Sort in
theorem sort_own (base : Nat) (v : Value) (xs : List Int) (w : World) (h : w.ownsRow base 2 1 v xs.length (nums .i64 xs)) (hb : xs.length ≤ 100000) :
    Calls Tryz.prog 73 #[v] w fun e w' => e = .returned (.tuple #[]) ∧ w'.ownsRow base 2 1 v xs.length (nums .i64 (srt xs)) ∧ w.grownBy w' v.ownBlock := by
  by_cases h0 : xs.length = 0
  · have hx : xs = [] := List.eq_nil_of_length_eq_zero h0
    subst hx
    obtain ⟨A, c, rfl⟩ := own_slice h
    refine (Tryz.slices_Sort_int_none_f73 A c w).mono ?_
    rintro e w' ⟨rfl, rfl⟩
    exact ⟨rfl, (by simpa [srt] using h), ⟨rfl, rfl, rfl, Nat.le_refl _, fun _ _ _ => rfl⟩⟩
  · rcases h.2 with ⟨_, hn⟩ | ⟨g, cap, cur, rfl, hb1, hg, hc1, hc2, hcs, htk⟩
    · exact absurd hn h0
    · have hH : Holds (Value.int .i64) w g 0 xs.toArray := by
        intro j hj
        have hj' : j < xs.length := by simpa using hj
        refine ⟨?_, blk_frozen hg _⟩
        rw [Nat.zero_add, blk_cell hg]
        have h1 : (cur.toList.take (xs.length * 1))[j]? = some (.int .i64 xs[j]) := by rw [htk]; simp [nums, hj']
        rw [List.getElem?_take] at h1
        split at h1
        · rw [getElem!_pos xs.toArray j (by simpa using hj)]
          simpa using h1
        · cases h1
      refine (Tryz.slices_Sort_int_f73 g 0 cap xs w hH (blk_lt hg) (by omega)).mono ?_
      rintro e w' ⟨rfl, n, os, rfl⟩
      have hgl : g < w.heap.size := blk_lt hg
      have hh : (grow (putRow (Value.int .i64) (Go.Sort.ahead w n) g 0 (xs.mergeSort fun x y => decide (x ≤ y)).toArray) os).heap[g]? = some (.cells (putCells (Value.int .i64) 0 (srt xs).toArray cur) 2 (0, 0)) := by
        have hsz : (putRow (Value.int .i64) (Go.Sort.ahead w n) g 0 (xs.mergeSort fun x y => decide (x ≤ y)).toArray).heap.size = w.heap.size := by simp [putRow, mapBlock, Go.Sort.ahead]
        rw [heap_grow_old _ _ (by rw [hsz]; exact hgl)]
        unfold putRow mapBlock
        have : (Go.Sort.ahead w n).heap = w.heap := rfl
        simp only [this, Array.getElem?_modify, if_true]
        rw [hg]
        rfl
      have hsl : (putCells (Value.int .i64) 0 (srt xs).toArray cur).size = cur.size := by simp [putCells]
      refine ⟨rfl, ⟨by rw [nums_length, srt_length]; omega, .inr ⟨g, cap, _, rfl, hb1, hh, hc1, hc2, by rw [hsl]; exact hcs, ?_⟩⟩, ⟨rfl, rfl, rfl, ?_, fun k hk hne => ?_⟩⟩
      · rw [Nat.mul_one]
        exact putCells_take cur xs.length (srt xs) (srt_length xs) (by rw [hcs]; omega)
      · simp [grow, putRow, mapBlock, Go.Sort.ahead]
      · have hkg : k ≠ g := fun e => hne (by simp [Value.ownBlock, e])
        have hsz : (putRow (Value.int .i64) (Go.Sort.ahead w n) g 0 (xs.mergeSort fun x y => decide (x ≤ y)).toArray).heap.size = w.heap.size := by simp [putRow, mapBlock, Go.Sort.ahead]
        rw [heap_grow_old _ _ (by rw [hsz]; exact hk)]
        unfold putRow mapBlock
        have : (Go.Sort.ahead w n).heap = w.heap := rfl
        simp only [this, Array.getElem?_modify]
        rw [if_neg (Ne.symm hkg)]

set_option maxHeartbeats 400000 in
theorem clone64_none (n c : Nat) (w : World) : Calls Tryz.prog 75 #[.slice none n c] w fun e w' => e = .returned (.slice none 0 0) ∧ w = w' := by
  have q60 : ∀ (w : World) (a : Option Addr) (n c n' c' : Nat), (binOp .eql 137 (.slice a n c) (.slice none n' c')).run Tryz.prog w = .ok (.bool a.isNone) w := fun w a n c n' c' => Lib.run_eql_slice_nil w _ _ a n c n' c' Tryz.underlying137
  go_enter Tryz.func75, Tryz.ntmps75
  go_wp2
  go_ret
  exact ⟨rfl, rfl⟩

/-- slices.Clone at int64: of an owned row -/
theorem clone64_own (base : Nat) (v : Value) (xs : List Int) (w : World) (h : w.ownsRow base 2 1 v xs.length (nums .i64 xs)) (hb : xs.length ≤ 100000) :
    Calls Tryz.prog 75 #[v] w fun e w' => ∃ v', e = .returned v' ∧ w'.ownsRow w.heap.size 2 1 v' xs.length (nums .i64 xs) ∧ Below w.heap.size w w' := by
  obtain ⟨A, c, rfl, hr⟩ := own_reads h
  cases A with
  | none =>
    refine (clone64_none _ _ w).mono ?_
    rintro e w' ⟨rfl, rfl⟩
    have h0 : xs.length = 0 := by
      rcases h.2 with ⟨hn, h0⟩ | ⟨g, cap, cur, hv, _⟩
      · exact h0
      · cases hv
    have hx : xs = [] := List.eq_nil_of_length_eq_zero h0
    subst hx
    exact ⟨_, rfl, World.ownsRow_nil _ _ _ _, Below.refl _ _⟩
  | some ad =>
    exact clone64_some ad c xs w (Kd.C_of_reads hr) (by omega)

set_option maxHeartbeats 400000 in
theorem index_any (base bp : Nat) (vi : Value) (ids : List Int) (t : Int) (w : World) (hc : w.cell? ⟨bp, 0, none⟩ = some vi) (h : w.ownsRow base 2 1 vi ids.length (nums .i64 ids)) (hs : ids.Pairwise (· < ·)) (hb : ids.length ≤ 1000) :
    Calls Tryz.prog 70 #[.pointer (some ⟨bp, 0, none⟩), .int .i64 t] w fun e w' => e = .returned (.tuple #[.int .i64 (rank ids t), .bool (decide (t ∈ ids))]) ∧ w = w' := by
  obtain ⟨A, c, rfl, hr⟩ := own_reads h
  have HR := Aside0.mk hr
  have HS := Aside0.mk hs
  clear h hr hs
  go_enter Tryz.func70, Tryz.ntmps70
  go_wp2_with (go_at_call 106; refine (bsearch_any A c ids t _ (Kd.C_of_reads HR.out) HS.out hb).mono ?_; rintro e w' ⟨rfl, rfl⟩)
  go_ret2
  exact ⟨rfl, rfl⟩
end Go.Proofs.YtolbfjjgdheikaaGreat.R


namespace Go.Proofs.YtolbfjjgdheikaaGreat.R
open Go.RowKit Go.Lab Go.Proofs.YtolbfjjgdheikaaGreatW.PrintWords Go.Proofs.YtolbfjjgdheikaaGreatW.PrintLast Go.Proofs.YtolbfjjgdheikaaGreatW.PrintMore

open Go.Lib in
theorem compact_len (xs : List Int) (hs : xs.Pairwise (· ≤ ·)) : (compactUpTo xs.toArray xs.length).length ≤ xs.length ∧ ((compactUpTo xs.toArray xs.length).length = xs.length ↔ xs.Pairwise (· < ·)) := by
  have hle : (compactUpTo xs.toArray xs.length).length ≤ xs.length := by
    unfold compactUpTo
    rw [List.length_map]
    exact Nat.le_trans (List.length_filter_le _ _) (by simp)
  refine ⟨hle, ?_⟩
  unfold compactUpTo
  rw [List.length_map]
  have hr : (List.range xs.length).length = xs.length := by simp
  constructor
  · intro h
    have hall : ∀ j ∈ List.range xs.length, keeps xs.toArray j = true := by
      have h2 : ((List.range xs.length).filter (keeps xs.toArray)).length = (List.range xs.length).length := by rw [h, hr]
      exact List.length_filter_eq_length_iff.1 h2
    have hadj : ∀ j (hj : j + 1 < xs.length), xs[j] < xs[j + 1] := by
      intro j hj
      have h1 := hall (j + 1) (by simpa using hj)
      have h2 : xs[j] ≤ xs[j + 1] := (List.pairwise_iff_getElem.1 hs) j (j + 1) (by omega) hj (by omega)
      unfold keeps at h1
      rw [getElem!_pos xs.toArray (j + 1) (by simpa using hj), getElem!_pos xs.toArray (j + 1 - 1) (by simp; omega)] at h1
      simp at h1
      omega
    have hmono : ∀ i k, (hk : i + k + 1 < xs.length) → xs[i]'(by omega) < xs[i + k + 1] := by
      intro i k
      induction k with
      | zero => intro hk; exact hadj i hk
      | succ k ih =>
        intro hk
        have h1 := ih (by omega)
        have h2 := hadj (i + k + 1) (by omega)
        exact Int.lt_trans h1 h2
    rw [List.pairwise_iff_getElem]
    intro i j hi hj hij
    have := hmono i (j - i - 1) (by omega)
    have e : i + (j - i - 1) + 1 = j := by omega
    simp only [e] at this
    exact this
  · intro h
    rw [List.length_filter_eq_length_iff.2, hr]
    intro j hj
    unfold keeps
    by_cases hj0 : j = 0
    · simp [hj0]
    · have hj' : j < xs.length := by simpa using hj
      rw [getElem!_pos xs.toArray j (by simpa using hj'), getElem!_pos xs.toArray (j - 1) (by simp; omega)]
      have := (List.pairwise_iff_getElem.1 h) (j - 1) j (by omega) hj' (by omega)
      simp
      right
      omega

set_option maxHeartbeats 400000 in
theorem compact_none (n c : Nat) (h : n < 2) (A : Option Addr) (w : World) : Calls Tryz.prog 74 #[.slice A n c] w fun e w' => e = .returned (.slice A n c) ∧ w = w' := by
  go_enter Tryz.func74, Tryz.ntmps74
  go_wp2
  go_ret
  exact ⟨rfl, rfl⟩

open Go.Sort in
theorem compact_own (base : Nat) (v : Value) (xs : List Int) (w : World) (h : w.ownsRow base 2 1 v xs.length (nums .i64 xs)) (hs : xs.Pairwise (· ≤ ·)) (hb : xs.length ≤ 100000) :
    Calls Tryz.prog 74 #[v] w fun e w' => ∃ A m c, e = .returned (.slice A m c) ∧ m ≤ xs.length ∧ (m = xs.length ↔ xs.Pairwise (· < ·)) ∧ w.grownBy w' v.ownBlock := by
  by_cases h0 : xs.length < 2
  · obtain ⟨A, c, rfl⟩ := own_slice h
    refine (compact_none _ c h0 A w).mono ?_
    rintro e w' ⟨rfl, rfl⟩
    refine ⟨_, _, _, rfl, Nat.le_refl _, ⟨fun _ => ?_, fun _ => rfl⟩, ⟨rfl, rfl, rfl, Nat.le_refl _, fun _ _ _ => rfl⟩⟩
    match xs, h0 with
    | [], _ => exact List.Pairwise.nil
    | [x], _ => simp
  · rcases h.2 with ⟨_, hn⟩ | ⟨g, cap, cur, rfl, hb1, hg, hc1, hc2, hcs, htk⟩
    · omega
    · have hH : Holds (Value.int .i64) w g 0 xs.toArray := by
        intro j hj
        have hj' : j < xs.length := by simpa using hj
        refine ⟨?_, blk_frozen hg _⟩
        rw [Nat.zero_add, blk_cell hg]
        have h1 : (cur.toList.take (xs.length * 1))[j]? = some (.int .i64 xs[j]) := by rw [htk]; simp [nums, hj']
        rw [List.getElem?_take] at h1
        split at h1
        · rw [getElem!_pos xs.toArray j (by simpa using hj)]
          simpa using h1
        · cases h1
      have hcl := compact_len xs hs
      have hc := AnyE.slices_Compact Tryz.laysSlE43_f74 (Value.int .i64) (fun _ => rfl) (EqlAt.intD _ _ _) (NeqAt.intD _ _ _) (0 : Int) (fun w => by kernel_rfl) g 0 cap xs.toArray w hH (by simp; omega) (by simpa using hc1)
      have hc' : Calls Tryz.prog 74 #[.slice (some ⟨g, 0, none⟩) xs.length cap] w _ := hc
      refine hc'.mono ?_
      rintro e w' ⟨rfl, q, rfl⟩
      refine ⟨_, _, _, rfl, by simpa using hcl.1, by simpa using hcl.2, ⟨rfl, rfl, rfl, by simp [putRow, mapBlock, Go.Sort.ahead], fun k hk hne => ?_⟩⟩
      have hkg : k ≠ g := fun e => hne (by simp [Value.ownBlock, e])
      unfold putRow mapBlock
      have : (Go.Sort.ahead w q).heap = w.heap := rfl
      simp only [this, Array.getElem?_modify]
      rw [if_neg (Ne.symm hkg)]
end Go.Proofs.YtolbfjjgdheikaaGreat.R


namespace Go.Proofs.YtolbfjjgdheikaaGreat.R
open Go.RowKit Go.Lab Go.Proofs.YtolbfjjgdheikaaGreatW.PrintWords Go.Proofs.YtolbfjjgdheikaaGreatW.PrintLast Go.Proofs.YtolbfjjgdheikaaGreatW.PrintMore PL

/-- the state of read behind k nodes -/
structure Rd1 (w wr : World) (d : Bool) (s1 s2 : Value) (ys : List Int) (vi : Value) : Prop where
  g : wr.heap[w.heap.size]? = some (.cells #[.bool d, s1, s2] 25 (0, 0))
  p : wr.heap[w.heap.size + 1]? = some (.cells #[vi, .slice none 0 0, .slice none 0 0] 140 (0, 0))
  own : wr.ownsRow w.heap.size 2 1 vi ys.length (nums .i64 ys)
  bel : Below w.heap.size w wr

def Rd1Ok (w wr : World) (d : Bool) (s1 s2 : Value) (ys : List Int) : Prop := ∃ vi, Rd1 w wr d s1 s2 ys vi

theorem Rd1.step {w wr w1 : World} {d : Bool} {s1 s2 : Value} {ys : List Int} {vi : Value} {x : Int} {v' : Value} (h : Rd1 w wr d s1 s2 ys vi)
    (hown : w1.ownsRow w.heap.size 2 1 v' (ys.length + 1) (nums .i64 ys ++ [.int .i64 x])) (hg : wr.grownBy w1 vi.ownBlock) :
    Rd1 w (w1.setCell ⟨w.heap.size + 1, 0, none⟩ v') d s1 s2 (ys ++ [x]) v' := by
  have hne1 : ∀ {k : Nat} {c : Array Value} {e : TypeId}, wr.heap[k]? = some (.cells c e (0,0)) → e ≠ 2 → w1.heap[k]? = wr.heap[k]? := by
    intro k c e hk he
    refine hg.block k (blk_lt hk) (fun hc => ?_)
    obtain ⟨c', hc'⟩ := own_block h.own hc.symm
    exact he (blk_type hk hc')
  refine ⟨?_, ?_, ?_, ?_⟩
  · rw [Below.heap_setCell _ _ _ _ (by simp), hne1 h.g (by decide)]; exact h.g
  · have := (hne1 h.p (by decide)).trans h.p
    have := blk_set this 0 v'
    simpa using this
  · have h2 : w1.heap[w.heap.size + 1]? = some (.cells #[vi, .slice none 0 0, .slice none 0 0] 140 (0, 0)) := (hne1 h.p (by decide)).trans h.p
    have h3 : w1.ownsRow w.heap.size 2 1 v' (ys ++ [x]).length (nums .i64 (ys ++ [x])) := by simpa [nums] using hown
    refine own_of_heap h3 (fun k hk => ?_)
    obtain ⟨c, hc⟩ := own_block h3 hk
    rw [Below.heap_setCell _ _ _ _ (by rintro rfl; exact absurd (blk_type hc h2) (by decide))]
  · exact (h.bel.grown hg h.bel.size (fun k hk => own_base h.own k hk)).setCell (by simp) _

theorem Rd1.far {w wr : World} {d : Bool} {s1 s2 : Value} {ys : List Int} {vi : Value} (h : Rd1 w wr d s1 s2 ys vi) {w1 : World} (hg : wr.grownBy w1 vi.ownBlock) {k : Nat} {c : Array Value} {e : TypeId} (hk : wr.heap[k]? = some (.cells c e (0,0))) (he : e ≠ 2) : w1.heap[k]? = wr.heap[k]? :=
  hg.block k (blk_lt hk) (fun hc => by
    obtain ⟨c', hc'⟩ := own_block h.own hc.symm
    exact he (blk_type hk hc'))

theorem Rd1.sorted {w wr w1 : World} {d : Bool} {s1 s2 : Value} {ys ys' : List Int} {vi : Value} (h : Rd1 w wr d s1 s2 ys vi) (hl : ys'.length = ys.length)
    (hown : w1.ownsRow w.heap.size 2 1 vi ys.length (nums .i64 ys')) (hg : wr.grownBy w1 vi.ownBlock) : Rd1 w w1 d s1 s2 ys' vi :=
  ⟨(h.far hg h.g (by decide)).trans h.g, (h.far hg h.p (by decide)).trans h.p, by rw [hl]; exact hown, h.bel.grown hg h.bel.size (fun k hk => own_base h.own k hk)⟩

theorem Rd1.below {w wr w1 : World} {d : Bool} {s1 s2 : Value} {ys : List Int} {vi : Value} (h : Rd1 w wr d s1 s2 ys vi) (hb : Below wr.heap.size wr w1) : Rd1 w w1 d s1 s2 ys vi :=
  ⟨(hb.block _ (blk_lt h.g)).trans h.g, (hb.block _ (blk_lt h.p)).trans h.p, h.own.kept (grown_of_below hb none) (by cases vi.ownBlock <;> simp), h.bel.trans (hb.mono h.bel.size)⟩

theorem Tryz.info176 : (Tryz.prog.info? 176).map (fun i => (i.zero, i.size, i.bytes)) = some (some (.slice none 0 0), 1, 24) := by kernel_rfl

/-- the graph with no edges -/
def pl0 (ids : List Int) : Pl := ⟨ids, List.replicate ids.length [], List.replicate ids.length []⟩

theorem pl0_good (ids : List Int) (h : ids.length ≤ 1000) : (pl0 ids).Good := by
  have hr : ∀ i, GoodRow ids.length ((List.replicate ids.length ([] : List (Int × Nat))).getD i []) := by
    intro i
    have : (List.replicate ids.length ([] : List (Int × Nat))).getD i [] = [] := by
      rw [List.getD_eq_getElem?_getD, List.getElem?_replicate]; split <;> rfl
    rw [this]
    exact ⟨List.Pairwise.nil, by simp⟩
  exact ⟨h, hr, hr⟩

theorem rows0 {w : World} {base : Nat} {n : Nat} : ∀ i (h : i < (List.replicate n (Value.slice none 0 0)).length), w.ownsRow base 208 2 (List.replicate n (Value.slice none 0 0))[i] ((List.replicate n ([] : List (Int × Nat))).getD i []).length (fl ((List.replicate n ([] : List (Int × Nat))).getD i [])) := by
  intro i h
  have : (List.replicate n ([] : List (Int × Nat))).getD i [] = [] := by
    rw [List.getD_eq_getElem?_getD, List.getElem?_replicate]; split <;> rfl
  rw [this, List.getElem_replicate]
  exact World.ownsRow_nil _ _ _ _

theorem apart_nil (v : Value) : ApartS (.slice none 0 0) v := fun k hk => by simp [Value.ownBlock] at hk

theorem made_toList (n : Nat) : (madeCells #[Value.slice none 0 0] n).toList = List.replicate n (Value.slice none 0 0) := by
  apply List.ext_getElem
  · simp [madeCells]
  · intro i h1 h2
    simp [madeCells, Nat.mod_one]

/-- the two tables just made -/
theorem pl0_ok {w wr w1 : World} {d : Bool} {s1 s2 vi : Value} {ids : List Int} (h : Rd1 w wr d s1 s2 ids vi) (ga gb : Nat) (hab : ga ≠ gb) (ha : wr.heap.size ≤ ga) (hb : wr.heap.size ≤ gb) (hlen : ids.length ≤ 1000)
    (h1 : w1.heap[ga]? = some (.cells (madeCells #[.slice none 0 0] ids.length) 176 (0, 0))) (h2 : w1.heap[gb]? = some (.cells (madeCells #[.slice none 0 0] ids.length) 176 (0, 0)))
    (hp : w1.heap[w.heap.size + 1]? = some (.cells #[vi, .slice (some ⟨ga, 0, none⟩) ids.length ids.length, .slice (some ⟨gb, 0, none⟩) ids.length ids.length] 140 (0, 0)))
    (hk : ∀ k, k < wr.heap.size → k ≠ w.heap.size + 1 → w1.heap[k]? = wr.heap[k]?) : PlOk w1 w.heap.size (w.heap.size + 1) (pl0 ids) := by
  have hsz := h.bel.size
  have hown : ∀ g, w.heap.size ≤ g → w1.heap[g]? = some (.cells (madeCells #[.slice none 0 0] ids.length) 176 (0, 0)) →
      w1.ownsRow w.heap.size 176 1 (.slice (some ⟨g, 0, none⟩) ids.length ids.length) (List.replicate ids.length (Value.slice none 0 0)).length (List.replicate ids.length (Value.slice none 0 0)) := by
    intro g hg hh
    refine ⟨by simp, .inr ⟨g, ids.length, _, by simp, hg, hh, by simp, by unfold maxLen; omega, by simp [size_madeCells], ?_⟩⟩
    rw [made_toList, List.length_replicate, Nat.mul_one, List.take_of_length_le (by simp)]
  refine ⟨List.replicate ids.length (.slice none 0 0), List.replicate ids.length (.slice none 0 0), vi, _, _, ⟨hp, by omega, ?_, ⟨hown ga (by omega) h1, hown gb (by omega) h2, ?_, ?_, rows0, rows0, ?_, ?_, ?_, ?_⟩, ?_, ?_⟩⟩
  · refine own_of_heap h.own (fun k hk1 => ?_)
    obtain ⟨c, hc⟩ := own_block h.own hk1
    refine hk k (blk_lt hc) ?_
    rintro rfl
    exact absurd (blk_type hc h.p) (by decide)
  · simp [pl0]
  · simp [pl0]
  · intro k h1 h2
    simp [Value.ownBlock] at h1 h2
    omega
  · intro i j hi hj _
    rw [List.getElem_replicate]; exact apart_nil _
  · intro i j hi hj _
    rw [List.getElem_replicate]; exact apart_nil _
  · intro i j hi hj
    rw [List.getElem_replicate]; exact apart_nil _
  · simp [pl0]
  · simp [pl0]

theorem two_tables {w wr : World} {d : Bool} {s1 s2 vi : Value} {ids : List Int} (h : Rd1 w wr d s1 s2 ids vi) (hlen : ids.length ≤ 1000) (n : Nat) (hn : n = ids.length) (NC : Array Value) (hNC : NC = madeCells #[.slice none 0 0] n) (ga gb : Nat)
    (hab : (ga = wr.heap.size ∧ gb = wr.heap.size + 1) ∨ (ga = wr.heap.size + 1 ∧ gb = wr.heap.size)) :
    PlOk ((((wr.setCell ⟨w.heap.size + 1, 1, none⟩ (.slice (some ⟨ga, 0, none⟩) n n)).setCell ⟨w.heap.size + 1, 2, none⟩ (.slice (some ⟨gb, 0, none⟩) n n)).alloc (.cells NC 176)).alloc (.cells NC 176)).drew w.heap.size (w.heap.size + 1) (pl0 ids) ∧
    ((((wr.setCell ⟨w.heap.size + 1, 1, none⟩ (.slice (some ⟨ga, 0, none⟩) n n)).setCell ⟨w.heap.size + 1, 2, none⟩ (.slice (some ⟨gb, 0, none⟩) n n)).alloc (.cells NC 176)).alloc (.cells NC 176)).drew.heap[w.heap.size]? = some (.cells #[.bool d, s1, s2] 25 (0, 0)) ∧
    Below w.heap.size w ((((wr.setCell ⟨w.heap.size + 1, 1, none⟩ (.slice (some ⟨ga, 0, none⟩) n n)).setCell ⟨w.heap.size + 1, 2, none⟩ (.slice (some ⟨gb, 0, none⟩) n n)).alloc (.cells NC 176)).alloc (.cells NC 176)).drew := by
  subst hn hNC
  obtain ⟨X, hX⟩ : ∃ X, X = (wr.setCell ⟨w.heap.size + 1, 1, none⟩ (.slice (some ⟨ga, 0, none⟩) ids.length ids.length)).setCell ⟨w.heap.size + 1, 2, none⟩ (.slice (some ⟨gb, 0, none⟩) ids.length ids.length) := ⟨_, rfl⟩
  have hxs : X.heap.size = wr.heap.size := by rw [hX]; simp [World.setCell]
  have hxb : ∀ k, k ≠ w.heap.size + 1 → X.heap[k]? = wr.heap[k]? := by
    intro k hk
    rw [hX, Below.heap_setCell _ _ _ _ hk, Below.heap_setCell _ _ _ _ hk]
  have hxp : X.heap[w.heap.size + 1]? = some (.cells #[vi, .slice (some ⟨ga, 0, none⟩) ids.length ids.length, .slice (some ⟨gb, 0, none⟩) ids.length ids.length] 140 (0, 0)) := by
    rw [hX]
    have h1 := blk_set h.p 1 (.slice (some ⟨ga, 0, none⟩) ids.length ids.length)
    have h2 := blk_set h1 2 (.slice (some ⟨gb, 0, none⟩) ids.length ids.length)
    simpa using h2
  rw [← hX]
  have hpl := blk_lt h.p
  have hA : ((X.alloc (.cells (madeCells #[.slice none 0 0] ids.length) 176)).alloc (.cells (madeCells #[.slice none 0 0] ids.length) 176)).drew.heap[wr.heap.size]? = some (.cells (madeCells #[.slice none 0 0] ids.length) 176 (0, 0)) := by
    show ((X.alloc _).alloc _).heap[_]? = _
    rw [Below.heap_alloc _ _ _ (by simp [hxs]), ← hxs]; exact heap_alloc_new _ _
  have hB : ((X.alloc (.cells (madeCells #[.slice none 0 0] ids.length) 176)).alloc (.cells (madeCells #[.slice none 0 0] ids.length) 176)).drew.heap[wr.heap.size + 1]? = some (.cells (madeCells #[.slice none 0 0] ids.length) 176 (0, 0)) := by
    show ((X.alloc _).alloc _).heap[_]? = _
    have := heap_alloc_new (X.alloc (.cells (madeCells #[.slice none 0 0] ids.length) 176)) (.cells (madeCells #[.slice none 0 0] ids.length) 176)
    rw [show (X.alloc (.cells (madeCells #[.slice none 0 0] ids.length) 176)).heap.size = wr.heap.size + 1 by simp [hxs]] at this
    exact this
  have hold : ∀ k, k < wr.heap.size → ((X.alloc (.cells (madeCells #[.slice none 0 0] ids.length) 176)).alloc (.cells (madeCells #[.slice none 0 0] ids.length) 176)).drew.heap[k]? = X.heap[k]? := by
    intro k hk
    show ((X.alloc _).alloc _).heap[_]? = _
    rw [Below.heap_alloc _ _ _ (by simp [hxs]; omega), Below.heap_alloc _ _ _ (by rw [hxs]; exact hk)]
  refine ⟨?_, ?_, ?_⟩
  · refine pl0_ok h ga gb (by omega) (by omega) (by omega) hlen ?_ ?_ ((hold _ hpl).trans hxp) (fun k hk hne => (hold k hk).trans (hxb k hne))
    · rcases hab with ⟨h1, _⟩ | ⟨h1, _⟩ <;> rw [h1] <;> assumption
    · rcases hab with ⟨_, h1⟩ | ⟨_, h1⟩ <;> rw [h1] <;> assumption
  · rw [hold _ (blk_lt h.g), hxb _ (by omega)]; exact h.g
  · have h1 : Below w.heap.size w X := by
      rw [hX]; exact (h.bel.setCell (by simp) _).setCell (by simp) _
    exact ((h1.alloc h1.size _).alloc (by simp; have := h1.size; omega) _).drew

/-- an edge that joins two of the nodes, with a weight that is not too great -/
def goodE (zs : List Int) (e : S34) : Bool := decide (e.f0 ∈ zs) && decide (e.f1 ∈ zs) && !decide (e.f0 = e.f1) && !decide (1099511627776 < e.f2) && !decide (e.f2 < -1099511627776)
def layE (d : Bool) (p : Pl) (e : S34) : Pl := p.lay (rank p.ids e.f0) (rank p.ids e.f1) (floatOfInt .f64 e.f2) d
/-- the plain graph of lists of nodes and edges -/
def plOf (d : Bool) (zs : List Int) (es : List S34) : Pl := es.foldl (layE d) (pl0 (srt zs))
/-- whether a graph is good -/
def readOk (zs : List Int) (es : List S34) : Bool := decide ((srt zs).Pairwise (· < ·)) && es.all (goodE zs)

theorem Rows2.below {w w1 : World} {base : Nat} {A B : List (List (Int × Nat))} {ra rb : List Value} {va vb : Value} (h : Rows2 w base A B ra rb va vb) (hb : Below w.heap.size w w1) : Rows2 w1 base A B ra rb va vb := by
  have hk : ∀ {e : TypeId} {size n : Nat} {v : Value} {xs : List Value}, w.ownsRow base e size v n xs → w1.ownsRow base e size v n xs := fun h => pw_own_below h hb
  exact ⟨hk h.a, hk h.b, h.la, h.lb, fun i hi => hk (h.rowA i hi), fun i hi => hk (h.rowB i hi), h.sepT, h.sepA, h.sepB, h.sepAB⟩

theorem PlOk.below {w w1 : World} {base bp : Nat} {p : Pl} (h : PlOk w base bp p) (hb : Below w.heap.size w w1) : PlOk w1 base bp p := by
  obtain ⟨ro, ri, vi, vo, vn, hp⟩ := h
  exact ⟨ro, ri, vi, vo, vn, (hb.block _ (blk_lt hp.blk)).trans hp.blk, hp.hb, pw_own_below hp.ids hb, hp.rows.below hb, hp.po, hp.pi⟩

theorem PlOk.lt {w : World} {base bp : Nat} {p : Pl} (h : PlOk w base bp p) : bp < w.heap.size := by
  obtain ⟨ro, ri, vi, vo, vn, hp⟩ := h
  exact blk_lt hp.blk

theorem pl_index (base bp : Nat) (p : Pl) (t : Int) (w : World) (h : PlOk w base bp p) (hs : p.ids.Pairwise (· < ·)) (hb : p.ids.length ≤ 1000) :
    Calls Tryz.prog 70 #[.pointer (some ⟨bp, 0, none⟩), .int .i64 t] w fun e w' => e = .returned (.tuple #[.int .i64 (rank p.ids t), .bool (decide (t ∈ p.ids))]) ∧ w = w' := by
  obtain ⟨ro, ri, vi, vo, vn, hp⟩ := h
  exact index_any base bp vi p.ids t w (by rw [blk_cell hp.blk]; rfl) hp.ids hs hb

/-- the ways through read's test of an edge -/
theorem edge_ways {zs : List Int} (hs : (srt zs).Pairwise (· < ·)) (e : S34) :
    (goodE zs e = true ∧ (decide (e.f0 ∈ srt zs) = true ∧ decide (e.f1 ∈ srt zs) = true ∧ (((rank (srt zs) e.f0 : Nat) : Int) == ((rank (srt zs) e.f1 : Nat) : Int)) = false ∧ decide (1099511627776 < e.f2) = false ∧ decide (e.f2 < -1099511627776) = false)) ∨
    (goodE zs e = false ∧ (decide (e.f0 ∈ srt zs) = false ∨
      (decide (e.f0 ∈ srt zs) = true ∧ decide (e.f1 ∈ srt zs) = false) ∨
      (decide (e.f0 ∈ srt zs) = true ∧ decide (e.f1 ∈ srt zs) = true ∧ (((rank (srt zs) e.f0 : Nat) : Int) == ((rank (srt zs) e.f1 : Nat) : Int)) = true) ∨
      (decide (e.f0 ∈ srt zs) = true ∧ decide (e.f1 ∈ srt zs) = true ∧ (((rank (srt zs) e.f0 : Nat) : Int) == ((rank (srt zs) e.f1 : Nat) : Int)) = false ∧ decide (1099511627776 < e.f2) = true) ∨
      (decide (e.f0 ∈ srt zs) = true ∧ decide (e.f1 ∈ srt zs) = true ∧ (((rank (srt zs) e.f0 : Nat) : Int) == ((rank (srt zs) e.f1 : Nat) : Int)) = false ∧ decide (1099511627776 < e.f2) = false ∧ decide (e.f2 < -1099511627776) = true))) := by
  have hm0 : decide (e.f0 ∈ zs) = decide (e.f0 ∈ srt zs) := by simp [mem_srt]
  have hm1 : decide (e.f1 ∈ zs) = decide (e.f1 ∈ srt zs) := by simp [mem_srt]
  have hr : decide (e.f0 ∈ srt zs) = true → decide (e.f1 ∈ srt zs) = true → (((rank (srt zs) e.f0 : Nat) : Int) == ((rank (srt zs) e.f1 : Nat) : Int)) = decide (e.f0 = e.f1) := by
    intro h0 h1
    obtain ⟨a0, b0⟩ := (rank_mem hs _).1 (of_decide_eq_true h0)
    obtain ⟨a1, b1⟩ := (rank_mem hs _).1 (of_decide_eq_true h1)
    by_cases he : e.f0 = e.f1
    · rw [decide_eq_true he, he]; simp
    · rw [decide_eq_false he]
      simp only [beq_eq_false_iff_ne, ne_eq]
      intro h
      have h' : rank (srt zs) e.f0 = rank (srt zs) e.f1 := by omega
      apply he
      rw [← b0, ← b1]
      simp [h']
  unfold goodE
  rw [hm0, hm1]
  generalize decide (e.f0 ∈ srt zs) = x0 at *
  generalize decide (e.f1 ∈ srt zs) = x1 at *
  generalize (((rank (srt zs) e.f0 : Nat) : Int) == ((rank (srt zs) e.f1 : Nat) : Int)) = x2 at *
  generalize decide (1099511627776 < e.f2) = x3
  generalize decide (e.f2 < -1099511627776) = x4
  generalize decide (e.f0 = e.f1) = x5 at *
  revert hr
  cases x0 <;> cases x1 <;> cases x2 <;> cases x3 <;> cases x4 <;> cases x5 <;> simp

/-- the state of read behind k edges -/
structure Rd2 (w wr : World) (d : Bool) (s1 s2 : Value) (zs : List Int) (es : List S34) : Prop where
  all : es.all (goodE zs) = true
  ok : PlOk wr w.heap.size (w.heap.size + 1) (plOf d zs es)
  g : wr.heap[w.heap.size]? = some (.cells #[.bool d, s1, s2] 25 (0, 0))
  bel : Below w.heap.size w wr

theorem foldl_ids (d : Bool) : ∀ (es : List S34) (p : Pl), (es.foldl (layE d) p).ids = p.ids
  | [], _ => rfl
  | e :: es, p => by
    rw [List.foldl_cons, foldl_ids d es]
    unfold layE Pl.lay
    split <;> rfl

theorem plOf_ids (d : Bool) (zs : List Int) (es : List S34) : (plOf d zs es).ids = srt zs := foldl_ids d es _

theorem plOf_snoc (d : Bool) (zs : List Int) (es : List S34) (e : S34) : plOf d zs (es ++ [e]) = layE d (plOf d zs es) e := by
  unfold plOf; rw [List.foldl_append]; rfl

theorem goodE_rank {zs : List Int} (h : (srt zs).Pairwise (· < ·)) {e : S34} (hg : goodE zs e = true) : rank (srt zs) e.f0 < (srt zs).length ∧ rank (srt zs) e.f1 < (srt zs).length := by
  unfold goodE at hg
  simp only [Bool.and_eq_true, decide_eq_true_eq] at hg
  obtain ⟨⟨⟨⟨h1, h2⟩, _⟩, _⟩, _⟩ := hg
  exact ⟨((rank_mem h _).1 ((mem_srt _ _).2 h1)).1, ((rank_mem h _).1 ((mem_srt _ _).2 h2)).1⟩

theorem plOf_good (d : Bool) (zs : List Int) (hz : zs.length ≤ 1000) (h : (srt zs).Pairwise (· < ·)) : ∀ (es : List S34), es.all (goodE zs) = true → (plOf d zs es).Good := by
  intro es hes
  unfold plOf
  suffices hh : ∀ (es : List S34) (p : Pl), p.ids = srt zs → p.Good → es.all (goodE zs) = true → (es.foldl (layE d) p).Good from hh es _ rfl (pl0_good _ (by rw [srt_length]; exact hz)) hes
  intro es
  induction es with
  | nil => intro p _ hp _; exact hp
  | cons e es ih =>
    intro p hi hp ha
    rw [List.all_cons, Bool.and_eq_true] at ha
    rw [List.foldl_cons]
    have hr := goodE_rank h ha.1
    have h2 : (layE d p e).ids = srt zs := by rw [← hi]; unfold layE Pl.lay; split <;> rfl
    refine ih _ h2 ?_ ha.2
    unfold layE
    rw [hi]
    exact hp.lay _ _ _ d (by rw [hi]; exact hr.1) (by rw [hi]; exact hr.2)

end Go.Proofs.YtolbfjjgdheikaaGreat.R


namespace Go.Proofs.YtolbfjjgdheikaaGreat.R
open Go.RowKit Go.Lab Go.Proofs.YtolbfjjgdheikaaGreatW.PrintWords Go.Proofs.YtolbfjjgdheikaaGreatW.PrintLast Go.Proofs.YtolbfjjgdheikaaGreatW.PrintMore PL

/-- the row of a node -/
def Pl.row (p : Pl) (u : Int) : List (Int × Nat) := p.out.getD (rank p.ids u) []
/-- the arc from a node to another one -/
def Pl.find (p : Pl) (u v : Int) : Option (Int × Nat) :=
  if u ∈ p.ids ∧ v ∈ p.ids ∧ ((rank p.ids v : Nat) : Int) ∈ keys (p.row u) then (p.row u)[rank (keys (p.row u)) ((rank p.ids v : Nat) : Int)]? else none

theorem Below.up {B : Nat} {w W w' : World} (h : Below B w W) (k : Below W.heap.size W w') (hB : B ≤ w.heap.size) : Below B w w' := h.trans (k.mono (Nat.le_trans hB h.size))

/-- whether there is an edge from u to v -/
def Pl.has (p : Pl) (u v : Int) : Bool := (p.find u v).isSome

end Go.Proofs.YtolbfjjgdheikaaGreat.R


/- Frames: what changes between two places of the heap alone. -/
namespace Go.Proofs.YtolbfjjgdheikaaGreat.R
open Go.RowKit Go.Lab Go.Proofs.YtolbfjjgdheikaaGreatW.PrintWords Go.Proofs.YtolbfjjgdheikaaGreatW.PrintLast Go.Proofs.YtolbfjjgdheikaaGreatW.PrintMore PL

def nodeV (x : Int) : Value := .iface 97 (.int .i64 x)
theorem Tryz.info72 : (Tryz.prog.info? 72).map (fun i => (i.zero, i.size, i.bytes)) = some (some .nilIface, 1, 16) := by kernel_rfl
def nodeVs (xs : List Int) : List Value := xs.map nodeV

/-- of what was there, what lies from lo on and below B alone may change -/
structure Mid (lo B : Nat) (w w' : World) : Prop where
  os : w'.os = w.os
  tape : w'.tape = w.tape
  output : w'.output = w.output
  size : w.heap.size ≤ w'.heap.size
  block : ∀ k, k < w.heap.size → (k < lo ∨ B ≤ k) → w'.heap[k]? = w.heap[k]?

theorem Mid.refl (lo B : Nat) (w : World) : Mid lo B w w := ⟨rfl, rfl, rfl, Nat.le_refl _, fun _ _ _ => rfl⟩
theorem Mid.trans {lo B : Nat} {a b c : World} (h : Mid lo B a b) (k : Mid lo B b c) : Mid lo B a c :=
  ⟨k.os.trans h.os, k.tape.trans h.tape, k.output.trans h.output, Nat.le_trans h.size k.size, fun i hi ho => (k.block i (Nat.lt_of_lt_of_le hi h.size) ho).trans (h.block i hi ho)⟩
theorem Mid.below {lo B : Nat} {w w' : World} (h : Mid lo B w w') (hlo : lo ≤ w.heap.size) : Below lo w w' :=
  ⟨h.os, h.tape, h.output, h.size, fun k hk => h.block k (by omega) (.inl hk)⟩
theorem Mid.of_below {lo B : Nat} {w w' : World} (h : Below w.heap.size w w') : Mid lo B w w' :=
  ⟨h.os, h.tape, h.output, h.size, fun k hk _ => h.block k hk⟩
theorem Mid.of_grown {lo B : Nat} {w w' : World} {row : Option Nat} (h : w.grownBy w' row) (hr : ∀ k, row = some k → k < w.heap.size → lo ≤ k ∧ k < B) : Mid lo B w w' :=
  ⟨h.os, h.tape, h.output, h.size, fun k hk ho => h.block k hk (fun e => by have := hr k e.symm hk; omega)⟩
theorem Mid.set {lo B : Nat} (w : World) (a : Addr) (v : Value) (h1 : lo ≤ a.block) (h2 : a.block < B) : Mid lo B w (w.setCell a v) :=
  ⟨rfl, rfl, rfl, by simp [World.setCell], fun k _ ho => Below.heap_setCell _ _ _ _ (by omega)⟩
theorem Mid.wide {lo B lo' B' : Nat} {w w' : World} (h : Mid lo B w w') (h1 : lo' ≤ lo) (h2 : B ≤ B') : Mid lo' B' w w' :=
  ⟨h.os, h.tape, h.output, h.size, fun k hk ho => h.block k hk (by omega)⟩
theorem Mid.own {lo B : Nat} {w w' : World} (h : Mid lo B w w') {base : Nat} {e : TypeId} {size n : Nat} {v : Value} {xs : List Value} (ho : w.ownsRow base e size v n xs) (hk : ∀ k, v.ownBlock = some k → k < lo ∨ B ≤ k) : w'.ownsRow base e size v n xs :=
  own_move ho fun k hv => by
    obtain ⟨c, hc⟩ := own_block ho hv
    exact h.block k (blk_lt hc) (hk k hv)

/-- an iterator over nodes in order, in block b; k - 1 is its place -/
structure OIt (lo B : Nat) (w : World) (b : Nat) (xs : List Int) (k : Nat) : Prop where
  ex : ∃ v, w.heap[b]? = some (.cells #[.int .i64 ((k : Int) - 1), v] 258 (0, 0)) ∧ w.ownsRow lo 72 1 v xs.length (nodeVs xs) ∧ (∀ q, v.ownBlock = some q → q < B)
  hb : lo ≤ b ∧ b < B
  hk : k ≤ xs.length + 1

theorem OIt.far {lo B : Nat} {w w' : World} {b : Nat} {xs : List Int} {k : Nat} (h : OIt lo B w b xs k) (hk : ∀ q, lo ≤ q → q < B → w'.heap[q]? = w.heap[q]?) : OIt lo B w' b xs k := by
  obtain ⟨v, h1, h2, h3⟩ := h.ex
  exact ⟨⟨v, (hk b h.hb.1 h.hb.2).trans h1, own_move h2 (fun q hq => hk q (own_base h2 q hq) (h3 q hq)), h3⟩, h.hb, h.hk⟩

theorem OIt.lt {lo B : Nat} {w : World} {b : Nat} {xs : List Int} {k : Nat} (h : OIt lo B w b xs k) : b < w.heap.size := by
  obtain ⟨v, h1, _⟩ := h.ex
  exact blk_lt h1

theorem OIt.to {lo B : Nat} {w : World} {b : Nat} {xs : List Int} {k : Nat} (h : OIt lo B w b xs k) (k' : Nat) (hk : k' ≤ xs.length + 1) : OIt lo B (w.setCell ⟨b, 0, none⟩ (.int .i64 ((k' : Int) - 1))) b xs k' := by
  obtain ⟨v, h1, h2, h3⟩ := h.ex
  refine ⟨⟨v, ?_, ?_, h3⟩, h.hb, hk⟩
  · have := blk_set h1 0 (.int .i64 ((k' : Int) - 1))
    simpa using this
  · refine own_move h2 fun q hq => Below.heap_setCell _ _ _ _ ?_
    rintro rfl
    obtain ⟨c, hc⟩ := own_block h2 hq
    exact absurd (blk_type h1 hc) (by decide)

/-- the same iterator, seen from wider places -/
theorem OIt.wide {lo B lo' B' : Nat} {w : World} {b : Nat} {xs : List Int} {k : Nat} (h : OIt lo B w b xs k) (h1 : lo' ≤ lo) (h2 : B ≤ B') : OIt lo' B' w b xs k := by
  obtain ⟨v, e1, e2, e3⟩ := h.ex
  exact ⟨⟨v, e1, own_less e2 h1, fun q hq => Nat.lt_of_lt_of_le (e3 q hq) h2⟩, ⟨Nat.le_trans h1 h.hb.1, Nat.lt_of_lt_of_le h.hb.2 h2⟩, h.hk⟩
end Go.Proofs.YtolbfjjgdheikaaGreat.R


namespace Go.Proofs.YtolbfjjgdheikaaGreat.R
open Go.RowKit Go.Lab Go.Proofs.YtolbfjjgdheikaaGreatW.PrintWords Go.Proofs.YtolbfjjgdheikaaGreatW.PrintLast Go.Proofs.YtolbfjjgdheikaaGreatW.PrintMore PL

end Go.Proofs.YtolbfjjgdheikaaGreat.R

