import Derived.Test.YtolbfjjgdheikaaGreatFB1
import Derived.Test.YtolbfjjgdheikaaGreatFS
import Derived.Shelf.SlicesE.Compact
import Derived.Deep.RegionHeld3
import Derived.Laws.MakeOwn
import Derived.Laws.Cover2
import Derived.BigRegion
import Derived.Deep.Cut
import Derived.Maps.OwnSet
import Derived.OwnWalk
set_option linter.unusedVariables false
set_option linter.unusedSimpArgs false
namespace Go.Proofs.YtolbfjjgdheikaaGreat.R
open Go.RowKit Go.Lab Go.Proofs.YtolbfjjgdheikaaGreatW.PrintWords Go.Proofs.YtolbfjjgdheikaaGreatW.PrintLast Go.Proofs.YtolbfjjgdheikaaGreatW.PrintMore

open Go.Sort in
theorem putCells_take (cur : Array Value) (n : Nat) (ys : List Int) (hl : ys.length = n) (hn : n ≤ cur.size) : (putCells (Value.int .i64) 0 ys.toArray cur).toList.take n = nums .i64 ys := by
  apply List.ext_getElem?
  intro j
  rw [List.getElem?_take]
  by_cases hj : j < n
  · rw [if_pos hj, Array.getElem?_toList]
    unfold putCells nums
    rw [Array.getElem?_mapIdx, Array.getElem?_eq_getElem (by omega), List.getElem?_map, List.getElem?_eq_getElem (by omega)]
    have : j < ys.toArray.size := by simp; omega
    simp only [Option.map_some, Nat.zero_le, true_and, Nat.zero_add, Nat.sub_zero]
    rw [if_pos this, getElem!_pos ys.toArray j this]
    simp
  · rw [if_neg hj, List.getElem?_eq_none (by rw [nums_length]; omega)]

open Go.Sort in
theorem sort_own (base : Nat) (v : Value) (xs : List Int) (w : World) (h : w.ownsRow base 2 1 v xs.length (nums .i64 xs)) (hb : xs.length ≤ 100000) :
    Calls Tryz.prog 73 #[v] w fun e w' => e = .returned (.tuple #[]) ∧ w'.ownsRow base 2 1 v xs.length (nums .i64 (srt xs)) ∧ w.grownBy w' v.ownBlock := by
  by_cases h0 : xs.length = 0
  · have hx : xs = [] := List.eq_nil_of_length_eq_zero h0
    subst hx
    obtain ⟨A, c, rfl⟩ := own_slice h
    refine (Tryz.slices_Sort_int_none_f73 A c w).mono ?_
    rintro e w' ⟨rfl, rfl⟩
    exact ⟨rfl, (by simpa [srt] using h), ⟨rfl, rfl, rfl, Nat.le_refl _, fun _ _ _ => rfl⟩⟩
  · rcases h.2 with ⟨_, hn⟩ | ⟨g, cap, cur, rfl, hb1, hg, hc1, hc2, hcs, htk⟩
    · exact absurd hn h0
    · have hH : Holds (Value.int .i64) w g 0 xs.toArray := by
        intro j hj
        have hj' : j < xs.length := by simpa using hj
        refine ⟨?_, blk_frozen hg _⟩
        rw [Nat.zero_add, blk_cell hg]
        have h1 : (cur.toList.take (xs.length * 1))[j]? = some (.int .i64 xs[j]) := by rw [htk]; simp [nums, hj']
        rw [List.getElem?_take] at h1
        split at h1
        · rw [getElem!_pos xs.toArray j (by simpa using hj)]
          simpa using h1
        · cases h1
      refine (Tryz.slices_Sort_int_f73 g 0 cap xs w hH (blk_lt hg) (by omega)).mono ?_
      rintro e w' ⟨rfl, n, os, rfl⟩
      have hgl : g < w.heap.size := blk_lt hg
      have hh : (grow (putRow (Value.int .i64) (Go.Sort.ahead w n) g 0 (xs.mergeSort fun x y => decide (x ≤ y)).toArray) os).heap[g]? = some (.cells (putCells (Value.int .i64) 0 (srt xs).toArray cur) 2 (0, 0)) := by
        have hsz : (putRow (Value.int .i64) (Go.Sort.ahead w n) g 0 (xs.mergeSort fun x y => decide (x ≤ y)).toArray).heap.size = w.heap.size := by simp [putRow, mapBlock, Go.Sort.ahead]
        rw [heap_grow_old _ _ (by rw [hsz]; exact hgl)]
        unfold putRow mapBlock
        have : (Go.Sort.ahead w n).heap = w.heap := rfl
        simp only [this, Array.getElem?_modify, if_true]
        rw [hg]
        rfl
      have hsl : (putCells (Value.int .i64) 0 (srt xs).toArray cur).size = cur.size := by simp [putCells]
      refine ⟨rfl, ⟨by rw [nums_length, srt_length]; omega, .inr ⟨g, cap, _, rfl, hb1, hh, hc1, hc2, by rw [hsl]; exact hcs, ?_⟩⟩, ⟨rfl, rfl, rfl, ?_, fun k hk hne => ?_⟩⟩
      · rw [Nat.mul_one]
        exact putCells_take cur xs.length (srt xs) (srt_length xs) (by rw [hcs]; omega)
      · simp [grow, putRow, mapBlock, Go.Sort.ahead]
      · have hkg : k ≠ g := fun e => hne (by simp [Value.ownBlock, e])
        have hsz : (putRow (Value.int .i64) (Go.Sort.ahead w n) g 0 (xs.mergeSort fun x y => decide (x ≤ y)).toArray).heap.size = w.heap.size := by simp [putRow, mapBlock, Go.Sort.ahead]
        rw [heap_grow_old _ _ (by rw [hsz]; exact hk)]
        unfold putRow mapBlock
        have : (Go.Sort.ahead w n).heap = w.heap := rfl
        simp only [this, Array.getElem?_modify]
        rw [if_neg (Ne.symm hkg)]

set_option maxHeartbeats 400000 in
theorem clone64_none (n c : Nat) (w : World) : Calls Tryz.prog 75 #[.slice none n c] w fun e w' => e = .returned (.slice none 0 0) ∧ w = w' := by
  have q60 : ∀ (w : World) (a : Option Addr) (n c n' c' : Nat), (binOp .eql 137 (.slice a n c) (.slice none n' c')).run Tryz.prog w = .ok (.bool a.isNone) w := fun w a n c n' c' => Lib.run_eql_slice_nil w _ _ a n c n' c' Tryz.underlying137
  go_enter Tryz.func75, Tryz.ntmps75
  go_wp2
  go_ret
  exact ⟨rfl, rfl⟩

/-- slices.Clone at int64: of an owned row -/
theorem clone64_own (base : Nat) (v : Value) (xs : List Int) (w : World) (h : w.ownsRow base 2 1 v xs.length (nums .i64 xs)) (hb : xs.length ≤ 100000) :
    Calls Tryz.prog 75 #[v] w fun e w' => ∃ v', e = .returned v' ∧ w'.ownsRow w.heap.size 2 1 v' xs.length (nums .i64 xs) ∧ Below w.heap.size w w' := by
  obtain ⟨A, c, rfl, hr⟩ := own_reads h
  cases A with
  | none =>
    refine (clone64_none _ _ w).mono ?_
    rintro e w' ⟨rfl, rfl⟩
    have h0 : xs.length = 0 := by
      rcases h.2 with ⟨hn, h0⟩ | ⟨g, cap, cur, hv, _⟩
      · exact h0
      · cases hv
    have hx : xs = [] := List.eq_nil_of_length_eq_zero h0
    subst hx
    exact ⟨_, rfl, World.ownsRow_nil _ _ _ _, Below.refl _ _⟩
  | some ad =>
    exact clone64_some ad c xs w (Kd.C_of_reads hr) (by omega)

set_option maxHeartbeats 400000 in
theorem index_any (base bp : Nat) (vi : Value) (ids : List Int) (t : Int) (w : World) (hc : w.cell? ⟨bp, 0, none⟩ = some vi) (h : w.ownsRow base 2 1 vi ids.length (nums .i64 ids)) (hs : ids.Pairwise (· < ·)) (hb : ids.length ≤ 1000) :
    Calls Tryz.prog 70 #[.pointer (some ⟨bp, 0, none⟩), .int .i64 t] w fun e w' => e = .returned (.tuple #[.int .i64 (rank ids t), .bool (decide (t ∈ ids))]) ∧ w = w' := by
  obtain ⟨A, c, rfl, hr⟩ := own_reads h
  have HR := Aside0.mk hr
  have HS := Aside0.mk hs
  clear h hr hs
  go_enter Tryz.func70, Tryz.ntmps70
  go_wp2_with (go_at_call 106; refine (bsearch_any A c ids t _ (Kd.C_of_reads HR.out) HS.out hb).mono ?_; rintro e w' ⟨rfl, rfl⟩)
  go_ret2
  exact ⟨rfl, rfl⟩
end Go.Proofs.YtolbfjjgdheikaaGreat.R


namespace Go.Proofs.YtolbfjjgdheikaaGreat.R
open Go.RowKit Go.Lab Go.Proofs.YtolbfjjgdheikaaGreatW.PrintWords Go.Proofs.YtolbfjjgdheikaaGreatW.PrintLast Go.Proofs.YtolbfjjgdheikaaGreatW.PrintMore

open Go.Lib in
theorem compact_len (xs : List Int) (hs : xs.Pairwise (· ≤ ·)) : (compactUpTo xs.toArray xs.length).length ≤ xs.length ∧ ((compactUpTo xs.toArray xs.length).length = xs.length ↔ xs.Pairwise (· < ·)) := by
  have hle : (compactUpTo xs.toArray xs.length).length ≤ xs.length := by
    unfold compactUpTo
    rw [List.length_map]
    exact Nat.le_trans (List.length_filter_le _ _) (by simp)
  refine ⟨hle, ?_⟩
  unfold compactUpTo
  rw [List.length_map]
  have hr : (List.range xs.length).length = xs.length := by simp
  constructor
  · intro h
    have hall : ∀ j ∈ List.range xs.length, keeps xs.toArray j = true := by
      have h2 : ((List.range xs.length).filter (keeps xs.toArray)).length = (List.range xs.length).length := by rw [h, hr]
      exact List.length_filter_eq_length_iff.1 h2
    have hadj : ∀ j (hj : j + 1 < xs.length), xs[j] < xs[j + 1] := by
      intro j hj
      have h1 := hall (j + 1) (by simpa using hj)
      have h2 : xs[j] ≤ xs[j + 1] := (List.pairwise_iff_getElem.1 hs) j (j + 1) (by omega) hj (by omega)
      unfold keeps at h1
      rw [getElem!_pos xs.toArray (j + 1) (by simpa using hj), getElem!_pos xs.toArray (j + 1 - 1) (by simp; omega)] at h1
      simp at h1
      omega
    have hmono : ∀ i k, (hk : i + k + 1 < xs.length) → xs[i]'(by omega) < xs[i + k + 1] := by
      intro i k
      induction k with
      | zero => intro hk; exact hadj i hk
      | succ k ih =>
        intro hk
        have h1 := ih (by omega)
        have h2 := hadj (i + k + 1) (by omega)
        exact Int.lt_trans h1 h2
    rw [List.pairwise_iff_getElem]
    intro i j hi hj hij
    have := hmono i (j - i - 1) (by omega)
    have e : i + (j - i - 1) + 1 = j := by omega
    simp only [e] at this
    exact this
  · intro h
    rw [List.length_filter_eq_length_iff.2, hr]
    intro j hj
    unfold keeps
    by_cases hj0 : j = 0
    · simp [hj0]
    · have hj' : j < xs.length := by simpa using hj
      rw [getElem!_pos xs.toArray j (by simpa using hj'), getElem!_pos xs.toArray (j - 1) (by simp; omega)]
      have := (List.pairwise_iff_getElem.1 h) (j - 1) j (by omega) hj' (by omega)
      simp
      right
      omega

set_option maxHeartbeats 400000 in
theorem compact_none (n c : Nat) (h : n < 2) (A : Option Addr) (w : World) : Calls Tryz.prog 74 #[.slice A n c] w fun e w' => e = .returned (.slice A n c) ∧ w = w' := by
  go_enter Tryz.func74, Tryz.ntmps74
  go_wp2
  go_ret
  exact ⟨rfl, rfl⟩

open Go.Sort in
theorem compact_own (base : Nat) (v : Value) (xs : List Int) (w : World) (h : w.ownsRow base 2 1 v xs.length (nums .i64 xs)) (hs : xs.Pairwise (· ≤ ·)) (hb : xs.length ≤ 100000) :
    Calls Tryz.prog 74 #[v] w fun e w' => ∃ A m c, e = .returned (.slice A m c) ∧ m ≤ xs.length ∧ (m = xs.length ↔ xs.Pairwise (· < ·)) ∧ w.grownBy w' v.ownBlock := by
  by_cases h0 : xs.length < 2
  · obtain ⟨A, c, rfl⟩ := own_slice h
    refine (compact_none _ c h0 A w).mono ?_
    rintro e w' ⟨rfl, rfl⟩
    refine ⟨_, _, _, rfl, Nat.le_refl _, ⟨fun _ => ?_, fun _ => rfl⟩, ⟨rfl, rfl, rfl, Nat.le_refl _, fun _ _ _ => rfl⟩⟩
    match xs, h0 with
    | [], _ => exact List.Pairwise.nil
    | [x], _ => simp
  · rcases h.2 with ⟨_, hn⟩ | ⟨g, cap, cur, rfl, hb1, hg, hc1, hc2, hcs, htk⟩
    · omega
    · have hH : Holds (Value.int .i64) w g 0 xs.toArray := by
        intro j hj
        have hj' : j < xs.length := by simpa using hj
        refine ⟨?_, blk_frozen hg _⟩
        rw [Nat.zero_add, blk_cell hg]
        have h1 : (cur.toList.take (xs.length * 1))[j]? = some (.int .i64 xs[j]) := by rw [htk]; simp [nums, hj']
        rw [List.getElem?_take] at h1
        split at h1
        · rw [getElem!_pos xs.toArray j (by simpa using hj)]
          simpa using h1
        · cases h1
      have hcl := compact_len xs hs
      have hc := AnyE.slices_Compact Tryz.laysSlE43_f74 (Value.int .i64) (fun _ => rfl) (EqlAt.intD _ _ _) (NeqAt.intD _ _ _) (0 : Int) (fun w => by kernel_rfl) g 0 cap xs.toArray w hH (by simp; omega) (by simpa using hc1)
      have hc' : Calls Tryz.prog 74 #[.slice (some ⟨g, 0, none⟩) xs.length cap] w _ := hc
      refine hc'.mono ?_
      rintro e w' ⟨rfl, q, rfl⟩
      refine ⟨_, _, _, rfl, by simpa using hcl.1, by simpa using hcl.2, ⟨rfl, rfl, rfl, by simp [putRow, mapBlock, Go.Sort.ahead], fun k hk hne => ?_⟩⟩
      have hkg : k ≠ g := fun e => hne (by simp [Value.ownBlock, e])
      unfold putRow mapBlock
      have : (Go.Sort.ahead w q).heap = w.heap := rfl
      simp only [this, Array.getElem?_modify]
      rw [if_neg (Ne.symm hkg)]
end Go.Proofs.YtolbfjjgdheikaaGreat.R


namespace Go.Proofs.YtolbfjjgdheikaaGreat.R
open Go.RowKit Go.Lab Go.Proofs.YtolbfjjgdheikaaGreatW.PrintWords Go.Proofs.YtolbfjjgdheikaaGreatW.PrintLast Go.Proofs.YtolbfjjgdheikaaGreatW.PrintMore PL

/-- the state of read behind k nodes -/
structure Rd1 (w wr : World) (d : Bool) (s1 s2 : Value) (ys : List Int) (vi : Value) : Prop where
  g : wr.heap[w.heap.size]? = some (.cells #[.bool d, s1, s2] 25 (0, 0))
  p : wr.heap[w.heap.size + 1]? = some (.cells #[vi, .slice none 0 0, .slice none 0 0] 140 (0, 0))
  own : wr.ownsRow w.heap.size 2 1 vi ys.length (nums .i64 ys)
  bel : Below w.heap.size w wr

def Rd1Ok (w wr : World) (d : Bool) (s1 s2 : Value) (ys : List Int) : Prop := ∃ vi, Rd1 w wr d s1 s2 ys vi

theorem Rd1.step {w wr w1 : World} {d : Bool} {s1 s2 : Value} {ys : List Int} {vi : Value} {x : Int} {v' : Value} (h : Rd1 w wr d s1 s2 ys vi)
    (hown : w1.ownsRow w.heap.size 2 1 v' (ys.length + 1) (nums .i64 ys ++ [.int .i64 x])) (hg : wr.grownBy w1 vi.ownBlock) :
    Rd1 w (w1.setCell ⟨w.heap.size + 1, 0, none⟩ v') d s1 s2 (ys ++ [x]) v' := by
  have hne1 : ∀ {k : Nat} {c : Array Value} {e : TypeId}, wr.heap[k]? = some (.cells c e (0,0)) → e ≠ 2 → w1.heap[k]? = wr.heap[k]? := by
    intro k c e hk he
    refine hg.block k (blk_lt hk) (fun hc => ?_)
    obtain ⟨c', hc'⟩ := own_block h.own hc.symm
    exact he (blk_type hk hc')
  refine ⟨?_, ?_, ?_, ?_⟩
  · rw [Below.heap_setCell _ _ _ _ (by simp), hne1 h.g (by decide)]; exact h.g
  · have := (hne1 h.p (by decide)).trans h.p
    have := blk_set this 0 v'
    simpa using this
  · have h2 : w1.heap[w.heap.size + 1]? = some (.cells #[vi, .slice none 0 0, .slice none 0 0] 140 (0, 0)) := (hne1 h.p (by decide)).trans h.p
    have h3 : w1.ownsRow w.heap.size 2 1 v' (ys ++ [x]).length (nums .i64 (ys ++ [x])) := by simpa [nums] using hown
    refine own_of_heap h3 (fun k hk => ?_)
    obtain ⟨c, hc⟩ := own_block h3 hk
    rw [Below.heap_setCell _ _ _ _ (by rintro rfl; exact absurd (blk_type hc h2) (by decide))]
  · exact (h.bel.grown hg h.bel.size (fun k hk => own_base h.own k hk)).setCell (by simp) _

theorem Rd1.far {w wr : World} {d : Bool} {s1 s2 : Value} {ys : List Int} {vi : Value} (h : Rd1 w wr d s1 s2 ys vi) {w1 : World} (hg : wr.grownBy w1 vi.ownBlock) {k : Nat} {c : Array Value} {e : TypeId} (hk : wr.heap[k]? = some (.cells c e (0,0))) (he : e ≠ 2) : w1.heap[k]? = wr.heap[k]? :=
  hg.block k (blk_lt hk) (fun hc => by
    obtain ⟨c', hc'⟩ := own_block h.own hc.symm
    exact he (blk_type hk hc'))

theorem Rd1.sorted {w wr w1 : World} {d : Bool} {s1 s2 : Value} {ys ys' : List Int} {vi : Value} (h : Rd1 w wr d s1 s2 ys vi) (hl : ys'.length = ys.length)
    (hown : w1.ownsRow w.heap.size 2 1 vi ys.length (nums .i64 ys')) (hg : wr.grownBy w1 vi.ownBlock) : Rd1 w w1 d s1 s2 ys' vi :=
  ⟨(h.far hg h.g (by decide)).trans h.g, (h.far hg h.p (by decide)).trans h.p, by rw [hl]; exact hown, h.bel.grown hg h.bel.size (fun k hk => own_base h.own k hk)⟩

theorem Rd1.below {w wr w1 : World} {d : Bool} {s1 s2 : Value} {ys : List Int} {vi : Value} (h : Rd1 w wr d s1 s2 ys vi) (hb : Below wr.heap.size wr w1) : Rd1 w w1 d s1 s2 ys vi :=
  ⟨(hb.block _ (blk_lt h.g)).trans h.g, (hb.block _ (blk_lt h.p)).trans h.p, h.own.kept (grown_of_below hb none) (by cases vi.ownBlock <;> simp), h.bel.trans (hb.mono h.bel.size)⟩

theorem Tryz.info176 : (Tryz.prog.info? 176).map (fun i => (i.zero, i.size, i.bytes)) = some (some (.slice none 0 0), 1, 24) := by kernel_rfl

/-- the graph with no edges -/
def pl0 (ids : List Int) : Pl := ⟨ids, List.replicate ids.length [], List.replicate ids.length []⟩

theorem pl0_good (ids : List Int) (h : ids.length ≤ 1000) : (pl0 ids).Good := by
  have hr : ∀ i, GoodRow ids.length ((List.replicate ids.length ([] : List (Int × Nat))).getD i []) := by
    intro i
    have : (List.replicate ids.length ([] : List (Int × Nat))).getD i [] = [] := by
      rw [List.getD_eq_getElem?_getD, List.getElem?_replicate]; split <;> rfl
    rw [this]
    exact ⟨List.Pairwise.nil, by simp⟩
  exact ⟨h, hr, hr⟩

theorem rows0 {w : World} {base : Nat} {n : Nat} : ∀ i (h : i < (List.replicate n (Value.slice none 0 0)).length), w.ownsRow base 208 2 (List.replicate n (Value.slice none 0 0))[i] ((List.replicate n ([] : List (Int × Nat))).getD i []).length (fl ((List.replicate n ([] : List (Int × Nat))).getD i [])) := by
  intro i h
  have : (List.replicate n ([] : List (Int × Nat))).getD i [] = [] := by
    rw [List.getD_eq_getElem?_getD, List.getElem?_replicate]; split <;> rfl
  rw [this, List.getElem_replicate]
  exact World.ownsRow_nil _ _ _ _

theorem apart_nil (v : Value) : ApartS (.slice none 0 0) v := fun k hk => by simp [Value.ownBlock] at hk

theorem made_toList (n : Nat) : (madeCells #[Value.slice none 0 0] n).toList = List.replicate n (Value.slice none 0 0) := by
  apply List.ext_getElem
  · simp [madeCells]
  · intro i h1 h2
    simp [madeCells, Nat.mod_one]

/-- the two tables just made -/
theorem pl0_ok {w wr w1 : World} {d : Bool} {s1 s2 vi : Value} {ids : List Int} (h : Rd1 w wr d s1 s2 ids vi) (ga gb : Nat) (hab : ga ≠ gb) (ha : wr.heap.size ≤ ga) (hb : wr.heap.size ≤ gb) (hlen : ids.length ≤ 1000)
    (h1 : w1.heap[ga]? = some (.cells (madeCells #[.slice none 0 0] ids.length) 176 (0, 0))) (h2 : w1.heap[gb]? = some (.cells (madeCells #[.slice none 0 0] ids.length) 176 (0, 0)))
    (hp : w1.heap[w.heap.size + 1]? = some (.cells #[vi, .slice (some ⟨ga, 0, none⟩) ids.length ids.length, .slice (some ⟨gb, 0, none⟩) ids.length ids.length] 140 (0, 0)))
    (hk : ∀ k, k < wr.heap.size → k ≠ w.heap.size + 1 → w1.heap[k]? = wr.heap[k]?) : PlOk w1 w.heap.size (w.heap.size + 1) (pl0 ids) := by
  have hsz := h.bel.size
  have hown : ∀ g, w.heap.size ≤ g → w1.heap[g]? = some (.cells (madeCells #[.slice none 0 0] ids.length) 176 (0, 0)) →
      w1.ownsRow w.heap.size 176 1 (.slice (some ⟨g, 0, none⟩) ids.length ids.length) (List.replicate ids.length (Value.slice none 0 0)).length (List.replicate ids.length (Value.slice none 0 0)) := by
    intro g hg hh
    refine ⟨by simp, .inr ⟨g, ids.length, _, by simp, hg, hh, by simp, by unfold maxLen; omega, by simp [size_madeCells], ?_⟩⟩
    rw [made_toList, List.length_replicate, Nat.mul_one, List.take_of_length_le (by simp)]
  refine ⟨List.replicate ids.length (.slice none 0 0), List.replicate ids.length (.slice none 0 0), vi, _, _, ⟨hp, by omega, ?_, ⟨hown ga (by omega) h1, hown gb (by omega) h2, ?_, ?_, rows0, rows0, ?_, ?_, ?_, ?_⟩, ?_, ?_⟩⟩
  · refine own_of_heap h.own (fun k hk1 => ?_)
    obtain ⟨c, hc⟩ := own_block h.own hk1
    refine hk k (blk_lt hc) ?_
    rintro rfl
    exact absurd (blk_type hc h.p) (by decide)
  · simp [pl0]
  · simp [pl0]
  · intro k h1 h2
    simp [Value.ownBlock] at h1 h2
    omega
  · intro i j hi hj _
    rw [List.getElem_replicate]; exact apart_nil _
  · intro i j hi hj _
    rw [List.getElem_replicate]; exact apart_nil _
  · intro i j hi hj
    rw [List.getElem_replicate]; exact apart_nil _
  · simp [pl0]
  · simp [pl0]

theorem two_tables {w wr : World} {d : Bool} {s1 s2 vi : Value} {ids : List Int} (h : Rd1 w wr d s1 s2 ids vi) (hlen : ids.length ≤ 1000) (n : Nat) (hn : n = ids.length) (NC : Array Value) (hNC : NC = madeCells #[.slice none 0 0] n) (ga gb : Nat)
    (hab : (ga = wr.heap.size ∧ gb = wr.heap.size + 1) ∨ (ga = wr.heap.size + 1 ∧ gb = wr.heap.size)) :
    PlOk ((((wr.setCell ⟨w.heap.size + 1, 1, none⟩ (.slice (some ⟨ga, 0, none⟩) n n)).setCell ⟨w.heap.size + 1, 2, none⟩ (.slice (some ⟨gb, 0, none⟩) n n)).alloc (.cells NC 176)).alloc (.cells NC 176)).drew w.heap.size (w.heap.size + 1) (pl0 ids) ∧
    ((((wr.setCell ⟨w.heap.size + 1, 1, none⟩ (.slice (some ⟨ga, 0, none⟩) n n)).setCell ⟨w.heap.size + 1, 2, none⟩ (.slice (some ⟨gb, 0, none⟩) n n)).alloc (.cells NC 176)).alloc (.cells NC 176)).drew.heap[w.heap.size]? = some (.cells #[.bool d, s1, s2] 25 (0, 0)) ∧
    Below w.heap.size w ((((wr.setCell ⟨w.heap.size + 1, 1, none⟩ (.slice (some ⟨ga, 0, none⟩) n n)).setCell ⟨w.heap.size + 1, 2, none⟩ (.slice (some ⟨gb, 0, none⟩) n n)).alloc (.cells NC 176)).alloc (.cells NC 176)).drew := by
  subst hn hNC
  obtain ⟨X, hX⟩ : ∃ X, X = (wr.setCell ⟨w.heap.size + 1, 1, none⟩ (.slice (some ⟨ga, 0, none⟩) ids.length ids.length)).setCell ⟨w.heap.size + 1, 2, none⟩ (.slice (some ⟨gb, 0, none⟩) ids.length ids.length) := ⟨_, rfl⟩
  have hxs : X.heap.size = wr.heap.size := by rw [hX]; simp [World.setCell]
  have hxb : ∀ k, k ≠ w.heap.size + 1 → X.heap[k]? = wr.heap[k]? := by
    intro k hk
    rw [hX, Below.heap_setCell _ _ _ _ hk, Below.heap_setCell _ _ _ _ hk]
  have hxp : X.heap[w.heap.size + 1]? = some (.cells #[vi, .slice (some ⟨ga, 0, none⟩) ids.length ids.length, .slice (some ⟨gb, 0, none⟩) ids.length ids.length] 140 (0, 0)) := by
    rw [hX]
    have h1 := blk_set h.p 1 (.slice (some ⟨ga, 0, none⟩) ids.length ids.length)
    have h2 := blk_set h1 2 (.slice (some ⟨gb, 0, none⟩) ids.length ids.length)
    simpa using h2
  rw [← hX]
  have hpl := blk_lt h.p
  have hA : ((X.alloc (.cells (madeCells #[.slice none 0 0] ids.length) 176)).alloc (.cells (madeCells #[.slice none 0 0] ids.length) 176)).drew.heap[wr.heap.size]? = some (.cells (madeCells #[.slice none 0 0] ids.length) 176 (0, 0)) := by
    show ((X.alloc _).alloc _).heap[_]? = _
    rw [Below.heap_alloc _ _ _ (by simp [hxs]), ← hxs]; exact heap_alloc_new _ _
  have hB : ((X.alloc (.cells (madeCells #[.slice none 0 0] ids.length) 176)).alloc (.cells (madeCells #[.slice none 0 0] ids.length) 176)).drew.heap[wr.heap.size + 1]? = some (.cells (madeCells #[.slice none 0 0] ids.length) 176 (0, 0)) := by
    show ((X.alloc _).alloc _).heap[_]? = _
    have := heap_alloc_new (X.alloc (.cells (madeCells #[.slice none 0 0] ids.length) 176)) (.cells (madeCells #[.slice none 0 0] ids.length) 176)
    rw [show (X.alloc (.cells (madeCells #[.slice none 0 0] ids.length) 176)).heap.size = wr.heap.size + 1 by simp [hxs]] at this
    exact this
  have hold : ∀ k, k < wr.heap.size → ((X.alloc (.cells (madeCells #[.slice none 0 0] ids.length) 176)).alloc (.cells (madeCells #[.slice none 0 0] ids.length) 176)).drew.heap[k]? = X.heap[k]? := by
    intro k hk
    show ((X.alloc _).alloc _).heap[_]? = _
    rw [Below.heap_alloc _ _ _ (by simp [hxs]; omega), Below.heap_alloc _ _ _ (by rw [hxs]; exact hk)]
  refine ⟨?_, ?_, ?_⟩
  · refine pl0_ok h ga gb (by omega) (by omega) (by omega) hlen ?_ ?_ ((hold _ hpl).trans hxp) (fun k hk hne => (hold k hk).trans (hxb k hne))
    · rcases hab with ⟨h1, _⟩ | ⟨h1, _⟩ <;> rw [h1] <;> assumption
    · rcases hab with ⟨_, h1⟩ | ⟨_, h1⟩ <;> rw [h1] <;> assumption
  · rw [hold _ (blk_lt h.g), hxb _ (by omega)]; exact h.g
  · have h1 : Below w.heap.size w X := by
      rw [hX]; exact (h.bel.setCell (by simp) _).setCell (by simp) _
    exact ((h1.alloc h1.size _).alloc (by simp; have := h1.size; omega) _).drew

/-- an edge that joins two of the nodes, with a weight that is not too great -/
def goodE (zs : List Int) (e : S34) : Bool := decide (e.f0 ∈ zs) && decide (e.f1 ∈ zs) && !decide (e.f0 = e.f1) && !decide (1099511627776 < e.f2) && !decide (e.f2 < -1099511627776)
def layE (d : Bool) (p : Pl) (e : S34) : Pl := p.lay (rank p.ids e.f0) (rank p.ids e.f1) (floatOfInt .f64 e.f2) d
/-- the plain graph of lists of nodes and edges -/
def plOf (d : Bool) (zs : List Int) (es : List S34) : Pl := es.foldl (layE d) (pl0 (srt zs))
/-- whether a graph is good -/
def readOk (zs : List Int) (es : List S34) : Bool := decide ((srt zs).Pairwise (· < ·)) && es.all (goodE zs)

theorem Rows2.below {w w1 : World} {base : Nat} {A B : List (List (Int × Nat))} {ra rb : List Value} {va vb : Value} (h : Rows2 w base A B ra rb va vb) (hb : Below w.heap.size w w1) : Rows2 w1 base A B ra rb va vb := by
  have hk : ∀ {e : TypeId} {size n : Nat} {v : Value} {xs : List Value}, w.ownsRow base e size v n xs → w1.ownsRow base e size v n xs := fun h => pw_own_below h hb
  exact ⟨hk h.a, hk h.b, h.la, h.lb, fun i hi => hk (h.rowA i hi), fun i hi => hk (h.rowB i hi), h.sepT, h.sepA, h.sepB, h.sepAB⟩

theorem PlOk.below {w w1 : World} {base bp : Nat} {p : Pl} (h : PlOk w base bp p) (hb : Below w.heap.size w w1) : PlOk w1 base bp p := by
  obtain ⟨ro, ri, vi, vo, vn, hp⟩ := h
  exact ⟨ro, ri, vi, vo, vn, (hb.block _ (blk_lt hp.blk)).trans hp.blk, hp.hb, pw_own_below hp.ids hb, hp.rows.below hb, hp.po, hp.pi⟩

theorem PlOk.lt {w : World} {base bp : Nat} {p : Pl} (h : PlOk w base bp p) : bp < w.heap.size := by
  obtain ⟨ro, ri, vi, vo, vn, hp⟩ := h
  exact blk_lt hp.blk

theorem pl_index (base bp : Nat) (p : Pl) (t : Int) (w : World) (h : PlOk w base bp p) (hs : p.ids.Pairwise (· < ·)) (hb : p.ids.length ≤ 1000) :
    Calls Tryz.prog 70 #[.pointer (some ⟨bp, 0, none⟩), .int .i64 t] w fun e w' => e = .returned (.tuple #[.int .i64 (rank p.ids t), .bool (decide (t ∈ p.ids))]) ∧ w = w' := by
  obtain ⟨ro, ri, vi, vo, vn, hp⟩ := h
  exact index_any base bp vi p.ids t w (by rw [blk_cell hp.blk]; rfl) hp.ids hs hb

/-- the ways through read's test of an edge -/
theorem edge_ways {zs : List Int} (hs : (srt zs).Pairwise (· < ·)) (e : S34) :
    (goodE zs e = true ∧ (decide (e.f0 ∈ srt zs) = true ∧ decide (e.f1 ∈ srt zs) = true ∧ (((rank (srt zs) e.f0 : Nat) : Int) == ((rank (srt zs) e.f1 : Nat) : Int)) = false ∧ decide (1099511627776 < e.f2) = false ∧ decide (e.f2 < -1099511627776) = false)) ∨
    (goodE zs e = false ∧ (decide (e.f0 ∈ srt zs) = false ∨
      (decide (e.f0 ∈ srt zs) = true ∧ decide (e.f1 ∈ srt zs) = false) ∨
      (decide (e.f0 ∈ srt zs) = true ∧ decide (e.f1 ∈ srt zs) = true ∧ (((rank (srt zs) e.f0 : Nat) : Int) == ((rank (srt zs) e.f1 : Nat) : Int)) = true) ∨
      (decide (e.f0 ∈ srt zs) = true ∧ decide (e.f1 ∈ srt zs) = true ∧ (((rank (srt zs) e.f0 : Nat) : Int) == ((rank (srt zs) e.f1 : Nat) : Int)) = false ∧ decide (1099511627776 < e.f2) = true) ∨
      (decide (e.f0 ∈ srt zs) = true ∧ decide (e.f1 ∈ srt zs) = true ∧ (((rank (srt zs) e.f0 : Nat) : Int) == ((rank (srt zs) e.f1 : Nat) : Int)) = false ∧ decide (1099511627776 < e.f2) = false ∧ decide (e.f2 < -1099511627776) = true))) := by
  have hm0 : decide (e.f0 ∈ zs) = decide (e.f0 ∈ srt zs) := by simp [mem_srt]
  have hm1 : decide (e.f1 ∈ zs) = decide (e.f1 ∈ srt zs) := by simp [mem_srt]
  have hr : decide (e.f0 ∈ srt zs) = true → decide (e.f1 ∈ srt zs) = true → (((rank (srt zs) e.f0 : Nat) : Int) == ((rank (srt zs) e.f1 : Nat) : Int)) = decide (e.f0 = e.f1) := by
    intro h0 h1
    obtain ⟨a0, b0⟩ := (rank_mem hs _).1 (of_decide_eq_true h0)
    obtain ⟨a1, b1⟩ := (rank_mem hs _).1 (of_decide_eq_true h1)
    by_cases he : e.f0 = e.f1
    · rw [decide_eq_true he, he]; simp
    · rw [decide_eq_false he]
      simp only [beq_eq_false_iff_ne, ne_eq]
      intro h
      have h' : rank (srt zs) e.f0 = rank (srt zs) e.f1 := by omega
      apply he
      rw [← b0, ← b1]
      simp [h']
  unfold goodE
  rw [hm0, hm1]
  generalize decide (e.f0 ∈ srt zs) = x0 at *
  generalize decide (e.f1 ∈ srt zs) = x1 at *
  generalize (((rank (srt zs) e.f0 : Nat) : Int) == ((rank (srt zs) e.f1 : Nat) : Int)) = x2 at *
  generalize decide (1099511627776 < e.f2) = x3
  generalize decide (e.f2 < -1099511627776) = x4
  generalize decide (e.f0 = e.f1) = x5 at *
  revert hr
  cases x0 <;> cases x1 <;> cases x2 <;> cases x3 <;> cases x4 <;> cases x5 <;> simp

/-- the state of read behind k edges -/
structure Rd2 (w wr : World) (d : Bool) (s1 s2 : Value) (zs : List Int) (es : List S34) : Prop where
  all : es.all (goodE zs) = true
  ok : PlOk wr w.heap.size (w.heap.size + 1) (plOf d zs es)
  g : wr.heap[w.heap.size]? = some (.cells #[.bool d, s1, s2] 25 (0, 0))
  bel : Below w.heap.size w wr

theorem foldl_ids (d : Bool) : ∀ (es : List S34) (p : Pl), (es.foldl (layE d) p).ids = p.ids
  | [], _ => rfl
  | e :: es, p => by
    rw [List.foldl_cons, foldl_ids d es]
    unfold layE Pl.lay
    split <;> rfl

theorem plOf_ids (d : Bool) (zs : List Int) (es : List S34) : (plOf d zs es).ids = srt zs := foldl_ids d es _

theorem plOf_snoc (d : Bool) (zs : List Int) (es : List S34) (e : S34) : plOf d zs (es ++ [e]) = layE d (plOf d zs es) e := by
  unfold plOf; rw [List.foldl_append]; rfl

theorem goodE_rank {zs : List Int} (h : (srt zs).Pairwise (· < ·)) {e : S34} (hg : goodE zs e = true) : rank (srt zs) e.f0 < (srt zs).length ∧ rank (srt zs) e.f1 < (srt zs).length := by
  unfold goodE at hg
  simp only [Bool.and_eq_true, decide_eq_true_eq] at hg
  obtain ⟨⟨⟨⟨h1, h2⟩, _⟩, _⟩, _⟩ := hg
  exact ⟨((rank_mem h _).1 ((mem_srt _ _).2 h1)).1, ((rank_mem h _).1 ((mem_srt _ _).2 h2)).1⟩

theorem plOf_good (d : Bool) (zs : List Int) (hz : zs.length ≤ 1000) (h : (srt zs).Pairwise (· < ·)) : ∀ (es : List S34), es.all (goodE zs) = true → (plOf d zs es).Good := by
  intro es hes
  unfold plOf
  suffices hh : ∀ (es : List S34) (p : Pl), p.ids = srt zs → p.Good → es.all (goodE zs) = true → (es.foldl (layE d) p).Good from hh es _ rfl (pl0_good _ (by rw [srt_length]; exact hz)) hes
  intro es
  induction es with
  | nil => intro p _ hp _; exact hp
  | cons e es ih =>
    intro p hi hp ha
    rw [List.all_cons, Bool.and_eq_true] at ha
    rw [List.foldl_cons]
    have hr := goodE_rank h ha.1
    have h2 : (layE d p e).ids = srt zs := by rw [← hi]; unfold layE Pl.lay; split <;> rfl
    refine ih _ h2 ?_ ha.2
    unfold layE
    rw [hi]
    exact hp.lay _ _ _ d (by rw [hi]; exact hr.1) (by rw [hi]; exact hr.2)

end Go.Proofs.YtolbfjjgdheikaaGreat.R


namespace Go.Proofs.YtolbfjjgdheikaaGreat.R
open Go.RowKit Go.Lab Go.Proofs.YtolbfjjgdheikaaGreatW.PrintWords Go.Proofs.YtolbfjjgdheikaaGreatW.PrintLast Go.Proofs.YtolbfjjgdheikaaGreatW.PrintMore PL

/-- the row of a node -/
def Pl.row (p : Pl) (u : Int) : List (Int × Nat) := p.out.getD (rank p.ids u) []
/-- the arc from a node to another one -/
def Pl.find (p : Pl) (u v : Int) : Option (Int × Nat) :=
  if u ∈ p.ids ∧ v ∈ p.ids ∧ ((rank p.ids v : Nat) : Int) ∈ keys (p.row u) then (p.row u)[rank (keys (p.row u)) ((rank p.ids v : Nat) : Int)]? else none

theorem Below.up {B : Nat} {w W w' : World} (h : Below B w W) (k : Below W.heap.size W w') (hB : B ≤ w.heap.size) : Below B w w' := h.trans (k.mono (Nat.le_trans hB h.size))

/-- whether there is an edge from u to v -/
def Pl.has (p : Pl) (u v : Int) : Bool := (p.find u v).isSome

end Go.Proofs.YtolbfjjgdheikaaGreat.R


/- Frames: what changes between two places of the heap alone. -/
namespace Go.Proofs.YtolbfjjgdheikaaGreat.R
open Go.RowKit Go.Lab Go.Proofs.YtolbfjjgdheikaaGreatW.PrintWords Go.Proofs.YtolbfjjgdheikaaGreatW.PrintLast Go.Proofs.YtolbfjjgdheikaaGreatW.PrintMore PL

def nodeV (x : Int) : Value := .iface 97 (.int .i64 x)
theorem Tryz.info72 : (Tryz.prog.info? 72).map (fun i => (i.zero, i.size, i.bytes)) = some (some .nilIface, 1, 16) := by kernel_rfl
def nodeVs (xs : List Int) : List Value := xs.map nodeV

/-- of what was there, what lies from lo on and below B alone may change -/
structure Mid (lo B : Nat) (w w' : World) : Prop where
  os : w'.os = w.os
  tape : w'.tape = w.tape
  output : w'.output = w.output
  size : w.heap.size ≤ w'.heap.size
  block : ∀ k, k < w.heap.size → (k < lo ∨ B ≤ k) → w'.heap[k]? = w.heap[k]?

theorem Mid.refl (lo B : Nat) (w : World) : Mid lo B w w := ⟨rfl, rfl, rfl, Nat.le_refl _, fun _ _ _ => rfl⟩
theorem Mid.trans {lo B : Nat} {a b c : World} (h : Mid lo B a b) (k : Mid lo B b c) : Mid lo B a c :=
  ⟨k.os.trans h.os, k.tape.trans h.tape, k.output.trans h.output, Nat.le_trans h.size k.size, fun i hi ho => (k.block i (Nat.lt_of_lt_of_le hi h.size) ho).trans (h.block i hi ho)⟩
theorem Mid.below {lo B : Nat} {w w' : World} (h : Mid lo B w w') (hlo : lo ≤ w.heap.size) : Below lo w w' :=
  ⟨h.os, h.tape, h.output, h.size, fun k hk => h.block k (by omega) (.inl hk)⟩
theorem Mid.of_below {lo B : Nat} {w w' : World} (h : Below w.heap.size w w') : Mid lo B w w' :=
  ⟨h.os, h.tape, h.output, h.size, fun k hk _ => h.block k hk⟩
theorem Mid.of_grown {lo B : Nat} {w w' : World} {row : Option Nat} (h : w.grownBy w' row) (hr : ∀ k, row = some k → k < w.heap.size → lo ≤ k ∧ k < B) : Mid lo B w w' :=
  ⟨h.os, h.tape, h.output, h.size, fun k hk ho => h.block k hk (fun e => by have := hr k e.symm hk; omega)⟩
theorem Mid.set {lo B : Nat} (w : World) (a : Addr) (v : Value) (h1 : lo ≤ a.block) (h2 : a.block < B) : Mid lo B w (w.setCell a v) :=
  ⟨rfl, rfl, rfl, by simp [World.setCell], fun k _ ho => Below.heap_setCell _ _ _ _ (by omega)⟩
theorem Mid.wide {lo B lo' B' : Nat} {w w' : World} (h : Mid lo B w w') (h1 : lo' ≤ lo) (h2 : B ≤ B') : Mid lo' B' w w' :=
  ⟨h.os, h.tape, h.output, h.size, fun k hk ho => h.block k hk (by omega)⟩
theorem Mid.own {lo B : Nat} {w w' : World} (h : Mid lo B w w') {base : Nat} {e : TypeId} {size n : Nat} {v : Value} {xs : List Value} (ho : w.ownsRow base e size v n xs) (hk : ∀ k, v.ownBlock = some k → k < lo ∨ B ≤ k) : w'.ownsRow base e size v n xs :=
  own_move ho fun k hv => by
    obtain ⟨c, hc⟩ := own_block ho hv
    exact h.block k (blk_lt hc) (hk k hv)

/-- an iterator over nodes in order, in block b; k - 1 is its place -/
structure OIt (lo B : Nat) (w : World) (b : Nat) (xs : List Int) (k : Nat) : Prop where
  ex : ∃ v, w.heap[b]? = some (.cells #[.int .i64 ((k : Int) - 1), v] 258 (0, 0)) ∧ w.ownsRow lo 72 1 v xs.length (nodeVs xs) ∧ (∀ q, v.ownBlock = some q → q < B)
  hb : lo ≤ b ∧ b < B
  hk : k ≤ xs.length + 1

theorem OIt.far {lo B : Nat} {w w' : World} {b : Nat} {xs : List Int} {k : Nat} (h : OIt lo B w b xs k) (hk : ∀ q, lo ≤ q → q < B → w'.heap[q]? = w.heap[q]?) : OIt lo B w' b xs k := by
  obtain ⟨v, h1, h2, h3⟩ := h.ex
  exact ⟨⟨v, (hk b h.hb.1 h.hb.2).trans h1, own_move h2 (fun q hq => hk q (own_base h2 q hq) (h3 q hq)), h3⟩, h.hb, h.hk⟩

theorem OIt.lt {lo B : Nat} {w : World} {b : Nat} {xs : List Int} {k : Nat} (h : OIt lo B w b xs k) : b < w.heap.size := by
  obtain ⟨v, h1, _⟩ := h.ex
  exact blk_lt h1

theorem OIt.to {lo B : Nat} {w : World} {b : Nat} {xs : List Int} {k : Nat} (h : OIt lo B w b xs k) (k' : Nat) (hk : k' ≤ xs.length + 1) : OIt lo B (w.setCell ⟨b, 0, none⟩ (.int .i64 ((k' : Int) - 1))) b xs k' := by
  obtain ⟨v, h1, h2, h3⟩ := h.ex
  refine ⟨⟨v, ?_, ?_, h3⟩, h.hb, hk⟩
  · have := blk_set h1 0 (.int .i64 ((k' : Int) - 1))
    simpa using this
  · refine own_move h2 fun q hq => Below.heap_setCell _ _ _ _ ?_
    rintro rfl
    obtain ⟨c, hc⟩ := own_block h2 hq
    exact absurd (blk_type h1 hc) (by decide)

/-- the same iterator, seen from wider places -/
theorem OIt.wide {lo B lo' B' : Nat} {w : World} {b : Nat} {xs : List Int} {k : Nat} (h : OIt lo B w b xs k) (h1 : lo' ≤ lo) (h2 : B ≤ B') : OIt lo' B' w b xs k := by
  obtain ⟨v, e1, e2, e3⟩ := h.ex
  exact ⟨⟨v, e1, own_less e2 h1, fun q hq => Nat.lt_of_lt_of_le (e3 q hq) h2⟩, ⟨Nat.le_trans h1 h.hb.1, Nat.lt_of_lt_of_le h.hb.2 h2⟩, h.hk⟩
end Go.Proofs.YtolbfjjgdheikaaGreat.R


namespace Go.Proofs.YtolbfjjgdheikaaGreat.R
open Go.RowKit Go.Lab Go.Proofs.YtolbfjjgdheikaaGreatW.PrintWords Go.Proofs.YtolbfjjgdheikaaGreatW.PrintLast Go.Proofs.YtolbfjjgdheikaaGreatW.PrintMore PL

end Go.Proofs.YtolbfjjgdheikaaGreat.R


/- impl.read once more: also what is read of a bad graph can be searched. -/
namespace Go.Proofs.YtolbfjjgdheikaaGreat.R
open Go.RowKit Go.Lab Go.Proofs.YtolbfjjgdheikaaGreatW.PrintWords Go.Proofs.YtolbfjjgdheikaaGreatW.PrintLast Go.Proofs.YtolbfjjgdheikaaGreatW.PrintMore Go.Proofs.YtolbfjjgdheikaaGreat.PL

/-- the row of nodes is there, whatever is in it -/
def IdsAt (w : World) (base bp : Nat) : Prop := ∃ vi ids, w.cell? ⟨bp, 0, none⟩ = some vi ∧ w.ownsRow base 2 1 vi ids.length (nums .i64 ids) ∧ ids.length ≤ 1000
theorem ids_of_pl {w : World} {base bp : Nat} {p : Pl} (h : PlOk w base bp p) (hn : p.ids.length ≤ 1000) : IdsAt w base bp := by
  obtain ⟨ro, ri, vi, vo, vn, hp⟩ := h
  exact ⟨vi, p.ids, by rw [blk_cell hp.blk]; rfl, hp.ids, hn⟩
theorem ids_of_rd {w W : World} {d : Bool} {v1 v2 vi : Value} {ids : List Int} (h : Rd1 w W d v1 v2 ids vi) (hn : ids.length ≤ 1000) : IdsAt W w.heap.size (w.heap.size + 1) :=
  ⟨vi, ids, by rw [blk_cell h.p]; rfl, h.own, hn⟩

set_option maxHeartbeats 4000000 in
set_option maxRecDepth 100000 in
theorem read_any2 (d : Bool) (A1 A2 : Option Addr) (c1 c2 : Nat) (zs : List Int) (es : List S34) (w : World)
    (hN : Kd.C (Kd.int .i64) w A1 zs.length zs) (hE : Kd.C k34 w A2 es.length es) (hn : zs.length ≤ 1000) (he : es.length ≤ 1000000) :
    Calls Tryz.prog 52 #[.agg #[.bool d, .slice A1 zs.length c1, .slice A2 es.length c2]] w fun e w' => e = .returned (.tuple #[.pointer (some ⟨w.heap.size + 1, 0, none⟩), .bool (readOk zs es)]) ∧ Below w.heap.size w w' ∧ IdsAt w' w.heap.size (w.heap.size + 1) ∧ (readOk zs es = true → PlOk w' w.heap.size (w.heap.size + 1) (plOf d zs es)) := by
  have HN := Aside0.mk hN
  have HE := Aside0.mk hE
  obtain ⟨i0, hi, hz0, hz1, hz2⟩ := info_parts Tryz.info2
  have HI := Aside0.mk (And.intro hi (And.intro hz0 (And.intro hz1 hz2)))
  clear hN hE hi hz0 hz1 hz2
  go_enter Tryz.func52, Tryz.ntmps52
  go_wp2
  go_loopw [18] (fun i wr => ∃ k : Nat, k ≤ zs.length ∧ i = .int .i64 k ∧ Aside0 (Rd1Ok w wr d (.slice A1 zs.length c1) (.slice A2 es.length c2) (zs.take k))) (fun i _ => zs.length - (intOf i).toNat)
  case atStart =>
    refine ⟨0, Nat.zero_le _, rfl, ⟨.slice none 0 0, ?_, ?_, World.ownsRow_nil _ _ _ _, ?_⟩⟩
    · rw [Below.heap_alloc _ _ _ (by simp)]; exact heap_alloc_new _ _
    · have := heap_alloc_new (w.alloc (Obj.cells #[Value.bool d, Value.slice A1 zs.length c1, Value.slice A2 es.length c2] 25)) (Obj.cells #[Value.slice none 0 0, Value.slice none 0 0, Value.slice none 0 0] 140)
      simpa using this
    · exact ((Below.refl _ w).alloc (Nat.le_refl _) _).alloc (by simp) _
  case round =>
    obtain ⟨k, hk, rfl, hR⟩ := hrel
    obtain ⟨vi, hR⟩ := hR.out
    have hp0 : wr.cell? ⟨w.heap.size + 1, 0, none⟩ = some vi := by rw [blk_cell hR.p]; rfl
    obtain ⟨V, c, hvi⟩ := own_slice hR.own
    have hl : (zs.take k).length = k := by rw [List.length_take]; omega
    have HR := Aside0.mk hR
    have HL := Aside0.mk hl
    by_cases hlt : k < zs.length
    · obtain ⟨ad, rfl, hc⟩ := C_int_at (Kd.C_below HN.out ⟨hR.bel.os, hR.bel.tape, hR.bel.output, hR.bel.size, hR.bel.block⟩) k hlt
      have hbz := hR.bel.size
      have hzz := blk_lt hR.p
      have hts : zs.take (k + 1) = zs.take k ++ [zs.getD k 0] := by
        rw [List.take_succ_eq_append_getElem hlt]; simp [List.getD_eq_getElem?_getD, hlt]
      have HTS := Aside0.mk hts
      clear hts hl hR hvi
      generalize zs.getD k 0 = x at hc HTS
      go_wp2_with (at_builtin; refine wpList_append_own _ rfl _ _ 137 rfl w.heap.size 2 i0 (.int .i64 0) 1 8 Tryz.underlying137 HI.out.1 HI.out.2.1 HI.out.2.2.1 HI.out.2.2.2 rfl (by decide) _ k (nums .i64 (zs.take k)) rfl (World.ownsRow.alloc (by have := HR.out.own; rwa [HL.out] at this) _) ⟨wr.heap.size, 0, none⟩ 1 1 [.int .i64 x] rfl rfl (cell_one_new _ _ _) ?q2 ?q3 ?q4 ?q5 ?_)
      case q2 => intro u hu; simp at hu; subst hu; rfl
      case q3 => unfold maxLen; omega
      case q4 => omega
      case q5 => simp; omega
      intro v' w1 hown hgr _
      obtain ⟨V', c', hv'⟩ := own_slice hown
      subst hv'
      have hstep := HR.out.step (by rw [HL.out]; exact hown) ((World.grownBy_alloc _ _ _).trans hgr)
      have HSTEP := Aside0.mk hstep
      have hq := ((World.grownBy_alloc wr _ _).trans hgr).block (w.heap.size + 1) hzz (fun hc => by
        obtain ⟨c', hc'⟩ := own_block HR.out.own hc.symm
        exact absurd (blk_type HR.out.p hc') (by decide))
      have hp1 : w1.cell? ⟨w.heap.size + 1, 0, none⟩ = some vi := by rw [World.cell?_of_block (a := ⟨w.heap.size + 1, 0, none⟩) hq]; exact hp0
      have hp2 : w1.frozen? ⟨w.heap.size + 1, 0, none⟩ = false := by rw [World.frozen?_of_block (a := ⟨w.heap.size + 1, 0, none⟩) hq]; exact blk_frozen HR.out.p _
      clear hown hgr hstep hq hp0
      go_wp2
      go_roundw
      case rel => exact ⟨k + 1, by omega, by go_num, ⟨_, by rw [HTS.out]; exact HSTEP.out⟩⟩
      case measure => simp [intOf]; omega
    · have hk' : k = zs.length := by omega
      have hz : zs.take k = zs := by rw [hk', List.take_length]
      rw [hz] at hR HR hvi
      subst hvi
      have hbz := hR.bel.size
      have hzz := blk_lt hR.p
      clear hz hl hR HL
      go_wp2_with (go_at_call 73; refine (sort_own w.heap.size _ zs _ HR.out.own (by omega)).mono ?_; rintro e w1 ⟨rfl, hown, hgr⟩; have HR1 := Aside0.mk (HR.out.sorted (srt_length zs) hown hgr); clear hown hgr)
      have hp1 : w1.cell? ⟨w.heap.size + 1, 0, none⟩ = some (.slice V zs.length c) := by rw [blk_cell HR1.out.p]; rfl
      have hz1 := blk_lt HR1.out.p
      have hle := srt_le zs
      have HLE := Aside0.mk hle
      have HSL := Aside0.mk (srt_length zs)
      clear hle
      go_region_held3 (fun w' => w'.cell? ⟨w.heap.size + 1, 0, none⟩ = some (.slice V zs.length c))
        (first
          | (rw [hbc.cell (p := ⟨w.heap.size + 1, 0, none⟩) hz1]; assumption)
          | (rw [hgc.cell_far ⟨w.heap.size + 1, 0, none⟩ hz2 hnec]; assumption)
          | go_keep)
        (first
          | (go_at_call 75; refine (clone64_own w.heap.size _ (srt zs) _ (by have := HR1.out.own; rw [HSL.out] at this ⊢; exact this) (by rw [HSL.out]; omega)).mono ?_; rintro e w2 ⟨v2, rfl, hown2, hbc⟩; have hz2 := Nat.lt_of_lt_of_le hz1 hbc.size; have hnec : some (w.heap.size + 1) ≠ v2.ownBlock := (fun e => by have h1 := own_base hown2 _ e.symm; have h2 : w1.heap.size ≤ w.heap.size + 1 := h1; omega))
          | (go_at_call 74; refine (compact_own _ v2 (srt zs) _ hown2 HLE.out (by rw [HSL.out]; omega)).mono ?_; rintro e w3 ⟨A3, m3, c3, rfl, hm3, hm4, hgc⟩))
      have hbb : Below w1.heap.size w1 w3 := by
        have h1 : Below w1.heap.size w1 w2 := ⟨hbc.os, hbc.tape, hbc.output, hbc.size, hbc.block⟩
        exact h1.grown hgc h1.size (fun k hk => own_base hown2 k hk)
      have HR3 := Aside0.mk (HR1.out.below hbb)
      rw [srt_length] at hm3 hm4
      have HM := Aside0.mk hm4
      clear hm4 hbb hbc hgc hown2 hz2 hnec
      by_cases hnd : (srt zs).Pairwise (· < ·)
      · have hm3' : m3 = zs.length := HM.out.2 hnd
        have hmm : ((m3 : Int) != (zs.length : Int)) = false := by simp [hm3']
        have HND := Aside0.mk hnd
        clear hm3' hnd
        go_upto_region 10 with fail
        go_cut [] from 33 (fun w' => Aside0 (PlOk w' w.heap.size (w.heap.size + 1) (pl0 (srt zs)) ∧ w'.heap[w.heap.size]? = some (.cells #[.bool d, .slice A1 zs.length c1, .slice A2 es.length c2] 25 (0, 0)) ∧ Below w.heap.size w w'))
        case first =>
          have hq0 : w3.cell? ⟨w.heap.size + 1, 0, none⟩ = some (.slice V zs.length c) := by rw [blk_cell HR3.out.p]; rfl
          have hq1 : w3.cell? ⟨w.heap.size + 1, 1, none⟩ = some (.slice none 0 0) := by rw [blk_cell HR3.out.p]; rfl
          have hq2 : w3.cell? ⟨w.heap.size + 1, 2, none⟩ = some (.slice none 0 0) := by rw [blk_cell HR3.out.p]; rfl
          have hf1 := blk_frozen HR3.out.p 1
          have hf2 := blk_frozen HR3.out.p 2
          have hz3 := blk_lt HR3.out.p
          have hz4 : w.heap.size < w3.heap.size := by omega
          obtain ⟨NC, hNC⟩ : ∃ NC, NC = madeCells #[Value.slice none 0 0] zs.length := ⟨_, rfl⟩
          have hmk : ∀ W : World, (Instr.makeSlice 138 (.int .i64 (zs.length : Int)) (.int .i64 (zs.length : Int))).run Tryz.prog W = .ok (.slice (some ⟨W.heap.size, 0, none⟩) zs.length zs.length) (W.alloc (.cells NC 176)) := fun W => by
            rw [hNC]; exact run_make_row' 138 176 _ 24 Tryz.underlying138 Tryz.info176 rfl .i64 .i64 zs.length (by omega) (by omega) W
          have HNC := Aside0.mk hNC
          clear hNC
          go_region
          all_goals
            go_wp2
            go_meet
            case rel => first | exact ⟨two_tables HR3.out (by rw [srt_length]; exact hn) _ (srt_length zs).symm NC HNC.out _ _ (.inl ⟨rfl, rfl⟩)⟩ | exact ⟨two_tables HR3.out (by rw [srt_length]; exact hn) _ (srt_length zs).symm NC HNC.out _ _ (.inr ⟨rfl, rfl⟩)⟩
        case rest =>
          obtain ⟨hq1, hq2, hq3⟩ := hcut
          have hg1 : wc.cell? ⟨w.heap.size, 2, none⟩ = some (.slice A2 es.length c2) := by rw [blk_cell hq2]; rfl
          have HQ := Aside0.mk (show Rd2 w wc d (.slice A1 zs.length c1) (.slice A2 es.length c2) zs (es.take 0) from ⟨rfl, hq1, hq2, hq3⟩)
          clear hq1 hq2 hq3
          go_wp2
          go_loopw [73] (fun i wr => ∃ k : Nat, k ≤ es.length ∧ i = .int .i64 k ∧ Aside0 (Rd2 w wr d (.slice A1 zs.length c1) (.slice A2 es.length c2) zs (es.take k))) (fun i _ => es.length - (intOf i).toNat)
          case atStart => exact ⟨0, Nat.zero_le _, rfl, HQ⟩
          case round =>
            clear HQ hg1
            obtain ⟨k, hk, rfl, hQ⟩ := hrel
            by_cases hlt : k < es.length
            · obtain ⟨ad, rfl, hc0, hc1, hc2⟩ := at_T38 (Kd.C_below HE.out ⟨hQ.out.bel.os, hQ.out.bel.tape, hQ.out.bel.output, hQ.out.bel.size, hQ.out.bel.block⟩) (k : Int) (by omega) (by omega)
              rw [Int.toNat_natCast] at hc0 hc1 hc2
              have hrd : rd_T38 es (k : Int) = es[k] := by unfold rd_T38; simp [List.getD_eq_getElem?_getD, hlt]
              have hts : es.take (k + 1) = es.take k ++ [rd_T38 es (k : Int)] := by rw [hrd]; exact List.take_succ_eq_append_getElem hlt
              have hal : es.all (goodE zs) = true → goodE zs (rd_T38 es (k : Int)) = true := fun h => by rw [hrd]; exact (List.all_eq_true.1 h) _ (List.getElem_mem _)
              have HTS := Aside0.mk hts
              have HAL := Aside0.mk hal
              clear hrd hts hal
              generalize rd_T38 es (k : Int) = e at hc0 hc1 hc2 HTS HAL
              have hw8 : Below wr.heap.size wr (wr.alloc (.cells #[.int .i64 e.f0, .int .i64 e.f1, .int .i64 e.f2] 34)) := (Below.refl _ _).alloc (Nat.le_refl _) _
              have HP8 := Aside0.mk (hQ.out.ok.below hw8)
              have HID := Aside0.mk (plOf_ids d zs (es.take k))
              have HSO := Aside0.mk (show (plOf d zs (es.take k)).ids.Pairwise (· < ·) by rw [HID.out]; exact HND.out)
              have HLE2 := Aside0.mk (show (plOf d zs (es.take k)).ids.length ≤ 1000 by rw [HID.out, srt_length]; exact hn)
              clear hw8
              have hgd : wr.cell? ⟨w.heap.size, 0, none⟩ = some (.bool d) := by rw [blk_cell hQ.out.g]; rfl
              have hbz := blk_lt hQ.out.g
              rcases edge_ways HND.out e with ⟨hgo, m0, m1, m2, m3, m4⟩ | ⟨hbad, hways⟩
              · have HGO := Aside0.mk hgo
                clear hgo
                have hr := goodE_rank HND.out HGO.out
                have HRK := Aside0.mk hr
                clear hr
                have hpg := plOf_good d zs hn HND.out (es.take k) hQ.out.all
                have HPG := Aside0.mk hpg
                clear hpg
                go_wp2_with (first | (go_at_call 70; refine (pl_index w.heap.size (w.heap.size + 1) (plOf d zs (es.take k)) _ _ HP8.out HSO.out HLE2.out).mono ?_; rintro e' w' ⟨rfl, rfl⟩; rw [HID.out]) | (go_at_call 76; refine (lay_any w.heap.size (w.heap.size + 1) (plOf d zs (es.take k)) (rank (srt zs) e.f0) (rank (srt zs) e.f1) _ d _ HP8.out HPG.out (by rw [HID.out]; exact HRK.out.1) (by rw [HID.out]; exact HRK.out.2) (by simp; omega)).mono ?_; rintro e' w4 ⟨rfl, hok4, hbl4, hkt4⟩))
                go_roundw
                case rel =>
                  refine ⟨k + 1, by omega, by go_num, ⟨?_, ?_, ?_, ?_⟩⟩
                  · rw [HTS.out, List.all_append, hQ.out.all]; simp [HGO.out]
                  · rw [HTS.out, plOf_snoc]; unfold layE; rw [HID.out]; exact hok4
                  · exact (hkt4 _ _ _ ((Below.heap_alloc _ _ _ hbz).trans hQ.out.g) (by decide) (by decide)).trans ((Below.heap_alloc _ _ _ hbz).trans hQ.out.g)
                  · exact (hQ.out.bel.alloc hQ.out.bel.size _).trans hbl4
                case measure => simp [intOf]; omega
              · have HBAD := Aside0.mk hbad
                clear hbad
                rcases hways with m0 | ⟨m0, m1⟩ | ⟨m0, m1, m2⟩ | ⟨m0, m1, m2, m3⟩ | ⟨m0, m1, m2, m3, m4⟩
                all_goals
                  have hro : readOk zs es = false := by
                    cases h : readOk zs es with
                    | false => rfl
                    | true =>
                      unfold readOk at h
                      rw [Bool.and_eq_true] at h
                      have := HAL.out h.2
                      rw [HBAD.out] at this; cases this
                  have HRO := Aside0.mk hro
                  clear hro
                  go_wp2_with (go_at_call 70; refine (pl_index w.heap.size (w.heap.size + 1) (plOf d zs (es.take k)) _ _ HP8.out HSO.out HLE2.out).mono ?_; rintro e' w' ⟨rfl, rfl⟩; rw [HID.out])
                  go_ret2
                  exact ⟨by rw [HRO.out]; rfl, hQ.out.bel.alloc hQ.out.bel.size _, ids_of_pl HP8.out HLE2.out, fun h => by rw [HRO.out] at h; cases h⟩
            · have hk' : k = es.length := by omega
              have hts : es.take k = es := by rw [hk', List.take_length]
              have h1 := hQ.out
              rw [hts] at h1
              have hro : readOk zs es = true := by unfold readOk; rw [decide_eq_true HND.out, h1.all]; rfl
              have HRO := Aside0.mk hro
              have H1 := Aside0.mk h1
              clear hro h1 hts hQ
              go_wp2
              go_ret2
              exact ⟨by rw [HRO.out]; rfl, H1.out.bel, ids_of_pl H1.out.ok (by rw [plOf_ids, srt_length]; exact hn), fun _ => H1.out.ok⟩
      · have hmm : ((m3 : Int) != (zs.length : Int)) = true := by
          simp
          intro e
          exact hnd (HM.out.1 (by omega))
        have hro : readOk zs es = false := by unfold readOk; rw [decide_eq_false hnd]; rfl
        have HRO := Aside0.mk hro
        clear hro hnd
        go_wp2
        go_ret2
        exact ⟨by rw [HRO.out]; rfl, HR3.out.bel, ids_of_rd HR3.out (by rw [srt_length]; exact hn), fun h => by rw [HRO.out] at h; cases h⟩
end Go.Proofs.YtolbfjjgdheikaaGreat.R


/- impl.open and impl.from. -/
namespace Go.Proofs.YtolbfjjgdheikaaGreat.R
open Go.RowKit Go.Lab Go.Proofs.YtolbfjjgdheikaaGreatW.PrintWords Go.Proofs.YtolbfjjgdheikaaGreatW.PrintLast Go.Proofs.YtolbfjjgdheikaaGreatW.PrintMore PL

theorem IdsAt.below {w w1 : World} {base bp : Nat} (h : IdsAt w base bp) (hb : Below w.heap.size w w1) : IdsAt w1 base bp := by
  obtain ⟨vi, ids, hc, ho, hn⟩ := h
  refine ⟨vi, ids, ?_, pw_own_below ho hb, hn⟩
  rw [hb.cell (p := ⟨bp, 0, none⟩) (World.block_lt_of_cell? w ⟨bp, 0, none⟩ hc)]; exact hc

end Go.Proofs.YtolbfjjgdheikaaGreat.R


/- The iterator over nodes in order. -/
namespace Go.Proofs.YtolbfjjgdheikaaGreat.R
open Go.RowKit Go.Lab Go.Proofs.YtolbfjjgdheikaaGreatW.PrintWords Go.Proofs.YtolbfjjgdheikaaGreatW.PrintLast Go.Proofs.YtolbfjjgdheikaaGreatW.PrintMore PL

theorem OIt.cells {lo B : Nat} {w : World} {b : Nat} {xs : List Int} {k : Nat} (h : OIt lo B w b xs k) : ∃ A c, w.cell? ⟨b, 0, none⟩ = some (.int .i64 ((k : Int) - 1)) ∧ w.cell? ⟨b, 1, none⟩ = some (.slice A xs.length c) ∧ w.frozen? ⟨b, 0, none⟩ = false ∧
    (∀ i (hi : i < xs.length), ∃ g, A = some ⟨g, 0, none⟩ ∧ w.cell? ⟨g, i, none⟩ = some (nodeV xs[i]) ∧ g < w.heap.size ∧ xs.length ≤ c) := by
  obtain ⟨v, h1, h2, h3⟩ := h.ex
  obtain ⟨A, c, rfl⟩ := own_slice h2
  refine ⟨A, c, by rw [blk_cell h1]; rfl, by rw [blk_cell h1]; rfl, blk_frozen h1 _, fun i hi => ?_⟩
  obtain ⟨g, c', e1, hvb, hgl⟩ := h2.form (by omega)
  injection e1 with e1 _ e3
  subst e1 e3
  refine ⟨g, rfl, ?_, hgl, own_le h2⟩
  have := h2.cells (g := g) rfl i (nodeV xs[i]) (by simp [nodeVs, hi])
  rw [add_plain] at this
  exact this

theorem Mid.drew (lo B : Nat) (w : World) : Mid lo B w w.drew := ⟨rfl, rfl, rfl, Nat.le_refl _, fun _ _ _ => rfl⟩
theorem OIt.drew {lo B : Nat} {w : World} {b : Nat} {xs : List Int} {k : Nat} (h : OIt lo B w b xs k) : OIt lo B w.drew b xs k := h.far fun _ _ _ => rfl

theorem OIt.to' {lo B : Nat} {w : World} {b : Nat} {xs : List Int} {k : Nat} (h : OIt lo B w b xs k) (k' : Nat) (hk : k' ≤ xs.length + 1) (v : Int) (hv : v = (k' : Int) - 1) : OIt lo B (w.setCell ⟨b, 0, none⟩ (.int .i64 v)) b xs k' := by
  subst hv; exact h.to k' hk

set_option maxHeartbeats 4000000 in
set_option maxRecDepth 100000 in
theorem next_any (lo B b k : Nat) (xs : List Int) (w : World) (h : OIt lo B w b xs k) (hl : xs.length ≤ 100000) :
    Calls Tryz.prog 217 #[.pointer (some ⟨b, 0, none⟩)] w fun e w' => e = .returned (.bool (decide (k < xs.length))) ∧ OIt lo B w' b xs (if k < xs.length then k + 1 else xs.length + 1) ∧ Mid lo B w w' := by
  have HO := Aside0.mk h
  obtain ⟨A, c, h0, h1, hf, hx⟩ := h.cells
  have hk := h.hk
  have hb := h.lt
  have hb2 := h.hb
  have hwr : IntKind.u64.wrap (IntKind.u64.wrap ((k : Int) - 1) + 1) = (k : Int) := by
    simp only [IntKind.wrap_u64]; omega
  clear h hx
  by_cases hlt : k < xs.length
  · rw [if_pos hlt]
    have hd : decide (k < xs.length) = true := by simpa using hlt
    have hdd : decide ((k : Int) < (xs.length : Int)) = true := by simpa using hlt
    rw [hd]
    have HE := Aside0.mk (HO.out.to' (k + 1) (by omega) (k : Int) (by omega)).drew
    go_enter Tryz.func217, Tryz.ntmps217
    go_wp2_with fail
    go_region
    all_goals
      go_wp2
      go_ret
      exact ⟨rfl, HE.out, (Mid.set _ _ _ hb2.1 hb2.2).trans (Mid.drew lo B _)⟩
  · rw [if_neg hlt]
    have hd : decide (k < xs.length) = false := by simpa using hlt
    have hdd : decide ((k : Int) < (xs.length : Int)) = false := by simpa using hlt
    rw [hd]
    have HE := Aside0.mk (HO.out.to' (xs.length + 1) (by omega) (xs.length : Int) (by omega)).drew
    go_enter Tryz.func217, Tryz.ntmps217
    go_wp2_with fail
    go_region
    all_goals
      go_wp2
      go_ret
      exact ⟨rfl, HE.out, (Mid.set _ _ _ hb2.1 hb2.2).trans (Mid.drew lo B _)⟩
end Go.Proofs.YtolbfjjgdheikaaGreat.R


/- Node, Reset, NewOrderedNodes, and the iterator over all nodes of a plain graph. -/
namespace Go.Proofs.YtolbfjjgdheikaaGreat.R
open Go.RowKit Go.Lab Go.Proofs.YtolbfjjgdheikaaGreatW.PrintWords Go.Proofs.YtolbfjjgdheikaaGreatW.PrintLast Go.Proofs.YtolbfjjgdheikaaGreatW.PrintMore PL

set_option maxHeartbeats 4000000 in
set_option maxRecDepth 100000 in
theorem nodeI_any (lo B b k : Nat) (xs : List Int) (w : World) (h : OIt lo B w b xs (k + 1)) (hk : k < xs.length) (hl : xs.length ≤ 100000) :
    Calls Tryz.prog 218 #[.pointer (some ⟨b, 0, none⟩)] w fun e w' => e = .returned (nodeV xs[k]) ∧ Drawn0 w w' := by
  obtain ⟨A, c, h0, h1, hf, hx⟩ := h.cells
  obtain ⟨g, rfl, hg, hgl, hc⟩ := hx k hk
  have hb := h.lt
  rw [show (((k + 1 : Nat) : Int) - 1) = (k : Int) by omega] at h0
  clear h hx
  have hi1 : (0 : Int) ≤ (k : Int) := by omega
  have hi2 : (k : Int) < (xs.length : Int) := by omega
  have hd1 : decide ((xs.length : Int) ≤ (k : Int)) = false := by simp; omega
  have hd2 : decide ((k : Int) < 0) = false := by simp
  generalize xs[k] = x at hg
  go_enter Tryz.func218, Tryz.ntmps218
  go_wp2_with fail
  go_quiet (fail)
  go_wp2_with fail
  go_quiet (fail)
  go_wp2
  go_ret
  exact ⟨rfl, by repeat (first | exact Drawn0.refl _ | apply Drawn0.step)⟩

set_option maxHeartbeats 400000 in
theorem new_any (A : Option Addr) (n c : Nat) (w : World) :
    Calls Tryz.prog 194 #[.slice A n c] w fun e w' => e = .returned (.pointer (some ⟨w.heap.size, 0, none⟩)) ∧ w.alloc (.cells #[.int .i64 (-1), .slice A n c] 258) = w' := by
  go_enter Tryz.func194, Tryz.ntmps194
  go_wp2
  go_ret
  exact ⟨rfl, rfl⟩

/-- a row of nodes with a new iterator -/
theorem OIt.made {w wr : World} {v : Value} {xs : List Int} (ho : wr.ownsRow w.heap.size 72 1 v xs.length (nodeVs xs)) (hw : w.heap.size ≤ wr.heap.size) :
    OIt w.heap.size (wr.heap.size + 1) (wr.alloc (.cells #[.int .i64 (-1), v] 258)) wr.heap.size xs 0 :=
  ⟨⟨v, heap_alloc_new _ _, ho.alloc _, fun q hq => Nat.lt_succ_of_lt (ho.lt q hq).2⟩, ⟨hw, Nat.lt_succ_self _⟩, Nat.zero_le _⟩

theorem PlOk.idsC {w : World} {base bp : Nat} {p : Pl} (h : PlOk w base bp p) : ∃ A c, w.cell? ⟨bp, 0, none⟩ = some (.slice A p.ids.length c) ∧ Kd.C (Kd.int .i64) w A p.ids.length p.ids ∧ bp < w.heap.size := by
  obtain ⟨ro, ri, vi, vo, vn, hp⟩ := h
  obtain ⟨A, c, rfl, hr⟩ := own_reads hp.ids
  exact ⟨A, c, by rw [blk_cell hp.blk]; rfl, Kd.C_of_reads hr, blk_lt hp.blk⟩

theorem make_nodes (n : Nat) (hn : n ≤ 1000) (W : World) : (Instr.makeSlice 68 (.int .i64 0) (.int .i64 (n : Int))).run Tryz.prog W = .ok (.slice (some ⟨W.heap.size, 0, none⟩) 0 n) (W.alloc (.cells (madeCells #[.nilIface] n) 72)) := by
  obtain ⟨i0, hi, hz0, hz1, hz2⟩ := info_parts Tryz.info72
  have := run_make (P := Tryz.prog) W 68 72 i0 .nilIface Tryz.underlying68 hi hz0 .i64 .i64 0 n (by omega) (by omega) (by rw [hz2]; omega) (by omega)
  simpa [hz1, Value.cells] using this

set_option maxHeartbeats 2000000 in
set_option maxRecDepth 100000 in
theorem all_any (base bp : Nat) (p : Pl) (w : World) (h : PlOk w base bp p) (hn : p.ids.length ≤ 1000) :
    Calls Tryz.prog 193 #[.pointer (some ⟨bp, 0, none⟩)] w fun e w' => ∃ b, e = .returned (.iface 255 (.pointer (some ⟨b, 0, none⟩))) ∧ OIt w.heap.size w'.heap.size w' b p.ids 0 ∧ Below w.heap.size w w' := by
  obtain ⟨A, c, hcell, hC, hbl⟩ := h.idsC
  have HC := Aside0.mk hC
  obtain ⟨i0, hi, hz0, hz1, hz2⟩ := info_parts Tryz.info72
  have HI := Aside0.mk (And.intro hi (And.intro hz0 (And.intro hz1 hz2)))
  have hmk := make_nodes p.ids.length hn
  clear h hC hi hz0 hz1 hz2
  generalize p.ids = xs at *
  go_enter Tryz.func193, Tryz.ntmps193
  go_wp2
  go_loopw [3, 17] (fun v i wr => ∃ k : Nat, k ≤ xs.length ∧ i = .int .i64 k ∧ Aside0 (wr.ownsRow w.heap.size 72 1 v k (nodeVs (xs.take k)) ∧ Below w.heap.size w wr)) (fun _ i _ => xs.length - (intOf i).toNat)
  case atStart => exact ⟨0, Nat.zero_le _, rfl, ⟨World.ownsRow_made w _ xs.length (Nat.le_refl _) (by unfold maxLen; omega) (by rw [size_madeCells, Nat.mul_one]), (Below.refl _ _).alloc (Nat.le_refl _) _⟩⟩
  case round =>
    obtain ⟨k, hk, rfl, HR⟩ := hrel
    by_cases hlt : k < xs.length
    · have hbw := HR.out.2.size
      obtain ⟨ad, rfl, hc⟩ := C_int_at (Kd.C_below HC.out HR.out.2) k hlt
      have hts : nodeVs (xs.take (k + 1)) = nodeVs (xs.take k) ++ [nodeV (xs.getD k 0)] := by
        have hge : xs.getD k 0 = xs[k] := by simp [List.getD_eq_getElem?_getD, hlt]
        rw [hge, List.take_succ_eq_append_getElem hlt]; unfold nodeVs; rw [List.map_append]; rfl
      have HTS := Aside0.mk hts
      clear hts
      generalize xs.getD k 0 = x at hc HTS
      go_wp2_with (at_builtin; refine wpList_append_own _ rfl _ _ 68 rfl w.heap.size 72 i0 .nilIface 1 16 Tryz.underlying68 HI.out.1 HI.out.2.1 HI.out.2.2.1 HI.out.2.2.2 rfl (by decide) _ k (nodeVs (xs.take k)) rfl (World.ownsRow.alloc HR.out.1 _) ⟨wr.heap.size, 0, none⟩ 1 1 [nodeV x] rfl rfl (cell_one_new _ _ _) ?q2 ?q3 ?q4 ?q5 ?_)
      case q2 => intro u hu; simp at hu; subst hu; rfl
      case q3 => unfold maxLen; omega
      case q4 => omega
      case q5 => simp; omega
      intro v' w1 hown hgr _
      have HO := Aside0.mk hown
      have HGR := Aside0.mk hgr
      clear hown hgr
      go_wp2
      go_roundw
      case rel => exact ⟨k + 1, by omega, by go_num, ⟨by rw [HTS.out]; exact HO.out, (HR.out.2.alloc hbw _).grown HGR.out (by simp; omega) (fun q hq => own_base HR.out.1 q hq)⟩⟩
      case measure => simp [intOf]; omega
    · have hk' : k = xs.length := by omega
      have hts : xs.take k = xs := by rw [hk', List.take_length]
      have h1 := HR.out
      rw [hts, hk'] at h1
      obtain ⟨V, C, rfl⟩ := own_slice h1.1
      have H1 := Aside0.mk h1
      clear h1 hts HR
      go_wp2_with (go_at_call 194; refine (new_any _ _ _ _).mono ?_; rintro e w1 ⟨rfl, rfl⟩)
      go_ret
      exact ⟨wr.heap.size, rfl, by simpa using OIt.made H1.out.1 H1.out.2.size, H1.out.2.alloc H1.out.2.size _⟩
end Go.Proofs.YtolbfjjgdheikaaGreat.R

