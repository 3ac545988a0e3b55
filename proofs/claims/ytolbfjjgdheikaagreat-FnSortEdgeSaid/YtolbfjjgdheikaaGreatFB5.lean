import Derived.Test.YtolbfjjgdheikaaGreatFB2
import Derived.Test.YtolbfjjgdheikaaGreatFB4
import Derived.Test.YtolbfjjgdheikaaGreatFS
import Derived.Deep.RegionHeld3
import Derived.Deep.Cut
set_option linter.unusedVariables false
set_option linter.unusedSimpArgs false
/- From and Edge of a plain graph of either kind, exactly. -/
namespace Go.Proofs.YtolbfjjgdheikaaGreat.R
open Go.RowKit Go.Lab Go.Maps Go.Proofs.YtolbfjjgdheikaaGreatW.PrintWords Go.Proofs.YtolbfjjgdheikaaGreatW.PrintLast Go.Proofs.YtolbfjjgdheikaaGreatW.PrintMore PL

/-- the arcs of a graph: those of an undirected one both ways -/
def dbl (d : Bool) (es : List S34) : List S34 := if d = true then es else es.flatMap fun e => [e, ⟨e.f1, e.f0, e.f2⟩]
/-- a plain graph in memory, by its arcs -/
structure GrOk (w : World) (base bp : Nat) (zs : List Int) (es : List S34) (p : Pl) : Prop where
  ok : PlOk w base bp p
  good : p.Good
  adj : Adj zs es p
  hs : (srt zs).Pairwise (· < ·)
  hn : zs.length ≤ 1000
theorem GrOk.below {w w1 : World} {base bp : Nat} {zs : List Int} {es : List S34} {p : Pl} (h : GrOk w base bp zs es p) (hb : Below w.heap.size w w1) : GrOk w1 base bp zs es p := ⟨h.ok.below hb, h.good, h.adj, h.hs, h.hn⟩
theorem GrOk.sorted {w : World} {base bp : Nat} {zs : List Int} {es : List S34} {p : Pl} (h : GrOk w base bp zs es p) : p.ids.Pairwise (· < ·) := by rw [h.adj.ids]; exact h.hs

set_option maxHeartbeats 4000000 in
set_option maxRecDepth 100000 in
theorem fromU_any (base bp : Nat) (p : Pl) (u : Int) (w : World) (h : PlOk w base bp p) (hs : p.ids.Pairwise (· < ·)) (hg : p.Good) (hu : u ∈ p.ids) :
    Calls Tryz.prog 185 #[.agg #[.pointer (some ⟨bp, 0, none⟩)], .int .i64 u] w fun e w' => ∃ b, e = .returned (.iface 255 (.pointer (some ⟨b, 0, none⟩))) ∧ OIt w.heap.size w'.heap.size w' b (endsN p.ids (p.out.getD (rank p.ids u) [])) 0 ∧ Below w.heap.size w w' := by
  have hb1 : Below w.heap.size w (w.alloc (.cells #[.pointer (some ⟨bp, 0, none⟩)] 56)) := (Below.refl _ _).alloc (Nat.le_refl _) _
  have hP1 : PlOk (w.alloc (.cells #[.pointer (some ⟨bp, 0, none⟩)] 56)) base bp p := h.below hb1
  have hd : decide (u ∈ p.ids) = true := decide_eq_true hu
  obtain ⟨hr, _⟩ := (rank_mem hs u).1 hu
  obtain ⟨ro, ri, vi, vn, g, cap, hi', hp, hcb, hce, hfr, hbw, hgw, hbg, hrl⟩ := hP1.open_out (rank p.ids u) hr
  have hn := hg.n
  have HP := Aside0.mk hP1
  have HP2 := Aside0.mk (show PlOk (World.drew (w.alloc (.cells #[.pointer (some ⟨bp, 0, none⟩)] 56))) base bp p from hP1.below ((Below.refl _ _).drew))
  have HROW := Aside0.mk (show (World.drew (w.alloc (.cells #[.pointer (some ⟨bp, 0, none⟩)] 56))).ownsRow base 208 2 ro[rank p.ids u] (p.out.getD (rank p.ids u) []).length (fl (p.out.getD (rank p.ids u) [])) from hp.rows.rowA _ hi')
  obtain ⟨VA, vc, hve⟩ := own_slice HROW.out
  rw [hve] at HROW hce
  have HS := Aside0.mk hs
  have HG := Aside0.mk (hg.out (rank p.ids u))
  have hc1 : (w.alloc (.cells #[.pointer (some ⟨bp, 0, none⟩)] 56)).cell? ⟨w.heap.size, 0, none⟩ = some (.pointer (some ⟨bp, 0, none⟩)) := (blk_cell (heap_alloc_new _ _) 0).trans rfl
  have hx1 : (0 : Int) ≤ ((rank p.ids u : Nat) : Int) := by omega
  have hx2 : ((rank p.ids u : Nat) : Int) < (ro.length : Int) := by omega
  clear h hs hg hu hP1 hp hve
  go_enter Tryz.func185, Tryz.ntmps185
  go_wp2_with (go_at_call 70; refine (pl_index base bp p _ _ HP.out HS.out hn).mono ?_; rintro e w1 ⟨rfl, rfl⟩; rw [hd])
  go_region_held3 (fun w' => w'.cell? ⟨w.heap.size, 0, none⟩ = some (.pointer (some ⟨bp, 0, none⟩)) ∧ w'.cell? ⟨bp, 1, none⟩ = some (.slice (some ⟨g, 0, none⟩) ro.length cap) ∧ w'.cell? ⟨g, rank p.ids u, none⟩ = some (.slice VA (p.out.getD (rank p.ids u) []).length vc))
    (first | (exact ⟨(hbel.cell (p := ⟨w.heap.size, 0, none⟩) (by simp)).trans hc1, (hbel.cell (p := ⟨bp, 1, none⟩) hbw).trans hcb, (hbel.cell (p := ⟨g, rank p.ids u, none⟩) hgw).trans hce⟩) | go_keep)
    (first
      | (go_at_call 190; refine (ends_any base bp base p _ (p.out.getD (rank p.ids u) []) _ HP2.out HROW.out hn (Nat.le_trans HG.out.len hn) HG.out.2).mono ?_; rintro e w2 ⟨b, rfl, hit, hbel⟩; have HIT := Aside0.mk hit; have HBEL := Aside0.mk hbel; clear hit))
  all_goals
    go_wp2
    go_ret
    have hz : w.heap.size ≤ (World.drew (w.alloc (.cells #[.pointer (some ⟨bp, 0, none⟩)] 56))).heap.size := by simp
    exact ⟨b, rfl, HIT.out.wide hz (Nat.le_refl _), (show Below w.heap.size w (World.drew (w.alloc (.cells #[.pointer (some ⟨bp, 0, none⟩)] 56))) from hb1.drew).trans (HBEL.out.mono hz)⟩


theorem gFromD (base bp : Nat) (zs : List Int) (es : List S34) (p : Pl) (u : Int) (w : World) (h : GrOk w base bp zs es p) (hu : u ∈ zs) :
    Calls Tryz.prog 197 #[.agg #[.pointer (some ⟨bp, 0, none⟩)], .int .i64 u] w fun e w' => ∃ b, e = .returned (.iface 255 (.pointer (some ⟨b, 0, none⟩))) ∧ OIt w.heap.size w'.heap.size w' b (outN zs es u) 0 ∧ Below w.heap.size w w' := by
  have hu' : u ∈ srt zs := (mem_srt _ _).2 hu
  refine (from_any base bp p u w h.ok h.sorted h.good (by rw [h.adj.ids]; exact hu')).mono ?_
  rintro e w' ⟨b, rfl, h1, h2⟩
  refine ⟨b, rfl, ?_, h2⟩
  have := h.adj.outN h.good h.hs hu'
  unfold endsN at h1
  rw [this] at h1
  exact h1
theorem gFromU (base bp : Nat) (zs : List Int) (es : List S34) (p : Pl) (u : Int) (w : World) (h : GrOk w base bp zs es p) (hu : u ∈ zs) :
    Calls Tryz.prog 185 #[.agg #[.pointer (some ⟨bp, 0, none⟩)], .int .i64 u] w fun e w' => ∃ b, e = .returned (.iface 255 (.pointer (some ⟨b, 0, none⟩))) ∧ OIt w.heap.size w'.heap.size w' b (outN zs es u) 0 ∧ Below w.heap.size w w' := by
  have hu' : u ∈ srt zs := (mem_srt _ _).2 hu
  refine (fromU_any base bp p u w h.ok h.sorted h.good (by rw [h.adj.ids]; exact hu')).mono ?_
  rintro e w' ⟨b, rfl, h1, h2⟩
  refine ⟨b, rfl, ?_, h2⟩
  have := h.adj.outN h.good h.hs hu'
  unfold endsN at h1
  rw [this] at h1
  exact h1

end Go.Proofs.YtolbfjjgdheikaaGreat.R


namespace Go.Proofs.YtolbfjjgdheikaaGreat.Q
open Go.RowKit Go.Lab Go.Proofs.YtolbfjjgdheikaaGreatW.PrintWords Go.Proofs.YtolbfjjgdheikaaGreatW.PrintLast Go.Proofs.YtolbfjjgdheikaaGreatW.PrintMore

open Go.Sort in
theorem putCells_take (cur : Array Value) (n : Nat) (ys : List Int) (hl : ys.length = n) (hn : n ≤ cur.size) : (putCells (Value.int .i64) 0 ys.toArray cur).toList.take n = nums .i64 ys := by
  apply List.ext_getElem?
  intro j
  rw [List.getElem?_take]
  by_cases hj : j < n
  · rw [if_pos hj, Array.getElem?_toList]
    unfold putCells nums
    rw [Array.getElem?_mapIdx, Array.getElem?_eq_getElem (by omega), List.getElem?_map, List.getElem?_eq_getElem (by omega)]
    have : j < ys.toArray.size := by simp; omega
    simp only [Option.map_some, Nat.zero_le, true_and, Nat.zero_add, Nat.sub_zero]
    rw [if_pos this, getElem!_pos ys.toArray j this]
    simp
  · rw [if_neg hj, List.getElem?_eq_none (by rw [nums_length]; omega)]

open Go.Sort in
theorem sort_own (base : Nat) (v : Value) (xs : List Int) (w : World) (h : w.ownsRow base 3 1 v xs.length (nums .i64 xs)) (hb : xs.length ≤ 100000) :
    Calls Tryz.prog 38 #[v] w fun e w' => e = .returned (.tuple #[]) ∧ w'.ownsRow base 3 1 v xs.length (nums .i64 (srt xs)) ∧ w.grownBy w' v.ownBlock := by
  by_cases h0 : xs.length = 0
  · have hx : xs = [] := List.eq_nil_of_length_eq_zero h0
    subst hx
    obtain ⟨A, c, rfl⟩ := own_slice h
    refine (Tryz.slices_Sort_int_none A c w).mono ?_
    rintro e w' ⟨rfl, rfl⟩
    exact ⟨rfl, (by simpa [srt] using h), ⟨rfl, rfl, rfl, Nat.le_refl _, fun _ _ _ => rfl⟩⟩
  · rcases h.2 with ⟨_, hn⟩ | ⟨g, cap, cur, rfl, hb1, hg, hc1, hc2, hcs, htk⟩
    · exact absurd hn h0
    · have hH : Holds (Value.int .i64) w g 0 xs.toArray := by
        intro j hj
        have hj' : j < xs.length := by simpa using hj
        refine ⟨?_, blk_frozen hg _⟩
        rw [Nat.zero_add, blk_cell hg]
        have h1 : (cur.toList.take (xs.length * 1))[j]? = some (.int .i64 xs[j]) := by rw [htk]; simp [nums, hj']
        rw [List.getElem?_take] at h1
        split at h1
        · rw [getElem!_pos xs.toArray j (by simpa using hj)]
          simpa using h1
        · cases h1
      refine (Tryz.slices_Sort_int g 0 cap xs w hH (blk_lt hg) (by omega)).mono ?_
      rintro e w' ⟨rfl, n, os, rfl⟩
      have hgl : g < w.heap.size := blk_lt hg
      have hh : (grow (putRow (Value.int .i64) (Go.Sort.ahead w n) g 0 (xs.mergeSort fun x y => decide (x ≤ y)).toArray) os).heap[g]? = some (.cells (putCells (Value.int .i64) 0 (srt xs).toArray cur) 3 (0, 0)) := by
        have hsz : (putRow (Value.int .i64) (Go.Sort.ahead w n) g 0 (xs.mergeSort fun x y => decide (x ≤ y)).toArray).heap.size = w.heap.size := by simp [putRow, mapBlock, Go.Sort.ahead]
        rw [heap_grow_old _ _ (by rw [hsz]; exact hgl)]
        unfold putRow mapBlock
        have : (Go.Sort.ahead w n).heap = w.heap := rfl
        simp only [this, Array.getElem?_modify, if_true]
        rw [hg]
        rfl
      have hsl : (putCells (Value.int .i64) 0 (srt xs).toArray cur).size = cur.size := by simp [putCells]
      refine ⟨rfl, ⟨by rw [nums_length, srt_length]; omega, .inr ⟨g, cap, _, rfl, hb1, hh, hc1, hc2, by rw [hsl]; exact hcs, ?_⟩⟩, ⟨rfl, rfl, rfl, ?_, fun k hk hne => ?_⟩⟩
      · rw [Nat.mul_one]
        exact putCells_take cur xs.length (srt xs) (srt_length xs) (by rw [hcs]; omega)
      · simp [grow, putRow, mapBlock, Go.Sort.ahead]
      · have hkg : k ≠ g := fun e => hne (by simp [Value.ownBlock, e])
        have hsz : (putRow (Value.int .i64) (Go.Sort.ahead w n) g 0 (xs.mergeSort fun x y => decide (x ≤ y)).toArray).heap.size = w.heap.size := by simp [putRow, mapBlock, Go.Sort.ahead]
        rw [heap_grow_old _ _ (by rw [hsz]; exact hk)]
        unfold putRow mapBlock
        have : (Go.Sort.ahead w n).heap = w.heap := rfl
        simp only [this, Array.getElem?_modify]
        rw [if_neg (Ne.symm hkg)]

end Go.Proofs.YtolbfjjgdheikaaGreat.Q


/- impl.number; impl.iterated over both kinds of iterators. -/
namespace Go.Proofs.YtolbfjjgdheikaaGreat.R
open Go.RowKit Go.Lab Go.Maps Go.Proofs.YtolbfjjgdheikaaGreatW.PrintWords Go.Proofs.YtolbfjjgdheikaaGreatW.PrintLast Go.Proofs.YtolbfjjgdheikaaGreatW.PrintMore PL

set_option maxHeartbeats 400000 in
theorem number_any (n : Int) (w : World) :
    Calls Tryz.prog 40 #[.iface 97 (.int .i64 n)] w fun e w' => e = .returned (.int .i64 n) ∧ w = w' := by
  have m1 := meth_ID n
  go_enter Tryz.func40, Tryz.ntmps40
  go_wp2_with (go_at_call 202; refine (nodeID_any _ _).mono ?_; rintro e w' ⟨rfl, rfl⟩)
  go_ret
  exact ⟨rfl, rfl⟩

theorem nums_step {r : List Int} {k : Nat} (hk : k < r.length) : nums .i64 (r.take (k + 1)) = nums .i64 (r.take k) ++ [.int .i64 r[k]] := by
  rw [List.take_succ_eq_append_getElem hk]; unfold nums; rw [List.map_append]; rfl

end Go.Proofs.YtolbfjjgdheikaaGreat.R



/- ordered (as the printer printed it for an elder seat). -/
namespace Go.Proofs.YtolbfjjgdheikaaGreat.PL
open Go.RowKit Go.Proofs.YtolbfjjgdheikaaGreatW.PrintWords Go.Proofs.YtolbfjjgdheikaaGreatW.PrintLast Go.Proofs.YtolbfjjgdheikaaGreatW.PrintMore
/-! ### impl_ordered: function 111 -/
end Go.Proofs.YtolbfjjgdheikaaGreat.PL


/- What free makes: whether an edge may be gone. -/
namespace Go.Proofs.YtolbfjjgdheikaaGreat.R
open Go.RowKit Go.Lab Go.Maps Go.Proofs.YtolbfjjgdheikaaGreatW.PrintWords Go.Proofs.YtolbfjjgdheikaaGreatW.PrintLast Go.Proofs.YtolbfjjgdheikaaGreatW.PrintMore PL

theorem below_cellOf {w w' : World} {a : Addr} {v : Value} (h : Below w.heap.size w w') (hc : w.cell? a = some v) : w'.cell? a = some v := by
  rw [h.cell (World.block_lt_of_cell? w a hc)]; exact hc
end Go.Proofs.YtolbfjjgdheikaaGreat.R

