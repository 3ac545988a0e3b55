import Derived.Test.YtgiebjihceggjaaU
set_option linter.unusedVariables false
set_option linter.unusedSimpArgs false
namespace Go.Proofs.Ytgiebjihceggjaa
open Go.RowKit Go.Proofs.YtgiebjihceggjaaW.PrintWords Go.Proofs.YtgiebjihceggjaaW.PrintLast Go.Proofs.YtgiebjihceggjaaW.PrintMore PFnGenTree

def nilT : Array Value := #[.slice none 0 0, .slice none 0 0, .slice none 0 0]

/-- tableOf's table in the making -/
structure Ts (w wr : World) (tb : Nat) (gv : Array Value) (vn : Value) (ids : List Int) (TA TW : List (List Value)) (ra rw : List Value) (va vw : Value) : Prop where
  blk : wr.heap[tb]? = some (.cells #[vn, va, vw] 51 (0, 0))
  g : wr.heap[w.heap.size]? = some (.cells gv 25 (0, 0))
  res : wr.heap[w.heap.size + 1]? = some (.cells nilT 51 (0, 0))
  hb : w.heap.size + 1 < tb
  n : wr.ownsRow w.heap.size 3 1 vn ids.length (nums .i64 ids)
  A : Tb wr w.heap.size 53 4 TA ra va
  W : Tb wr w.heap.size 22 3 TW rw vw
  sn : ∀ i (h : i < rw.length), ApartS vn rw[i]
  bel : Below w.heap.size w wr

section
variable {w wr w1 : World} {tb : Nat} {gv : Array Value} {vn : Value} {ids : List Int} {TA TW : List (List Value)} {ra rw : List Value} {va vw : Value}

theorem Ts.below (h : Ts w wr tb gv vn ids TA TW ra rw va vw) (hb : Below wr.heap.size wr w1) : Ts w w1 tb gv vn ids TA TW ra rw va vw :=
  ⟨(hb.block _ (blk_lt h.blk)).trans h.blk, (hb.block _ (blk_lt h.g)).trans h.g, (hb.block _ (blk_lt h.res)).trans h.res, h.hb, pw_own_below h.n hb, h.A.below hb, h.W.below hb, h.sn, h.bel.trans (hb.mono h.bel.size)⟩

theorem Ts.pushA (h : Ts w wr tb gv vn ids TA TW ra rw va vw) {r v' : Value} {row : List Value} (hr : wr.ownsRow w.heap.size 4 1 r row.length row) (hf : ∀ i (hi : i < ra.length), ApartS ra[i] r)
    (hown : w1.ownsRow w.heap.size 53 1 v' (ra.length + 1) (ra ++ [r])) (hg : wr.grownBy w1 va.ownBlock) : Ts w (w1.setCell ⟨tb, 1, none⟩ v') tb gv vn ids (TA ++ [row]) TW (ra ++ [r]) rw v' vw := by
  have hne : ∀ {k : Nat} {c : Array Value} {t : TypeId}, wr.heap[k]? = some (.cells c t (0,0)) → t ≠ 53 → w1.heap[k]? = wr.heap[k]? := by
    intro k c t hk ht
    refine hg.block k (blk_lt hk) (fun hc => ?_)
    obtain ⟨c', hc'⟩ := own_block h.A.o hc.symm
    exact ht (blk_type hk hc')
  have hb1 : w1.heap[tb]? = some (.cells #[vn, va, vw] 51 (0, 0)) := (hne h.blk (by decide)).trans h.blk
  have hs : ∀ {k : Nat} {c : Array Value} {t : TypeId}, wr.heap[k]? = some (.cells c t (0,0)) → t ≠ 53 → t ≠ 51 → (w1.setCell ⟨tb, 1, none⟩ v').heap[k]? = wr.heap[k]? := by
    intro k c t hk ht ht2
    rw [Below.heap_setCell _ _ _ _ (by rintro rfl; exact ht2 (blk_type hk h.blk))]
    exact hne hk ht
  refine ⟨by simpa using blk_set hb1 1 v', (hs h.g (by decide) (by decide)).trans h.g, ?_, h.hb, ?_, ?_, ?_, h.sn, (h.bel.grown hg h.bel.size (fun k hk => own_base h.A.o k hk)).setCell (by have := h.hb; simp; omega) _⟩
  · rw [Below.heap_setCell _ _ _ _ (by have := h.hb; simp; omega)]
    exact (hne h.res (by decide)).trans h.res
  · refine own_of_heap h.n (fun k hk => ?_)
    obtain ⟨c, hc⟩ := own_block h.n hk; exact hs hc (by decide) (by decide)
  · refine (h.A.push (by decide) hr hf hown hg).move (fun k c t hk ht => Below.heap_setCell _ _ _ _ ?_)
    rintro rfl
    have := blk_type hk hb1
    rcases ht with rfl | rfl <;> exact absurd this (by decide)
  · exact h.W.move (fun k c t hk ht => hs hk (by rcases ht with rfl | rfl <;> decide) (by rcases ht with rfl | rfl <;> decide))

theorem Ts.pushW (h : Ts w wr tb gv vn ids TA TW ra rw va vw) {r v' : Value} {row : List Value} (hr : wr.ownsRow w.heap.size 3 1 r row.length row) (hf : ∀ i (hi : i < rw.length), ApartS rw[i] r) (hfn : ApartS vn r)
    (hown : w1.ownsRow w.heap.size 22 1 v' (rw.length + 1) (rw ++ [r])) (hg : wr.grownBy w1 vw.ownBlock) : Ts w (w1.setCell ⟨tb, 2, none⟩ v') tb gv vn ids TA (TW ++ [row]) ra (rw ++ [r]) va v' := by
  have hne : ∀ {k : Nat} {c : Array Value} {t : TypeId}, wr.heap[k]? = some (.cells c t (0,0)) → t ≠ 22 → w1.heap[k]? = wr.heap[k]? := by
    intro k c t hk ht
    refine hg.block k (blk_lt hk) (fun hc => ?_)
    obtain ⟨c', hc'⟩ := own_block h.W.o hc.symm
    exact ht (blk_type hk hc')
  have hb1 : w1.heap[tb]? = some (.cells #[vn, va, vw] 51 (0, 0)) := (hne h.blk (by decide)).trans h.blk
  have hs : ∀ {k : Nat} {c : Array Value} {t : TypeId}, wr.heap[k]? = some (.cells c t (0,0)) → t ≠ 22 → t ≠ 51 → (w1.setCell ⟨tb, 2, none⟩ v').heap[k]? = wr.heap[k]? := by
    intro k c t hk ht ht2
    rw [Below.heap_setCell _ _ _ _ (by rintro rfl; exact ht2 (blk_type hk h.blk))]
    exact hne hk ht
  refine ⟨by simpa using blk_set hb1 2 v', (hs h.g (by decide) (by decide)).trans h.g, ?_, h.hb, ?_, ?_, ?_, ?_, (h.bel.grown hg h.bel.size (fun k hk => own_base h.W.o k hk)).setCell (by have := h.hb; simp; omega) _⟩
  · rw [Below.heap_setCell _ _ _ _ (by have := h.hb; simp; omega)]
    exact (hne h.res (by decide)).trans h.res
  · refine own_of_heap h.n (fun k hk => ?_)
    obtain ⟨c, hc⟩ := own_block h.n hk; exact hs hc (by decide) (by decide)
  · exact h.A.move (fun k c t hk ht => hs hk (by rcases ht with rfl | rfl <;> decide) (by rcases ht with rfl | rfl <;> decide))
  · refine (h.W.push (by decide) hr hf hown hg).move (fun k c t hk ht => Below.heap_setCell _ _ _ _ ?_)
    rintro rfl
    have := blk_type hk hb1
    rcases ht with rfl | rfl <;> exact absurd this (by decide)
  · intro i hi
    rw [List.length_append] at hi
    by_cases h1 : i < rw.length
    · rw [List.getElem_append_left h1]; exact h.sn i h1
    · rw [List.getElem_append_right (by omega)]; simpa using hfn

theorem Ts.setA (h : Ts w wr tb gv vn ids TA TW ra rw va vw) (i : Nat) (hi : i < ra.length) {g n c : Nat} (hr : ra[i] = .slice (some ⟨g, 0, none⟩) n c) (j : Nat) (x : Value) : Ts w (wr.setCell ⟨g, j, none⟩ x) tb gv vn ids (TA.set i ((TA.getD i []).set j x)) TW ra rw va vw := by
  have hrow := h.A.row i hi
  rw [hr] at hrow
  obtain ⟨cg, hcg⟩ := own_block hrow (k := g) rfl
  have hgb := own_base hrow g rfl
  have hs : ∀ {k : Nat} {c : Array Value} {t : TypeId}, wr.heap[k]? = some (.cells c t (0,0)) → t ≠ 4 → (wr.setCell ⟨g, j, none⟩ x).heap[k]? = wr.heap[k]? := by
    intro k c t hk ht
    exact Below.heap_setCell _ _ _ _ (by rintro rfl; exact ht (blk_type hk hcg))
  refine ⟨(hs h.blk (by decide)).trans h.blk, (hs h.g (by decide)).trans h.g, (hs h.res (by decide)).trans h.res, h.hb, ?_, h.A.put (by decide) i hi hr j x, ?_, h.sn, h.bel.setCell hgb _⟩
  · refine own_of_heap h.n (fun k hk => ?_)
    obtain ⟨c, hc⟩ := own_block h.n hk; exact hs hc (by decide)
  · exact h.W.move (fun k c t hk ht => hs hk (by rcases ht with rfl | rfl <;> decide))

theorem Ts.setW (h : Ts w wr tb gv vn ids TA TW ra rw va vw) (i : Nat) (hi : i < rw.length) {g n c : Nat} (hr : rw[i] = .slice (some ⟨g, 0, none⟩) n c) (j : Nat) (x : Value) : Ts w (wr.setCell ⟨g, j, none⟩ x) tb gv vn ids TA (TW.set i ((TW.getD i []).set j x)) ra rw va vw := by
  have hrow := h.W.row i hi
  rw [hr] at hrow
  obtain ⟨cg, hcg⟩ := own_block hrow (k := g) rfl
  have hgb := own_base hrow g rfl
  have hs : ∀ {k : Nat} {c : Array Value} {t : TypeId}, wr.heap[k]? = some (.cells c t (0,0)) → t ≠ 3 → (wr.setCell ⟨g, j, none⟩ x).heap[k]? = wr.heap[k]? := by
    intro k c t hk ht
    exact Below.heap_setCell _ _ _ _ (by rintro rfl; exact ht (blk_type hk hcg))
  refine ⟨(hs h.blk (by decide)).trans h.blk, (hs h.g (by decide)).trans h.g, (hs h.res (by decide)).trans h.res, h.hb, ?_, ?_, h.W.put (by decide) i hi hr j x, h.sn, h.bel.setCell hgb _⟩
  · refine own_of_heap h.n (fun k hk => Below.heap_setCell _ _ _ _ ?_)
    intro e
    exact h.sn i hi k hk (by rw [hr, e]; rfl)
  · exact h.A.move (fun k c t hk ht => hs hk (by rcases ht with rfl | rfl <;> decide))
end
end Go.Proofs.Ytgiebjihceggjaa
