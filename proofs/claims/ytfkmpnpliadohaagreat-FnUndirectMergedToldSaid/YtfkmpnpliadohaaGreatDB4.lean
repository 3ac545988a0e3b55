import Derived.Test.YtfkmpnpliadohaaGreatDA1
import Derived.Test.YtfkmpnpliadohaaGreatDT3
import Derived.Sort.Lot0
import Derived.Test.YtfkmpnpliadohaaGreatDT2
import Derived.Deep.RegionHeld3
import Derived.Deep.CutRange
import Derived.Deep.OwnRows
import Derived.BigRegion
set_option linter.unusedVariables false
set_option linter.unusedSimpArgs false
namespace Go.Proofs.YtfkmpnpliadohaaGreat.Q
open Go.RowKit Go.Lab Go.Proofs.YtfkmpnpliadohaaGreatW.PrintWords Go.Proofs.YtfkmpnpliadohaaGreatW.PrintLast Go.Proofs.YtfkmpnpliadohaaGreatW.PrintMore PL

/-- they lie in no block in common -/
def ApartS (a b : Value) : Prop := ∀ k, a.ownBlock = some k → b.ownBlock ≠ some k
theorem ApartS.symm {a b : Value} (h : ApartS a b) : ApartS b a := fun k hb ha => h k ha hb

/-- a row of one-cell elements, one element stored -/
theorem own_put1 {w : World} {base g cap n : Nat} {e : TypeId} {xs : List Value} (h : w.ownsRow base e 1 (.slice (some ⟨g, 0, none⟩) n cap) n xs) (i : Nat) (v : Value) :
    (w.setCell ⟨g, i, none⟩ v).ownsRow base e 1 (.slice (some ⟨g, 0, none⟩) n cap) n (xs.set i v) := by
  rcases h.2 with ⟨hn, _⟩ | ⟨g', cap', cur, hv, hb1, hg, hc1, hc2, hcs, htk⟩
  · cases hn
  · injection hv with e1 _ e3
    injection e1 with e1
    injection e1 with e1
    subst e1 e3
    refine ⟨by simpa using h.1, .inr ⟨g, cap, cur.setIfInBounds i v, rfl, hb1, blk_set hg _ _, hc1, hc2, by simpa using hcs, ?_⟩⟩
    rw [Array.toList_setIfInBounds, List.take_set, htk]

/-- a table: rows of one-cell values, no two in one block -/
structure Tb (w : World) (base : Nat) (eo ei : TypeId) (T : List (List Value)) (rs : List Value) (v : Value) : Prop where
  o : w.ownsRow base eo 1 v rs.length rs
  l : rs.length = T.length
  row : ∀ i (h : i < rs.length), w.ownsRow base ei 1 rs[i] (T.getD i []).length (T.getD i [])
  sep : ∀ i j (h : i < rs.length) (h' : j < rs.length), i ≠ j → ApartS rs[i] rs[j]

theorem Tb.nil (w : World) (base : Nat) (eo ei : TypeId) : Tb w base eo ei [] [] (.slice none 0 0) :=
  ⟨World.ownsRow_nil _ _ _ _, rfl, fun i h => by simp at h, fun i j h => by simp at h⟩

theorem Tb.move {w w1 : World} {base : Nat} {eo ei : TypeId} {T : List (List Value)} {rs : List Value} {v : Value} (h : Tb w base eo ei T rs v)
    (hm : ∀ (k : Nat) (c : Array Value) (t : TypeId), w.heap[k]? = some (Obj.cells c t (0, 0)) → t = eo ∨ t = ei → w1.heap[k]? = w.heap[k]?) : Tb w1 base eo ei T rs v := by
  refine ⟨own_of_heap h.o (fun k hk => ?_), h.l, fun i hi => own_of_heap (h.row i hi) (fun k hk => ?_), h.sep⟩
  · obtain ⟨c, hc⟩ := own_block h.o hk; exact hm k c eo hc (.inl rfl)
  · obtain ⟨c, hc⟩ := own_block (h.row i hi) hk; exact hm k c ei hc (.inr rfl)

theorem Tb.below {w w1 : World} {base : Nat} {eo ei : TypeId} {T : List (List Value)} {rs : List Value} {v : Value} (h : Tb w base eo ei T rs v) (hb : Below w.heap.size w w1) : Tb w1 base eo ei T rs v :=
  h.move (fun k _ _ hk _ => hb.block k (blk_lt hk))

theorem Tb.push {w w1 : World} {base : Nat} {eo ei : TypeId} {T : List (List Value)} {rs : List Value} {v v' r : Value} {row : List Value} (h : Tb w base eo ei T rs v) (hne : eo ≠ ei)
    (hr : w.ownsRow base ei 1 r row.length row) (hf : ∀ i (hi : i < rs.length), ApartS rs[i] r) (hown : w1.ownsRow base eo 1 v' (rs.length + 1) (rs ++ [r])) (hg : w.grownBy w1 v.ownBlock) : Tb w1 base eo ei (T ++ [row]) (rs ++ [r]) v' := by
  have hk : ∀ {x : Value} {n : Nat} {xs : List Value}, w.ownsRow base ei 1 x n xs → w1.ownsRow base ei 1 x n xs := by
    intro x n xs hx
    refine own_of_heap hx (fun k hk => ?_)
    obtain ⟨c, hc⟩ := own_block hx hk
    refine hg.block k (blk_lt hc) (fun e => ?_)
    obtain ⟨c', hc'⟩ := own_block h.o e.symm
    exact hne (blk_type hc' hc)
  refine ⟨by rw [List.length_append]; exact hown, by rw [List.length_append, List.length_append, h.l]; rfl, fun i hi => ?_, fun i j hi hj hij => ?_⟩
  · rw [List.length_append] at hi
    by_cases h1 : i < rs.length
    · rw [List.getElem_append_left h1, List.getD_eq_getElem?_getD, List.getElem?_append_left (by rw [← h.l]; exact h1), ← List.getD_eq_getElem?_getD]
      exact hk (h.row i h1)
    · have h2 : i = rs.length := by simp at hi; omega
      subst h2
      rw [List.getElem_append_right (Nat.le_refl _), List.getD_eq_getElem?_getD, List.getElem?_append_right (by rw [h.l]; exact Nat.le_refl _)]
      simp only [Nat.sub_self, List.getElem_cons_zero, h.l, List.getElem?_cons_zero, Option.getD_some]
      exact hk hr
  · rw [List.length_append] at hi hj
    by_cases h1 : i < rs.length <;> by_cases h2 : j < rs.length
    · rw [List.getElem_append_left h1, List.getElem_append_left h2]; exact h.sep i j h1 h2 hij
    · rw [List.getElem_append_left h1, List.getElem_append_right (by omega)]
      simpa using hf i h1
    · rw [List.getElem_append_right (by omega), List.getElem_append_left h2]
      simpa using (hf j h2).symm
    · simp at hi hj; omega

theorem Tb.put {w : World} {base : Nat} {eo ei : TypeId} {T : List (List Value)} {rs : List Value} {v : Value} (h : Tb w base eo ei T rs v) (hne : eo ≠ ei) (i : Nat) (hi : i < rs.length) {g n c : Nat} (hr : rs[i] = .slice (some ⟨g, 0, none⟩) n c) (j : Nat) (x : Value) :
    Tb (w.setCell ⟨g, j, none⟩ x) base eo ei (T.set i ((T.getD i []).set j x)) rs v := by
  have hrow := h.row i hi
  rw [hr] at hrow
  have hn : n = (T.getD i []).length := by
    obtain ⟨A, c', he⟩ := own_slice hrow
    injection he with _ e2 _
  subst hn
  obtain ⟨cg, hcg⟩ := own_block hrow (k := g) rfl
  refine ⟨own_of_heap h.o (fun k hk => ?_), by rw [List.length_set]; exact h.l, fun m hm => ?_, h.sep⟩
  · obtain ⟨c, hc⟩ := own_block h.o hk
    exact Below.heap_setCell _ _ _ _ (by rintro rfl; exact hne (blk_type hc hcg))
  · rw [List.getD_eq_getElem?_getD, List.getElem?_set]
    by_cases hmi : i = m
    · subst hmi
      rw [if_pos rfl, if_pos (by rw [← h.l]; exact hi), Option.getD_some, hr, List.length_set]
      exact own_put1 hrow j x
    · rw [if_neg hmi, ← List.getD_eq_getElem?_getD]
      refine own_of_heap (h.row m hm) (fun k hk => Below.heap_setCell _ _ _ _ ?_)
      intro e
      exact h.sep i m hi hm hmi k (by rw [hr, e]; rfl) hk

/-- the cell of a row -/
theorem Tb.cell {w : World} {base : Nat} {eo ei : TypeId} {T : List (List Value)} {rs : List Value} {v : Value} (h : Tb w base eo ei T rs v) (i : Nat) (hi : i < rs.length) :
    ∃ g cap, v = .slice (some ⟨g, 0, none⟩) rs.length cap ∧ w.cell? ⟨g, i, none⟩ = some rs[i] := by
  obtain ⟨g, cap, hv, hgb, hgl⟩ := h.o.form (by omega)
  refine ⟨g, cap, hv, ?_⟩
  subst hv
  have h1 := h.o.cells (g := g) rfl i rs[i] (List.getElem?_eq_getElem hi)
  rw [add_plain] at h1
  exact h1

theorem Tb.rowCell {w : World} {base : Nat} {eo ei : TypeId} {T : List (List Value)} {rs : List Value} {v : Value} (h : Tb w base eo ei T rs v) (i : Nat) (hi : i < rs.length) (j : Nat) (hj : j < (T.getD i []).length) :
    ∃ g cap, rs[i] = .slice (some ⟨g, 0, none⟩) (T.getD i []).length cap ∧ base ≤ g ∧ g < w.heap.size ∧ w.heap[g]?.isSome ∧ w.cell? ⟨g, j, none⟩ = some (T.getD i [])[j] ∧ w.frozen? ⟨g, j, none⟩ = false := by
  have hr := h.row i hi
  obtain ⟨g, cap, hv, hgb, hgl⟩ := hr.form (by omega)
  refine ⟨g, cap, hv, hgb, hgl, by rw [Array.getElem?_eq_getElem hgl]; rfl, ?_, ?_⟩
  · have h1 := hr.cells (g := g) (by rw [hv]; rfl) j (T.getD i [])[j] (List.getElem?_eq_getElem hj)
    rw [add_plain] at h1
    exact h1
  · obtain ⟨c, hc⟩ := own_block hr (k := g) (by rw [hv]; rfl)
    exact blk_frozen hc _
end Go.Proofs.YtfkmpnpliadohaaGreat.Q

set_option linter.unusedVariables false
set_option linter.unusedSimpArgs false
namespace Go.Proofs.YtfkmpnpliadohaaGreat.Q
open Go.RowKit Go.Lab Go.Proofs.YtfkmpnpliadohaaGreatW.PrintWords Go.Proofs.YtfkmpnpliadohaaGreatW.PrintLast Go.Proofs.YtfkmpnpliadohaaGreatW.PrintMore PL

def nilT : Array Value := #[.slice none 0 0, .slice none 0 0, .slice none 0 0]

/-- tableOf's table in the making -/
structure Ts (w wr : World) (tb : Nat) (gv : Array Value) (vn : Value) (ids : List Int) (TA TW : List (List Value)) (ra rw : List Value) (va vw : Value) : Prop where
  blk : wr.heap[tb]? = some (.cells #[vn, va, vw] 33 (0, 0))
  g : wr.heap[w.heap.size]? = some (.cells gv 25 (0, 0))
  res : wr.heap[w.heap.size + 1]? = some (.cells nilT 33 (0, 0))
  hb : w.heap.size + 1 < tb
  n : wr.ownsRow w.heap.size 3 1 vn ids.length (nums .i64 ids)
  A : Tb wr w.heap.size 35 4 TA ra va
  W : Tb wr w.heap.size 22 3 TW rw vw
  sn : ∀ i (h : i < rw.length), ApartS vn rw[i]
  bel : Below w.heap.size w wr

section
variable {w wr w1 : World} {tb : Nat} {gv : Array Value} {vn : Value} {ids : List Int} {TA TW : List (List Value)} {ra rw : List Value} {va vw : Value}

theorem Ts.below (h : Ts w wr tb gv vn ids TA TW ra rw va vw) (hb : Below wr.heap.size wr w1) : Ts w w1 tb gv vn ids TA TW ra rw va vw :=
  ⟨(hb.block _ (blk_lt h.blk)).trans h.blk, (hb.block _ (blk_lt h.g)).trans h.g, (hb.block _ (blk_lt h.res)).trans h.res, h.hb, pw_own_below h.n hb, h.A.below hb, h.W.below hb, h.sn, h.bel.trans (hb.mono h.bel.size)⟩

theorem Ts.pushA (h : Ts w wr tb gv vn ids TA TW ra rw va vw) {r v' : Value} {row : List Value} (hr : wr.ownsRow w.heap.size 4 1 r row.length row) (hf : ∀ i (hi : i < ra.length), ApartS ra[i] r)
    (hown : w1.ownsRow w.heap.size 35 1 v' (ra.length + 1) (ra ++ [r])) (hg : wr.grownBy w1 va.ownBlock) : Ts w (w1.setCell ⟨tb, 1, none⟩ v') tb gv vn ids (TA ++ [row]) TW (ra ++ [r]) rw v' vw := by
  have hne : ∀ {k : Nat} {c : Array Value} {t : TypeId}, wr.heap[k]? = some (.cells c t (0,0)) → t ≠ 35 → w1.heap[k]? = wr.heap[k]? := by
    intro k c t hk ht
    refine hg.block k (blk_lt hk) (fun hc => ?_)
    obtain ⟨c', hc'⟩ := own_block h.A.o hc.symm
    exact ht (blk_type hk hc')
  have hb1 : w1.heap[tb]? = some (.cells #[vn, va, vw] 33 (0, 0)) := (hne h.blk (by decide)).trans h.blk
  have hs : ∀ {k : Nat} {c : Array Value} {t : TypeId}, wr.heap[k]? = some (.cells c t (0,0)) → t ≠ 35 → t ≠ 33 → (w1.setCell ⟨tb, 1, none⟩ v').heap[k]? = wr.heap[k]? := by
    intro k c t hk ht ht2
    rw [Below.heap_setCell _ _ _ _ (by rintro rfl; exact ht2 (blk_type hk h.blk))]
    exact hne hk ht
  refine ⟨by simpa using blk_set hb1 1 v', (hs h.g (by decide) (by decide)).trans h.g, ?_, h.hb, ?_, ?_, ?_, h.sn, (h.bel.grown hg h.bel.size (fun k hk => own_base h.A.o k hk)).setCell (by have := h.hb; simp; omega) _⟩
  · rw [Below.heap_setCell _ _ _ _ (by have := h.hb; simp; omega)]
    exact (hne h.res (by decide)).trans h.res
  · refine own_of_heap h.n (fun k hk => ?_)
    obtain ⟨c, hc⟩ := own_block h.n hk; exact hs hc (by decide) (by decide)
  · refine (h.A.push (by decide) hr hf hown hg).move (fun k c t hk ht => Below.heap_setCell _ _ _ _ ?_)
    rintro rfl
    have := blk_type hk hb1
    rcases ht with rfl | rfl <;> exact absurd this (by decide)
  · exact h.W.move (fun k c t hk ht => hs hk (by rcases ht with rfl | rfl <;> decide) (by rcases ht with rfl | rfl <;> decide))

theorem Ts.pushW (h : Ts w wr tb gv vn ids TA TW ra rw va vw) {r v' : Value} {row : List Value} (hr : wr.ownsRow w.heap.size 3 1 r row.length row) (hf : ∀ i (hi : i < rw.length), ApartS rw[i] r) (hfn : ApartS vn r)
    (hown : w1.ownsRow w.heap.size 22 1 v' (rw.length + 1) (rw ++ [r])) (hg : wr.grownBy w1 vw.ownBlock) : Ts w (w1.setCell ⟨tb, 2, none⟩ v') tb gv vn ids TA (TW ++ [row]) ra (rw ++ [r]) va v' := by
  have hne : ∀ {k : Nat} {c : Array Value} {t : TypeId}, wr.heap[k]? = some (.cells c t (0,0)) → t ≠ 22 → w1.heap[k]? = wr.heap[k]? := by
    intro k c t hk ht
    refine hg.block k (blk_lt hk) (fun hc => ?_)
    obtain ⟨c', hc'⟩ := own_block h.W.o hc.symm
    exact ht (blk_type hk hc')
  have hb1 : w1.heap[tb]? = some (.cells #[vn, va, vw] 33 (0, 0)) := (hne h.blk (by decide)).trans h.blk
  have hs : ∀ {k : Nat} {c : Array Value} {t : TypeId}, wr.heap[k]? = some (.cells c t (0,0)) → t ≠ 22 → t ≠ 33 → (w1.setCell ⟨tb, 2, none⟩ v').heap[k]? = wr.heap[k]? := by
    intro k c t hk ht ht2
    rw [Below.heap_setCell _ _ _ _ (by rintro rfl; exact ht2 (blk_type hk h.blk))]
    exact hne hk ht
  refine ⟨by simpa using blk_set hb1 2 v', (hs h.g (by decide) (by decide)).trans h.g, ?_, h.hb, ?_, ?_, ?_, ?_, (h.bel.grown hg h.bel.size (fun k hk => own_base h.W.o k hk)).setCell (by have := h.hb; simp; omega) _⟩
  · rw [Below.heap_setCell _ _ _ _ (by have := h.hb; simp; omega)]
    exact (hne h.res (by decide)).trans h.res
  · refine own_of_heap h.n (fun k hk => ?_)
    obtain ⟨c, hc⟩ := own_block h.n hk; exact hs hc (by decide) (by decide)
  · exact h.A.move (fun k c t hk ht => hs hk (by rcases ht with rfl | rfl <;> decide) (by rcases ht with rfl | rfl <;> decide))
  · refine (h.W.push (by decide) hr hf hown hg).move (fun k c t hk ht => Below.heap_setCell _ _ _ _ ?_)
    rintro rfl
    have := blk_type hk hb1
    rcases ht with rfl | rfl <;> exact absurd this (by decide)
  · intro i hi
    rw [List.length_append] at hi
    by_cases h1 : i < rw.length
    · rw [List.getElem_append_left h1]; exact h.sn i h1
    · rw [List.getElem_append_right (by omega)]; simpa using hfn

theorem Ts.setA (h : Ts w wr tb gv vn ids TA TW ra rw va vw) (i : Nat) (hi : i < ra.length) {g n c : Nat} (hr : ra[i] = .slice (some ⟨g, 0, none⟩) n c) (j : Nat) (x : Value) : Ts w (wr.setCell ⟨g, j, none⟩ x) tb gv vn ids (TA.set i ((TA.getD i []).set j x)) TW ra rw va vw := by
  have hrow := h.A.row i hi
  rw [hr] at hrow
  obtain ⟨cg, hcg⟩ := own_block hrow (k := g) rfl
  have hgb := own_base hrow g rfl
  have hs : ∀ {k : Nat} {c : Array Value} {t : TypeId}, wr.heap[k]? = some (.cells c t (0,0)) → t ≠ 4 → (wr.setCell ⟨g, j, none⟩ x).heap[k]? = wr.heap[k]? := by
    intro k c t hk ht
    exact Below.heap_setCell _ _ _ _ (by rintro rfl; exact ht (blk_type hk hcg))
  refine ⟨(hs h.blk (by decide)).trans h.blk, (hs h.g (by decide)).trans h.g, (hs h.res (by decide)).trans h.res, h.hb, ?_, h.A.put (by decide) i hi hr j x, ?_, h.sn, h.bel.setCell hgb _⟩
  · refine own_of_heap h.n (fun k hk => ?_)
    obtain ⟨c, hc⟩ := own_block h.n hk; exact hs hc (by decide)
  · exact h.W.move (fun k c t hk ht => hs hk (by rcases ht with rfl | rfl <;> decide))

theorem Ts.setW (h : Ts w wr tb gv vn ids TA TW ra rw va vw) (i : Nat) (hi : i < rw.length) {g n c : Nat} (hr : rw[i] = .slice (some ⟨g, 0, none⟩) n c) (j : Nat) (x : Value) : Ts w (wr.setCell ⟨g, j, none⟩ x) tb gv vn ids TA (TW.set i ((TW.getD i []).set j x)) ra rw va vw := by
  have hrow := h.W.row i hi
  rw [hr] at hrow
  obtain ⟨cg, hcg⟩ := own_block hrow (k := g) rfl
  have hgb := own_base hrow g rfl
  have hs : ∀ {k : Nat} {c : Array Value} {t : TypeId}, wr.heap[k]? = some (.cells c t (0,0)) → t ≠ 3 → (wr.setCell ⟨g, j, none⟩ x).heap[k]? = wr.heap[k]? := by
    intro k c t hk ht
    exact Below.heap_setCell _ _ _ _ (by rintro rfl; exact ht (blk_type hk hcg))
  refine ⟨(hs h.blk (by decide)).trans h.blk, (hs h.g (by decide)).trans h.g, (hs h.res (by decide)).trans h.res, h.hb, ?_, ?_, h.W.put (by decide) i hi hr j x, h.sn, h.bel.setCell hgb _⟩
  · refine own_of_heap h.n (fun k hk => Below.heap_setCell _ _ _ _ ?_)
    intro e
    exact h.sn i hi k hk (by rw [hr, e]; rfl)
  · exact h.A.move (fun k c t hk ht => hs hk (by rcases ht with rfl | rfl <;> decide))
end
end Go.Proofs.YtfkmpnpliadohaaGreat.Q

set_option linter.unusedVariables false
set_option linter.unusedSimpArgs false
namespace Go.Proofs.YtfkmpnpliadohaaGreat.Q
open Go.RowKit Go.Lab Go.Proofs.YtfkmpnpliadohaaGreatW.PrintWords Go.Proofs.YtfkmpnpliadohaaGreatW.PrintLast Go.Proofs.YtfkmpnpliadohaaGreatW.PrintMore PL

/-- two places exchanged -/
def swp2 (ys : List Int) (i : Nat) : List Int := (ys.set i (ys.getD (i - 1) 0)).set (i - 1) (ys.getD i 0)

/-- the state of the inner loop of sorted -/
structure Ins (xs ys : List Int) (k i : Nat) : Prop where
  perm : ys.Perm xs
  ik : i ≤ k
  kn : k < ys.length
  rest : ∀ a b, a < b → b ≤ k → a ≠ i → b ≠ i → ys.getD a 0 ≤ ys.getD b 0
  self : ∀ b, i < b → b ≤ k → ys.getD i 0 ≤ ys.getD b 0

theorem swp2_length (ys : List Int) (i : Nat) : (swp2 ys i).length = ys.length := by simp [swp2]

theorem swp2_get (ys : List Int) (i : Nat) (h0 : 0 < i) (hi : i < ys.length) (j : Nat) : (swp2 ys i).getD j 0 = if j = i then ys.getD (i - 1) 0 else if j = i - 1 then ys.getD i 0 else ys.getD j 0 := by
  unfold swp2
  simp only [List.getD_eq_getElem?_getD, List.getElem?_set, List.length_set]
  by_cases h1 : j = i
  · subst h1
    rw [if_neg (by omega), if_pos rfl, if_pos hi, if_pos rfl]; rfl
  · rw [if_neg h1]
    by_cases h2 : j = i - 1
    · subst h2
      rw [if_pos rfl, if_pos (by omega), if_pos rfl]; rfl
    · rw [if_neg (fun e => h2 e.symm), if_neg (fun e => h1 e.symm), if_neg h2]

theorem swp2_perm (ys : List Int) (i : Nat) (h0 : 0 < i) (hi : i < ys.length) : (swp2 ys i).Perm ys := by
  unfold swp2
  have h1 : ys.getD (i - 1) 0 = ys[i - 1] := by rw [List.getD_eq_getElem?_getD, List.getElem?_eq_getElem (by omega)]; rfl
  have h2 : ys.getD i 0 = ys[i] := by rw [List.getD_eq_getElem?_getD, List.getElem?_eq_getElem hi]; rfl
  rw [h1, h2]
  exact Go.Sort.perm_set_set ys i (i - 1) hi (by omega)

theorem Ins.step {xs ys : List Int} {k i : Nat} (h : Ins xs ys k i) (h0 : 0 < i) (hlt : ys.getD i 0 < ys.getD (i - 1) 0) : Ins xs (swp2 ys i) k (i - 1) := by
  have hi : i < ys.length := by have := h.ik; have := h.kn; omega
  have g := swp2_get ys i h0 hi
  refine ⟨(swp2_perm ys i h0 hi).trans h.perm, by have := h.ik; omega, by rw [swp2_length]; exact h.kn, ?_, ?_⟩
  · intro a b hab hbk ha hb
    rw [g, g]
    by_cases h1 : a = i
    · rw [if_pos h1, if_neg (by omega), if_neg (by omega)]
      exact h.rest (i - 1) b (by omega) hbk (by omega) (by omega)
    · rw [if_neg h1, if_neg ha]
      by_cases h2 : b = i
      · rw [if_pos h2]; exact h.rest a (i - 1) (by omega) (by have := h.ik; omega) h1 (by omega)
      · rw [if_neg h2, if_neg hb]; exact h.rest a b hab hbk h1 h2
  · intro b hb hbk
    rw [g, g, if_neg (by omega), if_pos rfl]
    by_cases h2 : b = i
    · rw [if_pos h2]; omega
    · rw [if_neg h2, if_neg (by omega)]; exact h.self b (by omega) hbk

/-- the first k places ascend -/
def UpTo (ys : List Int) (k : Nat) : Prop := ∀ a b, a < b → b < k → ys.getD a 0 ≤ ys.getD b 0

theorem Ins.start {xs ys : List Int} {k : Nat} (hp : ys.Perm xs) (hk : k < ys.length) (hu : UpTo ys k) : Ins xs ys k k :=
  ⟨hp, Nat.le_refl _, hk, fun a b hab hbk _ hb => hu a b hab (by omega), fun b h1 h2 => by omega⟩

theorem Ins.stop {xs ys : List Int} {k i : Nat} (h : Ins xs ys k i) (hs : i = 0 ∨ ys.getD (i - 1) 0 ≤ ys.getD i 0) : UpTo ys (k + 1) := by
  intro a b hab hbk
  by_cases h1 : a = i
  · subst h1; exact h.self b hab (by omega)
  · by_cases h2 : b = i
    · subst h2
      rcases hs with hs | hs
      · omega
      · by_cases h3 : a = b - 1
        · subst h3; exact hs
        · exact Int.le_trans (h.rest a (b - 1) (by omega) (by omega) h1 (by omega)) hs
    · exact h.rest a b hab (by omega) h1 h2

theorem UpTo.srt {xs ys : List Int} (hp : ys.Perm xs) (h : UpTo ys ys.length) : ys = srt xs := by
  have h1 : ys.Pairwise (· ≤ ·) := by
    rw [List.pairwise_iff_getElem]
    intro i j hi hj hij
    have := h i j hij hj
    simpa [List.getD_eq_getElem?_getD, hi, hj] using this
  exact (hp.trans (srt_perm xs).symm).eq_of_pairwise (le := (· ≤ ·)) (fun a b _ _ h1 h2 => Int.le_antisymm h1 h2) h1 (srt_le xs)

theorem rd_getD (ys : List Int) (i : Nat) : rd ys (i : Int) = ys.getD i 0 := by unfold rd; rw [Int.toNat_natCast]

/-- laws.sorted sorts -/
theorem sorted_l0 (xs : List Int) (hl : xs.length ≤ 100000) : ∀ (d kk : Nat) (ys : List Int), xs.length - kk ≤ d → ys.Perm xs → UpTo ys kk → 1 ≤ kk → ∃ k0, laws_sorted.l0 k0 ys (kk : Int) = some (srt xs) := by
  intro d
  induction d with
  | zero =>
    intro kk ys hd hp hu h1
    have hlen := hp.length_eq
    refine ⟨1, ?_⟩
    simp only [laws_sorted.l0]
    rw [if_neg (by omega)]
    have hz : ys = srt xs := UpTo.srt hp (fun a b hab hb => hu a b hab (by omega))
    rw [hz]
  | succ d ih =>
    intro kk ys hd hp hu h1
    have hlen := hp.length_eq
    by_cases hlt : kk < xs.length
    · have inner : ∀ (i : Nat) (zs : List Int), Ins xs zs kk i → ∃ k0, laws_sorted.l1 k0 zs (kk : Int) (i : Int) = some (srt xs) := by
        intro i
        induction i with
        | zero =>
          intro zs hI
          obtain ⟨k0, h0⟩ := ih (kk + 1) zs (by omega) hI.perm (hI.stop (.inl rfl)) (by omega)
          refine ⟨k0 + 1, ?_⟩
          simp only [laws_sorted.l1]
          have w2 : wrap64 ((kk : Int) + 1) = ((kk + 1 : Nat) : Int) := by unfold wrap64; omega
          rw [if_neg (by omega), w2, h0]
        | succ i ihi =>
          intro zs hI
          have hzl := hI.perm.length_eq
          have hik := hI.ik
          have w1 : wrap64 (((i + 1 : Nat) : Int) - 1) = (i : Int) := by unfold wrap64; omega
          have w2 : wrap64 ((kk : Int) + 1) = ((kk + 1 : Nat) : Int) := by unfold wrap64; omega
          by_cases hs : zs.getD (i + 1) 0 < zs.getD i 0
          · have hI2 := hI.step (by omega) (by simpa using hs)
            rw [Nat.add_sub_cancel] at hI2
            obtain ⟨k0, h0⟩ := ihi _ hI2
            refine ⟨k0 + 1, ?_⟩
            simp only [laws_sorted.l1]
            rw [w1, rd_getD, rd_getD, if_pos (by omega), if_pos (by omega), if_pos (by omega), if_pos (by omega), if_pos (by omega), if_pos hs, Int.toNat_natCast, Int.toNat_natCast]
            unfold swp2 at h0
            simpa using h0
          · obtain ⟨k0, h0⟩ := ih (kk + 1) zs (by omega) hI.perm (hI.stop (.inr (by rw [Nat.add_sub_cancel]; omega))) (by omega)
            refine ⟨k0 + 1, ?_⟩
            simp only [laws_sorted.l1]
            rw [w1, rd_getD, rd_getD, if_pos (by omega), if_pos (by omega), if_pos (by omega), if_pos (by omega), if_pos (by omega), if_neg hs, w2, h0]
      obtain ⟨k0, h0⟩ := inner kk ys (Ins.start hp (by omega) hu)
      refine ⟨k0 + 1, ?_⟩
      simp only [laws_sorted.l0]
      rw [if_pos (by omega), h0]
    · refine ⟨1, ?_⟩
      simp only [laws_sorted.l0]
      rw [if_neg (by omega)]
      have hz : ys = srt xs := UpTo.srt hp (fun a b hab hb => hu a b hab (by omega))
      rw [hz]

theorem sorted_f (xs : List Int) (hl : xs.length ≤ 100000) : ∃ k0, laws_sorted.f k0 xs = some (srt xs) := by
  obtain ⟨k0, h0⟩ := sorted_l0 xs hl xs.length 1 xs (by omega) (List.Perm.refl _) (fun a b h1 h2 => by omega) (Nat.le_refl _)
  refine ⟨k0, ?_⟩
  unfold laws_sorted.f slices_Clone_int_int.f
  rw [if_pos hl]
  exact h0
end Go.Proofs.YtfkmpnpliadohaaGreat.Q

set_option linter.unusedVariables false
set_option linter.unusedSimpArgs false
namespace Go.Proofs.YtfkmpnpliadohaaGreat.Q
open Go.RowKit Go.Lab Go.Proofs.YtfkmpnpliadohaaGreatW.PrintWords Go.Proofs.YtfkmpnpliadohaaGreatW.PrintLast Go.Proofs.YtfkmpnpliadohaaGreatW.PrintMore PL

theorem Tryz.info35 : (Tryz.prog.info? 35).map (fun i => (i.zero, i.size, i.bytes)) = some (some (.slice none 0 0), 1, 24) := by kernel_rfl
theorem Tryz.info22 : (Tryz.prog.info? 22).map (fun i => (i.zero, i.size, i.bytes)) = some (some (.slice none 0 0), 1, 24) := by kernel_rfl
theorem Tryz.info4 : (Tryz.prog.info? 4).map (fun i => (i.zero, i.size, i.bytes)) = some (some (.bool false), 1, 1) := by kernel_rfl

theorem reps_ints {w : World} {k : IntKind} {base : Nat} {ok : Nat → Prop} {xs : List Int} {inner : List Value} (h : Reps ((Kd.int k).M w base ok) 1 xs inner) : inner = nums k xs := by
  apply List.ext_getElem?
  intro j
  by_cases hj : j < xs.length
  · have hx : List.take 1 (List.drop (j * 1) inner) = [.int k xs[j]] := h.2 j _ (List.getElem?_eq_getElem hj)
    have h1 := congrArg (fun l => l[0]?) hx
    simp only [List.getElem?_take, List.getElem?_drop, Nat.mul_one, Nat.add_zero] at h1
    rw [if_pos (by omega)] at h1
    rw [h1]
    simp [nums, hj]
  · rw [List.getElem?_eq_none (by have := h.1; omega), List.getElem?_eq_none (by rw [nums_length]; omega)]

theorem madeArr (z : Value) (n : Nat) : madeCells #[z] n = (List.replicate n z).toArray := by
  apply Array.ext'
  apply List.ext_getElem
  · simp [madeCells]
  · intro i h1 h2
    simp [madeCells, Nat.mod_one]

theorem made_own (W : World) (base : Nat) (e : TypeId) (z : Value) (n : Nat) (hb : base ≤ W.heap.size) (hn : n ≤ 1000) :
    (W.alloc (.cells (List.replicate n z).toArray e)).ownsRow base e 1 (.slice (some ⟨W.heap.size, 0, none⟩) n n) (List.replicate n z).length (List.replicate n z) := by
  refine ⟨by rw [Nat.mul_one], .inr ⟨W.heap.size, n, _, by rw [List.length_replicate], hb, heap_alloc_new _ _, by rw [List.length_replicate]; exact Nat.le_refl _, by unfold maxLen; omega, by simp, ?_⟩⟩
  simp

theorem hfresh1 {W : World} {base : Nat} {e : TypeId} {size n m : Nat} {v : Value} {xs : List Value} (h : W.ownsRow base e size v n xs) : ApartS v (.slice (some ⟨W.heap.size, 0, none⟩) m m) := by
  intro k hk hk2
  have := own_lt h k hk
  have e1 : W.heap.size = k := by simpa [Value.ownBlock] using hk2
  omega
theorem hfresh {W : World} {base : Nat} {eo ei : TypeId} {T : List (List Value)} {rs : List Value} {v : Value} {m : Nat} (h : Tb W base eo ei T rs v) : ∀ i (hi : i < rs.length), ApartS rs[i] (.slice (some ⟨W.heap.size, 0, none⟩) m m) := fun i hi => hfresh1 (h.row i hi)

theorem far_cell2 {w w1 : World} {ob base n : Nat} {cs : Array Value} {t e : TypeId} {size : Nat} {v : Value} {xs : List Value} (hb : w.heap[ob]? = some (.cells cs t (0, 0))) (ho : w.ownsRow base e size v n xs) (hg : w.grownBy w1 v.ownBlock) (i : Nat) (x : Value) (hx : cs[i]? = some x) (hte : t ≠ e) :
    w1.cell? ⟨ob, i, none⟩ = some x ∧ w1.frozen? ⟨ob, i, none⟩ = false := by
  have hh : w1.heap[ob]? = some (.cells cs t (0, 0)) := by
    rw [hg.block ob (blk_lt hb) (fun hc => ?_), hb]
    obtain ⟨c', hc'⟩ := own_block ho hc.symm
    exact hte (blk_type hb hc')
  exact ⟨by rw [blk_cell hh]; exact hx, blk_frozen hh _⟩

theorem news1 (w : World) (x : Value) (t : TypeId) : ∀ j u, [x][j]? = some u → (w.alloc (.cells #[x] t)).cell? ((⟨w.heap.size, 0, none⟩ : Addr).add j) = some u := by
  intro j u hu
  rw [add_plain, blk_cell (heap_alloc_new w (.cells #[x] t))]
  match j, hu with
  | 0, hu => exact hu
  | j + 1, hu => simp at hu

theorem news1' (w : World) (x : Value) (t : TypeId) (B : Nat) (hB : w.heap.size = B) : ∀ j u, [x][j]? = some u → (w.alloc (.cells #[x] t)).drew.cell? ((⟨B, 0, none⟩ : Addr).add j) = some u := by
  subst hB
  exact news1 w x t

/-- the table in the making, with what a walk reads of it -/
structure TsC (w wr : World) (tb : Nat) (d : Bool) (s1 s2 vn : Value) (ids : List Int) (TA TW : List (List Value)) (ra rw : List Value) (va vw : Value) : Prop where
  t : Ts w wr tb #[.bool d, s1, s2] vn ids TA TW ra rw va vw
  c0 : wr.cell? ⟨tb, 0, none⟩ = some vn
  c1 : wr.cell? ⟨tb, 1, none⟩ = some va
  c2 : wr.cell? ⟨tb, 2, none⟩ = some vw
  g0 : wr.cell? ⟨w.heap.size, 0, none⟩ = some (.bool d)
  g2 : wr.cell? ⟨w.heap.size, 2, none⟩ = some s2
theorem TsC.of {w wr : World} {tb : Nat} {d : Bool} {s1 s2 vn : Value} {ids : List Int} {TA TW : List (List Value)} {ra rw : List Value} {va vw : Value} (h : Ts w wr tb #[.bool d, s1, s2] vn ids TA TW ra rw va vw) : TsC w wr tb d s1 s2 vn ids TA TW ra rw va vw :=
  ⟨h, by rw [blk_cell h.blk]; rfl, by rw [blk_cell h.blk]; rfl, by rw [blk_cell h.blk]; rfl, by rw [blk_cell h.g]; rfl, by rw [blk_cell h.g]; rfl⟩

def tof.T6 : Bool × List (List Nat × List Nat) := (true, [([], []), ([0], [0]), ([], []), ([2, 2], [2]), ([3], [3]), ([1, 4], [1, 4]), ([0, 1, 2, 3, 4, 5], []), ([6, 5, 5, 0, 1, 2, 3, 4, 5], [5, 6])])
def tof.B6 : List Nat := [0, 1, 0, 4, 12, 31, 63, 127]
theorem tof.tab6 : rtab .any (opsOf Tryz.f13 6) = tof.T6 := by kernel_rfl
theorem tof.bits6 : waitsOk tof.T6.2 tof.B6 = true := by kernel_rfl
def tof.T7 : Bool × List (List Nat × List Nat) := (true, [([], []), ([0], [0]), ([], []), ([2, 2], [2]), ([3], [3]), ([1, 4], [1, 4]), ([0, 1, 2, 3, 4, 5], []), ([6, 5, 5, 0, 1, 2, 3, 4, 5], [5, 6])])
def tof.B7 : List Nat := [0, 1, 0, 4, 12, 31, 63, 127]
theorem tof.tab7 : rtab .any (opsOf Tryz.f13 7) = tof.T7 := by kernel_rfl
theorem tof.bits7 : waitsOk tof.T7.2 tof.B7 = true := by kernel_rfl
def tof.T11 : Bool × List (List Nat × List Nat) := (true, [([], []), ([0], [0]), ([], []), ([2], [2]), ([], []), ([3, 4], [3, 4]), ([5], [5]), ([6], [6]), ([1, 7], [1, 7]), ([], []), ([9], [9]), ([], []), ([11], [11]), ([], []), ([12, 13], [12, 13]), ([14], [14]), ([15], [15]), ([10, 16, 8], [10, 16]), ([8, 17, 0, 1, 2, 3, 4, 5, 6, 7, 8], [8]), ([17, 18, 0, 1, 2, 3, 4, 5, 6, 7, 8, 9, 10, 11, 12, 13, 14, 15, 16, 17, 18], [17])])
def tof.B11 : List Nat := [0, 1, 0, 4, 0, 28, 60, 124, 255, 0, 512, 0, 2048, 0, 14336, 30720, 63488, 131071, 262143, 524287]
theorem tof.tab11 : rtab .any (opsOf Tryz.f13 11) = tof.T11 := by kernel_rfl
theorem tof.bits11 : waitsOk tof.T11.2 tof.B11 = true := by kernel_rfl
def tof.T12 : Bool × List (List Nat × List Nat) := (true, [([], []), ([0], [0]), ([], []), ([1, 2], [1, 2]), ([3], [3]), ([], []), ([], []), ([6], [6]), ([], []), ([7, 8], [7, 8]), ([9], [9]), ([], []), ([], []), ([12], [12]), ([], []), ([13, 14], [13, 14]), ([15], [15]), ([16], [16]), ([4, 5, 0, 1, 2, 3, 4, 5, 10, 17], [4, 5]), ([18, 0, 1, 2, 3, 4, 5, 10, 17], [18]), ([10, 11, 0, 1, 2, 3, 4, 5, 6, 7, 8, 9, 10, 11, 12, 13, 14, 15, 16, 17, 18, 19], [10, 11]), ([20, 17, 19, 0, 1, 2, 3, 4, 5, 6, 7, 8, 9, 10, 11, 12, 13, 14, 15, 16, 17, 18, 19], [17, 20])])
def tof.B12 : List Nat := [0, 1, 0, 7, 15, 0, 0, 64, 0, 448, 960, 0, 0, 4096, 0, 28672, 61440, 126976, 260095, 522239, 1048575, 2097151]
theorem tof.tab12 : rtab .any (opsOf Tryz.f13 12) = tof.T12 := by kernel_rfl
theorem tof.bits12 : waitsOk tof.T12.2 tof.B12 = true := by kernel_rfl
def tof.T14 : Bool × List (List Nat × List Nat) := (true, [([], []), ([0], [0]), ([], []), ([1, 2], [1, 2]), ([3], [3]), ([], []), ([], []), ([6], [6]), ([], []), ([7, 8], [7, 8]), ([9], [9]), ([], []), ([], []), ([12], [12]), ([], []), ([13, 14], [13, 14]), ([15], [15]), ([16], [16]), ([4, 5, 0, 1, 2, 3, 4, 5, 10, 17], [4, 5]), ([18, 0, 1, 2, 3, 4, 5, 10, 17], [18]), ([10, 11, 0, 1, 2, 3, 4, 5, 6, 7, 8, 9, 10, 11, 12, 13, 14, 15, 16, 17, 18, 19], [10, 11]), ([20, 17, 19, 0, 1, 2, 3, 4, 5, 6, 7, 8, 9, 10, 11, 12, 13, 14, 15, 16, 17, 18, 19], [17, 20])])
def tof.B14 : List Nat := [0, 1, 0, 7, 15, 0, 0, 64, 0, 448, 960, 0, 0, 4096, 0, 28672, 61440, 126976, 260095, 522239, 1048575, 2097151]
theorem tof.tab14 : rtab .any (opsOf Tryz.f13 14) = tof.T14 := by kernel_rfl
theorem tof.bits14 : waitsOk tof.T14.2 tof.B14 = true := by kernel_rfl

theorem Ts.start {w w1 : World} (d : Bool) (s1 s2 : Value) {ids : List Int} {An : Option Addr} {cn : Nat}
    (hR : Kd.R (Kd.int .i64) 3 w1 ((w.alloc (.cells #[.bool d, s1, s2] 25)).alloc (.cells nilT 33)).heap.size (fun _ => True) (.slice An ids.length cn) ids)
    (hb : Below ((w.alloc (.cells #[.bool d, s1, s2] 25)).alloc (.cells nilT 33)).heap.size ((w.alloc (.cells #[.bool d, s1, s2] 25)).alloc (.cells nilT 33)) w1) :
    Ts w (w1.alloc (.cells #[.slice An ids.length cn, .slice none 0 0, .slice none 0 0] 33)) w1.heap.size #[.bool d, s1, s2] (.slice An ids.length cn) ids [] [] [] [] (.slice none 0 0) (.slice none 0 0) := by
  have hs := hb.size
  simp at hs
  have ho : w1.ownsRow ((w.alloc (.cells #[.bool d, s1, s2] 25)).alloc (.cells nilT 33)).heap.size 3 1 (.slice An ids.length cn) ids.length (nums .i64 ids) := by
    obtain ⟨_, inner, ho, hr⟩ := hR
    rw [reps_ints hr] at ho
    exact ho
  have hal : Below w1.heap.size w1 (w1.alloc (.cells #[.slice An ids.length cn, .slice none 0 0, .slice none 0 0] 33)) := (Below.refl _ _).alloc (Nat.le_refl _) _
  have h0 : Below w.heap.size w ((w.alloc (.cells #[.bool d, s1, s2] 25)).alloc (.cells nilT 33)) := ((Below.refl _ _).alloc (Nat.le_refl _) _).alloc (by simp) _
  have hB : Below w.heap.size w w1 := h0.trans (hb.mono (by simp; omega))
  refine ⟨heap_alloc_new _ _, ?_, ?_, by omega, pw_own_below (own_weaken ho (by simp; omega)) hal, Tb.nil _ _ _ _, Tb.nil _ _ _ _, fun i h => by simp at h, hB.alloc (by omega) _⟩
  · rw [hal.block _ (by omega), hb.block _ (by simp; omega), Below.heap_alloc _ _ _ (by simp)]
    exact heap_alloc_new _ _
  · rw [hal.block _ (by omega), hb.block _ (by simp)]
    have := heap_alloc_new (w.alloc (.cells #[.bool d, s1, s2] 25)) (.cells nilT 33)
    rw [show (w.alloc (.cells #[.bool d, s1, s2] 25)).heap.size = w.heap.size + 1 by simp] at this
    exact this

theorem index_l0 (l : List Int) (x : Int) (hl : l.length ≤ 100000) : ∀ (d k i : Nat), l.length - i ≤ d → d < k → i ≤ l.length → x ∈ l.drop i → laws_index.l0 k l x (i : Int) = some (((i + (l.drop i).idxOf x : Nat) : Int)) := by
  intro d
  induction d with
  | zero =>
    intro k i hd hk hi hx
    rw [List.drop_eq_nil_of_le (by omega)] at hx
    cases hx
  | succ d ih =>
    intro k i hd hk hi hx
    obtain ⟨k, rfl⟩ : ∃ m, k = m + 1 := ⟨k - 1, by omega⟩
    simp only [laws_index.l0]
    by_cases hlt : i < l.length
    · have w2 : wrap64 ((i : Int) + 1) = ((i + 1 : Nat) : Int) := by unfold wrap64; omega
      have r2 : rd l (i : Int) = l[i] := by unfold rd; rw [Int.toNat_natCast, List.getD_eq_getElem?_getD, List.getElem?_eq_getElem hlt]; rfl
      rw [List.drop_eq_getElem_cons hlt] at hx ⊢
      rw [if_pos (by omega), if_pos (by omega), r2, w2]
      by_cases he : l[i] = x
      · rw [if_pos he, he]; simp
      · rw [if_neg he, List.idxOf_cons, show (l[i] == x) = false by simpa using he, cond_false]
        have hx2 : x ∈ l.drop (i + 1) := by
          rcases List.mem_cons.1 hx with h | h
          · exact absurd h.symm he
          · exact h
        rw [ih k (i + 1) (by omega) (by omega) (by omega) hx2]
        congr 2
        omega
    · rw [List.drop_eq_nil_of_le (by omega)] at hx
      cases hx

theorem index_f (l : List Int) (x : Int) (hl : l.length ≤ 100000) (hx : x ∈ l) : laws_index.f (l.length + 1) l x = some ((l.idxOf x : Nat) : Int) := by
  have h := index_l0 l x hl l.length (l.length + 1) 0 (by omega) (by omega) (Nat.zero_le _) (by simpa using hx)
  unfold laws_index.f
  rw [show (0 : Int) = ((0 : Nat) : Int) from rfl, h]
  simp

theorem index_Ts {w wr : World} {tb n cn : Nat} {gv : Array Value} {An : Option Addr} {ids : List Int} {TA TW : List (List Value)} {ra rw : List Value} {va vw : Value} (h : Ts w wr tb gv (.slice An n cn) ids TA TW ra rw va vw) (hn : n = ids.length) (hl : n ≤ 1000) {x : Int} (hx : x ∈ ids) :
    Calls Tryz.prog 54 #[.slice An n cn, .int .i64 x] wr fun e w' => e = .returned (.int .i64 (ids.idxOf x : Nat)) ∧ Drawn0 wr w' := by
  subst hn
  have hR := R_of_ints h.n
  obtain ⟨hn1, hn2, hC⟩ := Kd.R_reads' hR
  exact laws_index.calls (ids.length + 1) An cn ids x _ wr hC hn2 (index_f ids x (by omega) hx)

theorem index_Ts' {w wr : World} {tb n cn : Nat} {gv : Array Value} {An : Option Addr} {ids : List Int} {TA TW : List (List Value)} {ra rw : List Value} {va vw : Value} (h : Ts w wr tb gv (.slice An n cn) ids TA TW ra rw va vw) (hn : n = ids.length) (hl : n ≤ 1000) {x : Int} (hx : x ∈ ids) {u : Nat} (hu : u = ids.idxOf x) :
    Calls Tryz.prog 54 #[.slice An n cn, .int .i64 x] wr fun e w' => e = .returned (.int .i64 u) ∧ Drawn0 wr w' := by
  subst hu
  exact index_Ts h hn hl hx

theorem tb_end {w wr : World} {tb : Nat} {gv : Array Value} {vn x y z : Value} {ids : List Int} {TA TW : List (List Value)} {ra rw : List Value} {va vw : Value} (h : Ts w wr tb gv vn ids TA TW ra rw va vw) :
    Kd.R (Kd.int .i64) 3 (((wr.setCell ⟨w.heap.size + 1, 0, none⟩ x).setCell ⟨w.heap.size + 1, 1, none⟩ y).setCell ⟨w.heap.size + 1, 2, none⟩ z) w.heap.size (fun _ => True) vn ids ∧
    (∃ ra, Tb (((wr.setCell ⟨w.heap.size + 1, 0, none⟩ x).setCell ⟨w.heap.size + 1, 1, none⟩ y).setCell ⟨w.heap.size + 1, 2, none⟩ z) w.heap.size 35 4 TA ra va) ∧
    (∃ rw, Tb (((wr.setCell ⟨w.heap.size + 1, 0, none⟩ x).setCell ⟨w.heap.size + 1, 1, none⟩ y).setCell ⟨w.heap.size + 1, 2, none⟩ z) w.heap.size 22 3 TW rw vw ∧ ∀ i (h : i < rw.length), ApartS vn rw[i]) ∧
    Below w.heap.size w (((wr.setCell ⟨w.heap.size + 1, 0, none⟩ x).setCell ⟨w.heap.size + 1, 1, none⟩ y).setCell ⟨w.heap.size + 1, 2, none⟩ z) := by
  have hm : ∀ (k : Nat) (c : Array Value) (t : TypeId), wr.heap[k]? = some (Obj.cells c t (0, 0)) → t ≠ 33 → (((wr.setCell ⟨w.heap.size + 1, 0, none⟩ x).setCell ⟨w.heap.size + 1, 1, none⟩ y).setCell ⟨w.heap.size + 1, 2, none⟩ z).heap[k]? = wr.heap[k]? := by
    intro k c t hk ht
    have hne : k ≠ w.heap.size + 1 := by rintro rfl; exact ht (blk_type hk h.res)
    rw [Below.heap_setCell _ _ _ _ hne, Below.heap_setCell _ _ _ _ hne, Below.heap_setCell _ _ _ _ hne]
  refine ⟨R_of_ints (own_of_heap h.n (fun k hk => ?_)), ⟨ra, h.A.move (fun k c t hk ht => hm k c t hk (by rcases ht with rfl | rfl <;> decide))⟩, ⟨rw, h.W.move (fun k c t hk ht => hm k c t hk (by rcases ht with rfl | rfl <;> decide)), h.sn⟩, ((h.bel.setCell (by simp) _).setCell (by simp) _).setCell (by simp) _⟩
  obtain ⟨c, hc⟩ := own_block h.n hk
  exact hm k c 3 hc (by decide)

theorem resCells {wr : World} {b : Nat} (h : wr.heap[b]? = some (.cells nilT 33 (0, 0))) : wr.cell? ⟨b, 0, none⟩ = some (.slice none 0 0) ∧ wr.cell? ⟨b, 1, none⟩ = some (.slice none 0 0) ∧ wr.cell? ⟨b, 2, none⟩ = some (.slice none 0 0) ∧ wr.frozen? ⟨b, 0, none⟩ = false ∧ wr.frozen? ⟨b, 1, none⟩ = false ∧ wr.frozen? ⟨b, 2, none⟩ = false :=
  ⟨by rw [blk_cell h]; rfl, by rw [blk_cell h]; rfl, by rw [blk_cell h]; rfl, blk_frozen h _, blk_frozen h _, blk_frozen h _⟩

def putT (T : List (List Value)) (u v : Nat) (x : Value) : List (List Value) := T.set u ((T.getD u []).set v x)
def stepA (d : Bool) (ids : List Int) (T : List (List Value)) (e : S38) : List (List Value) :=
  if d then putT T (ids.idxOf e.f0) (ids.idxOf e.f1) (.bool true) else putT (putT T (ids.idxOf e.f0) (ids.idxOf e.f1) (.bool true)) (ids.idxOf e.f1) (ids.idxOf e.f0) (.bool true)
def stepW (d : Bool) (ids : List Int) (T : List (List Value)) (e : S38) : List (List Value) :=
  if d then putT T (ids.idxOf e.f0) (ids.idxOf e.f1) (.int .i64 e.f2) else putT (putT T (ids.idxOf e.f0) (ids.idxOf e.f1) (.int .i64 e.f2)) (ids.idxOf e.f1) (ids.idxOf e.f0) (.int .i64 e.f2)

/-- all rows are n long -/
def Sq (n : Nat) (T : List (List Value)) : Prop := T.length = n ∧ ∀ i, i < n → (T.getD i []).length = n
theorem Sq.put {n : Nat} {T : List (List Value)} (h : Sq n T) (u v : Nat) (x : Value) : Sq n (putT T u v x) := by
  refine ⟨by unfold putT; rw [List.length_set]; exact h.1, fun i hi => ?_⟩
  unfold putT
  rw [List.getD_eq_getElem?_getD, List.getElem?_set]
  by_cases hu : u = i
  · subst hu
    rw [if_pos rfl, if_pos (by rw [h.1]; exact hi), Option.getD_some, List.length_set]
    exact h.2 u hi
  · rw [if_neg hu, ← List.getD_eq_getElem?_getD]; exact h.2 i hi

def zA (n k : Nat) : List (List Value) := List.replicate k (List.replicate n (.bool false))
def zW (n k : Nat) : List (List Value) := List.replicate k (List.replicate n (.int .i64 0))

theorem Sq.zA (n : Nat) : Sq n (zA n n) := by
  refine ⟨by simp [Q.zA], fun i hi => ?_⟩
  unfold Q.zA
  rw [List.getD_eq_getElem?_getD, List.getElem?_replicate, if_pos hi]; simp
theorem Sq.zW (n : Nat) : Sq n (zW n n) := by
  refine ⟨by simp [Q.zW], fun i hi => ?_⟩
  unfold Q.zW
  rw [List.getD_eq_getElem?_getD, List.getElem?_replicate, if_pos hi]; simp
theorem Sq.stepA {n : Nat} {T : List (List Value)} (h : Sq n T) (d : Bool) (ids : List Int) (e : S38) : Sq n (stepA d ids T e) := by
  unfold Q.stepA; split
  · exact h.put _ _ _
  · exact (h.put _ _ _).put _ _ _
theorem Sq.stepW {n : Nat} {T : List (List Value)} (h : Sq n T) (d : Bool) (ids : List Int) (e : S38) : Sq n (stepW d ids T e) := by
  unfold Q.stepW; split
  · exact h.put _ _ _
  · exact (h.put _ _ _).put _ _ _
def tabA (d : Bool) (ids : List Int) (n : Nat) (es : List S38) : List (List Value) := es.foldl (stepA d ids) (zA n n)
def tabW (d : Bool) (ids : List Int) (n : Nat) (es : List S38) : List (List Value) := es.foldl (stepW d ids) (zW n n)
theorem Sq.tabs (d : Bool) (ids : List Int) (n : Nat) (es : List S38) : Sq n (tabA d ids n es) ∧ Sq n (tabW d ids n es) := by
  unfold tabA tabW
  suffices h : ∀ (es : List S38) (TA TW : List (List Value)), Sq n TA → Sq n TW → Sq n (es.foldl (Q.stepA d ids) TA) ∧ Sq n (es.foldl (Q.stepW d ids) TW) from h es _ _ (Sq.zA n) (Sq.zW n)
  intro es
  induction es with
  | nil => intro TA TW h1 h2; exact ⟨h1, h2⟩
  | cons e es ih => intro TA TW h1 h2; exact ih _ _ (h1.stepA d ids e) (h2.stepW d ids e)

/-- what a region that stores into both tables reads -/
theorem Ts.rows {w wr : World} {tb n : Nat} {gv : Array Value} {vn : Value} {ids : List Int} {TA TW : List (List Value)} {ra rw : List Value} {va vw : Value} (h : Ts w wr tb gv vn ids TA TW ra rw va vw) (hA : Sq n TA) (hW : Sq n TW) (u v : Nat) (hu : u < n) (hv : v < n) :
    ∃ ga CA gw CW gu cu gx cx, ∃ (h1 : u < ra.length) (h2 : u < rw.length), va = .slice (some ⟨ga, 0, none⟩) ra.length CA ∧ vw = .slice (some ⟨gw, 0, none⟩) rw.length CW ∧ ra[u] = .slice (some ⟨gu, 0, none⟩) n cu ∧ rw[u] = .slice (some ⟨gx, 0, none⟩) n cx ∧
      wr.cell? ⟨ga, u, none⟩ = some (.slice (some ⟨gu, 0, none⟩) n cu) ∧ wr.cell? ⟨gw, u, none⟩ = some (.slice (some ⟨gx, 0, none⟩) n cx) ∧ gu ≠ gx ∧
      (∃ x, wr.cell? ⟨gu, v, none⟩ = some x) ∧ wr.frozen? ⟨gu, v, none⟩ = false ∧ (∃ y, wr.cell? ⟨gx, v, none⟩ = some y) ∧ wr.frozen? ⟨gx, v, none⟩ = false ∧
      (∀ b, (∃ y, (wr.setCell ⟨gu, v, none⟩ b).cell? ⟨gx, v, none⟩ = some y) ∧ (wr.setCell ⟨gu, v, none⟩ b).frozen? ⟨gx, v, none⟩ = false) := by
  have h1 : u < ra.length := by rw [h.A.l, hA.1]; exact hu
  have h2 : u < rw.length := by rw [h.W.l, hW.1]; exact hu
  obtain ⟨ga, CA, e1, f1⟩ := h.A.cell u h1
  obtain ⟨gw, CW, e2, f2⟩ := h.W.cell u h2
  have lA := hA.2 u hu
  have lW := hW.2 u hu
  obtain ⟨gu, cu, e3, b3, l3, _, q3, z3⟩ := h.A.rowCell u h1 v (by rw [lA]; exact hv)
  obtain ⟨gx, cx, e4, b4, l4, _, q4, z4⟩ := h.W.rowCell u h2 v (by rw [lW]; exact hv)
  rw [lA] at e3
  rw [lW] at e4
  rw [e3] at f1
  rw [e4] at f2
  have hne : gu ≠ gx := by
    rintro rfl
    obtain ⟨c1, hc1⟩ := own_block (h.A.row u h1) (k := gu) (by rw [e3]; rfl)
    obtain ⟨c2, hc2⟩ := own_block (h.W.row u h2) (k := gu) (by rw [e4]; rfl)
    exact absurd (blk_type hc1 hc2) (by decide)
  refine ⟨ga, CA, gw, CW, gu, cu, gx, cx, h1, h2, e1, e2, e3, e4, f1, f2, hne, ⟨_, q3⟩, z3, ⟨_, q4⟩, z4, fun b => ?_⟩
  obtain ⟨gx', cx', e5, _, _, _, q5, z5⟩ := (h.setA u h1 e3 v b).W.rowCell u h2 v (by rw [lW]; exact hv)
  rw [e4] at e5
  injection e5 with e6 _ _
  injection e6 with e6
  injection e6 with e6
  subst e6
  exact ⟨⟨_, q5⟩, z5⟩

set_option maxHeartbeats 8000000 in
set_option maxRecDepth 100000 in
theorem tableOf_any (d : Bool) (A1 A2 : Option Addr) (c1 c2 : Nat) (zs : List Int) (es : List S38) (w : World) (ks : Nat)
    (hN : Kd.C (Kd.int .i64) w A1 zs.length zs) (hc1 : zs.length ≤ c1) (hE : Kd.C k38 w A2 es.length es) (hz : zs.length ≤ 1000) (he : es.length ≤ 100000) (hks : laws_sorted.f ks zs = some (srt zs)) (hok : es.all (fun e => decide (e.f0 ∈ zs) && decide (e.f1 ∈ zs)) = true) :
    Calls Tryz.prog 13 #[.agg #[.bool d, .slice A1 zs.length c1, .slice A2 es.length c2]] w fun e w' => ∃ vn va vw, e = .returned (.agg #[vn, va, vw]) ∧ Kd.R (Kd.int .i64) 3 w' w.heap.size (fun _ => True) vn (srt zs) ∧ (∃ ra, Tb w' w.heap.size 35 4 (tabA d (srt zs) (srt zs).length es) ra va) ∧ (∃ rw, Tb w' w.heap.size 22 3 (tabW d (srt zs) (srt zs).length es) rw vw ∧ ∀ i (h : i < rw.length), ApartS vn rw[i]) ∧ Below w.heap.size w w' := by
  have hb1 : Below w.heap.size w ((w.alloc (.cells #[.bool d, .slice A1 zs.length c1, .slice A2 es.length c2] 25)).alloc (.cells nilT 33)) := ((Below.refl _ _).alloc (Nat.le_refl _) _).alloc (by simp) _
  have HN := Aside0.mk (Kd.C_below hN hb1)
  have HE := Aside0.mk hE
  have HK := Aside0.mk (And.intro hc1 hks)
  have HOK := Aside0.mk hok
  unfold nilT at hb1 HN
  clear hN hE hks hb1 hok
  go_enter Tryz.func13, Tryz.ntmps13
  go_wp2_with (go_at_call 53; refine (laws_sorted.calls ks A1 c1 zs (srt zs) _ HN.out HK.out.1 HK.out.2).mono ?_; rintro e w1 ⟨vn, rfl, hR, hbel⟩; have HR := Aside0.mk (And.intro hR hbel); obtain ⟨An, cn, rfl⟩ := Kd.R_slice hR; clear hR hbel)
  have HT0 := Aside0.mk (Ts.start d _ _ HR.out.1 HR.out.2)
  obtain ⟨n, hn⟩ : ∃ n, n = (srt zs).length := ⟨_, rfl⟩
  have hn1 : n ≤ 1000 := by rw [hn, srt_length]; exact hz
  have hln := hn
  rw [← hn]
  have HNN := Aside0.mk hln
  generalize hids : srt zs = ids at HT0 HNN
  have HID := Aside0.mk hids
  obtain ⟨tb, htb⟩ : ∃ tb, tb = w1.heap.size := ⟨_, rfl⟩
  rw [← htb] at HT0 ⊢
  have htb2 : w.heap.size + 1 < tb := HT0.out.hb
  clear hids hln hn HK HR HN htb
  obtain ⟨i5, hi, hz0, hz1, hz2⟩ := info_parts Tryz.info35
  have HI5 := Aside0.mk (And.intro hi (And.intro hz0 (And.intro hz1 hz2)))
  obtain ⟨i6, hi', hz0', hz1', hz2'⟩ := info_parts Tryz.info22
  have HI6 := Aside0.mk (And.intro hi' (And.intro hz0' (And.intro hz1' hz2')))
  clear hi hz0 hz1 hz2 hi' hz0' hz1' hz2'
  obtain ⟨NA, hNA⟩ : ∃ NA, NA = (List.replicate n (Value.bool false)).toArray := ⟨_, rfl⟩
  obtain ⟨NW, hNW⟩ : ∃ NW, NW = (List.replicate n (Value.int .i64 0)).toArray := ⟨_, rfl⟩
  have hmkA : ∀ W : World, (Instr.makeSlice 35 (.int .i64 (n : Int)) (.int .i64 (n : Int))).run Tryz.prog W = .ok (.slice (some ⟨W.heap.size, 0, none⟩) n n) (W.alloc (.cells NA 4)) := fun W => by
    rw [hNA, ← madeArr]; exact run_make_row' 35 4 _ 1 Tryz.underlying35 Tryz.info4 rfl .i64 .i64 n (by omega) (by omega) W
  have hmkW : ∀ W : World, (Instr.makeSlice 22 (.int .i64 (n : Int)) (.int .i64 (n : Int))).run Tryz.prog W = .ok (.slice (some ⟨W.heap.size, 0, none⟩) n n) (W.alloc (.cells NW 3)) := fun W => by
    rw [hNW, ← madeArr]; exact run_make_row' 22 3 _ 8 Tryz.underlying22 Tryz.info3 rfl .i64 .i64 n (by omega) (by omega) W
  have HNA := Aside0.mk hNA
  have HNW := Aside0.mk hNW
  clear hNA hNW
  go_loopw [5] (fun t5 wr => ∃ k : Nat, k ≤ n ∧ t5 = .int .i64 k ∧ Aside0 (∃ ra rw va vw, Ts w wr tb #[.bool d, .slice A1 zs.length c1, .slice A2 es.length c2] (.slice An n cn) ids (zA n k) (zW n k) ra rw va vw)) (fun t5 _ => n - (intOf t5).toNat)
  case atStart => exact ⟨0, Nat.zero_le _, rfl, ⟨_, _, _, _, by have h := HT0.out; rw [← HNN.out] at h; exact h⟩⟩
  case round =>
    clear HT0
    obtain ⟨k, hk, rfl, HR⟩ := hrel
    by_cases hlt : k < n
    · obtain ⟨ra, rw, va, vw, hT⟩ := HR.out
      obtain ⟨VA, CA, rfl⟩ := own_slice hT.A.o
      obtain ⟨VW, CW, rfl⟩ := own_slice hT.W.o
      have hla : ra.length ≤ 1000 := by rw [hT.A.l]; simp [zA]; omega
      have hlw : rw.length ≤ 1000 := by rw [hT.W.l]; simp [zW]; omega
      have HT := Aside0.mk hT
      clear hT HR
      generalize hTA : zA n k = TA at HT
      generalize hTW : zW n k = TW at HT
      have HTA := Aside0.mk (show zA n (k + 1) = TA ++ [List.replicate n (.bool false)] by rw [← hTA]; exact List.replicate_succ')
      have HTW := Aside0.mk (show zW n (k + 1) = TW ++ [List.replicate n (.int .i64 0)] by rw [← hTW]; exact List.replicate_succ')
      clear hTA hTW
      go_upto_region 6 with fail
      go_cut [] from 16 to 34 (fun w' => Aside0 (∃ ra' va', Ts w w' tb #[.bool d, .slice A1 zs.length c1, .slice A2 es.length c2] (.slice An n cn) ids (TA ++ [List.replicate n (.bool false)]) TW ra' rw va' (.slice VW rw.length CW)))
      case first =>
          have g0 := TsC.of (HT.out.below (w1 := wr.drew) ⟨rfl, rfl, rfl, Nat.le_refl _, fun _ _ => rfl⟩)
          have g1 := TsC.of (HT.out.below (w1 := (wr.alloc (.cells NA 4)).drew) ((Below.refl _ _).alloc (Nat.le_refl _) _).drew)
          have g2 := TsC.of (HT.out.below (w1 := ((wr.alloc (.cells NA 4)).alloc (.cells #[.slice (some ⟨wr.heap.size, 0, none⟩) n n] 35)).drew) (((Below.refl _ _).alloc (Nat.le_refl _) _).alloc (by simp) _).drew)
          have hr2 : ((wr.alloc (.cells NA 4)).alloc (.cells #[.slice (some ⟨wr.heap.size, 0, none⟩) n n] 35)).drew.ownsRow w.heap.size 4 1 (.slice (some ⟨wr.heap.size, 0, none⟩) n n) (List.replicate n (Value.bool false)).length (List.replicate n (.bool false)) := by
            refine pw_own_below ?_ ((Below.refl _ _).alloc (Nat.le_refl _) _).drew
            rw [HNA.out]
            exact made_own wr _ _ _ _ HT.out.bel.size hn1
          obtain ⟨-, -, p1, p2, -, -⟩ := id g0
          have H0 := Aside0.mk g0
          have H1 := Aside0.mk g1
          have H2 := Aside0.mk g2
          have HR2 := Aside0.mk hr2
          clear g0 g1 g2 hr2
          refine start_ (n := 8) (S := fun w' => w'.cell? ⟨tb, 1, none⟩ = some (.slice VA ra.length CA)) (ds := [5, 7]) #[false, false, false, false, false, false, false, false] (by kernel_rfl) rfl rfl p1 (fun hHeld => ?_)
          refine with_tabW tof.tab6 tof.bits6 (fun HT_ HW_ => ?_)
          refine pure_ (i := 0) (N := some 21) (v := ?_) (a' := ?_) #[true, false, false, false, false, false, false, false] rfl rfl (any_of HT_.out (by kernel_rfl)) (fun _ _ _ h => h) (Or.inl ⟨by rfl, ?_⟩) ?_ ?_
          rotate_left
          · intro w'
            go_simp
            with_reducible rfl
          rotate_left
          · simp only [Act.put, List.setIfInBounds_toArray, List.set_cons_zero, List.set_cons_succ, i64_w, i32_w]
            rfl
          refine pure_ (i := 2) (N := some 23) (v := ?_) (a' := ?_) #[true, false, true, false, false, false, false, false] rfl rfl (any_of HT_.out (by kernel_rfl)) (fun _ _ _ h => h) (Or.inl ⟨by rfl, ?_⟩) ?_ ?_
          rotate_left
          · intro w'
            go_simp
            with_reducible rfl
          rotate_left
          · simp only [Act.put, List.setIfInBounds_toArray, List.set_cons_zero, List.set_cons_succ, i64_w, i32_w]
            rfl
          refine take_ (i := 1) (N := some 22) (v := ?_) (a' := ?_) #[true, true, true, false, false, false, false, false] rfl rfl (take_ofW HT_.out HW_.out (by kernel_rfl)) (fun _ _ _ h => h) (Or.inl ⟨by rfl, ?_⟩) hHeld ?_ ?_
          rotate_left
          · intro w' s0
            go_simp
            with_reducible rfl
          rotate_left
          · simp only [Act.put, List.setIfInBounds_toArray, List.set_cons_zero, List.set_cons_succ, i64_w, i32_w]
            rfl
          refine one_ (i := 3) (N := some 24) #[true, true, true, true, false, false, false, false] rfl rfl (one_of HT_.out (by kernel_rfl)) (by decide) (fun K hK => ?_)
          refine value_ (w1 := ?_) (v := ?_) (by rfl) rfl ?_ ?_
          rotate_left 2
          · go_simp
            constructor
            · rfl
            · rfl
          refine hK.out _ _ H1.out.c1 (fun hHeld => ?_)
          clear hK K
          refine norm_ (a' := ?_) ?_ ?_
          rotate_left
          · show Act.put _ (some 24) _ = _
            simp only [Act.put, List.setIfInBounds_toArray, List.set_cons_zero, List.set_cons_succ, i64_w, i32_w]
            rfl
          refine one_ (i := 4) (N := some 25) #[true, true, true, true, true, false, false, false] rfl rfl (one_of HT_.out (by kernel_rfl)) (by decide) (fun K hK => ?_)
          refine value_ (w1 := ?_) (v := ?_) (by rfl) rfl ?_ ?_
          rotate_left 2
          · go_simp
            constructor
            · rfl
            · rfl
          refine hK.out _ _ H2.out.c1 (fun hHeld => ?_)
          clear hK K
          refine norm_ (a' := ?_) ?_ ?_
          rotate_left
          · show Act.put _ (some 25) _ = _
            simp only [Act.put, List.setIfInBounds_toArray, List.set_cons_zero, List.set_cons_succ, i64_w, i32_w]
            rfl
          refine last_ (i := 5) (N := some 26) #[true, true, true, true, true, true, false, false] rfl rfl (one_of HT_.out (by kernel_rfl)) (by decide) (fun K hK => ?_)
          refine step_append_lies _ (by rfl) _ _ _ (by rfl) w.heap.size 35 i5 _ 1 24 Tryz.underlying30 HI5.out.1 HI5.out.2.1 HI5.out.2.2.1 HI5.out.2.2.2 rfl (by omega) (.slice VA ra.length CA) ra.length ra (by rfl) (by exact H2.out.t.A.o) ⟨wr.heap.size + 1, 0, none⟩ 1 1 [.slice (some ⟨wr.heap.size, 0, none⟩) n n] (by rfl) (by rfl) (by exact news1' _ _ _ _ (by simp)) (by simp [Value.oneCell']) (by omega) (by unfold maxLen; omega) (by omega) (by have := H2.out.t.bel.size; simp; simp at this; omega) _ rfl ?_
          intro gg cap w4 hown4 hgr4 hat4 hlt4
          have G4 := Aside0.mk (And.intro hown4 hgr4)
          obtain ⟨hd3, hf3⟩ := far_cell2 H2.out.t.blk H2.out.t.A.o hgr4 1 _ rfl (by decide)
          clear hown4 hgr4 hat4 hlt4
          refine hK.out _ _ ?_
          clear hK K
          refine norm_ (a' := ?_) ?_ ?_
          rotate_left
          · show Act.put _ (some 26) _ = _
            simp only [Act.put, List.setIfInBounds_toArray, List.set_cons_zero, List.set_cons_succ, i64_w, i32_w]
            rfl
          refine pure_ (i := 6) (N := some 27) (v := ?_) (a' := ?_) #[true, true, true, true, true, true, true, false] rfl rfl (any_of HT_.out (by kernel_rfl)) (fun _ _ _ h => h) (Or.inl ⟨by rfl, ?_⟩) ?_ ?_
          rotate_left
          · intro w'
            go_simp
            with_reducible rfl
          rotate_left
          · simp only [Act.put, List.setIfInBounds_toArray, List.set_cons_zero, List.set_cons_succ, i64_w, i32_w]
            rfl
          refine last_ (i := 7) (N := none) #[true, true, true, true, true, true, true, true] rfl rfl (one_of HT_.out (by kernel_rfl)) (by decide) (fun K hK => ?_)
          refine skip_ (w1 := ?_) (by rfl) rfl ?_ ?_
          rotate_left
          · go_simp
            rfl
          refine hK.out _ _ ?_
          clear hK K
          refine done_ (done_of HT_.out (by kernel_rfl)) ?_
          try go_wp2
          go_meet
          case rel => exact ⟨⟨_, _, Ts.pushA H2.out.t (row := List.replicate n (.bool false)) HR2.out (hfresh HT.out.A) G4.out.1 G4.out.2⟩⟩
      case rest =>
          obtain ⟨ra', va', hT⟩ := hcut.out
          have HT := Aside0.mk hT
          clear hT hcut
          go_upto_region 7 with fail
          have g0 := TsC.of (HT.out.below (w1 := wc.drew) ⟨rfl, rfl, rfl, Nat.le_refl _, fun _ _ => rfl⟩)
          have g1 := TsC.of (HT.out.below (w1 := (wc.alloc (.cells NW 3)).drew) ((Below.refl _ _).alloc (Nat.le_refl _) _).drew)
          have g2 := TsC.of (HT.out.below (w1 := ((wc.alloc (.cells NW 3)).alloc (.cells #[.slice (some ⟨wc.heap.size, 0, none⟩) n n] 22)).drew) (((Below.refl _ _).alloc (Nat.le_refl _) _).alloc (by simp) _).drew)
          have hr2 : ((wc.alloc (.cells NW 3)).alloc (.cells #[.slice (some ⟨wc.heap.size, 0, none⟩) n n] 22)).drew.ownsRow w.heap.size 3 1 (.slice (some ⟨wc.heap.size, 0, none⟩) n n) (List.replicate n (Value.int .i64 0)).length (List.replicate n (.int .i64 0)) := by
            refine pw_own_below ?_ ((Below.refl _ _).alloc (Nat.le_refl _) _).drew
            rw [HNW.out]
            exact made_own wc _ _ _ _ HT.out.bel.size hn1
          obtain ⟨-, -, p1, p2, -, -⟩ := id g0
          have H0 := Aside0.mk g0
          have H1 := Aside0.mk g1
          have H2 := Aside0.mk g2
          have HR2 := Aside0.mk hr2
          clear g0 g1 g2 hr2
          refine start_ (n := 8) (S := fun w' => w'.cell? ⟨tb, 2, none⟩ = some (.slice VW rw.length CW)) (ds := [5, 7]) #[false, false, false, false, false, false, false, false] (by kernel_rfl) rfl rfl p2 (fun hHeld => ?_)
          refine with_tabW tof.tab7 tof.bits7 (fun HT_ HW_ => ?_)
          refine pure_ (i := 0) (N := some 28) (v := ?_) (a' := ?_) #[true, false, false, false, false, false, false, false] rfl rfl (any_of HT_.out (by kernel_rfl)) (fun _ _ _ h => h) (Or.inl ⟨by rfl, ?_⟩) ?_ ?_
          rotate_left
          · intro w'
            go_simp
            with_reducible rfl
          rotate_left
          · simp only [Act.put, List.setIfInBounds_toArray, List.set_cons_zero, List.set_cons_succ, i64_w, i32_w]
            rfl
          refine pure_ (i := 2) (N := some 30) (v := ?_) (a' := ?_) #[true, false, true, false, false, false, false, false] rfl rfl (any_of HT_.out (by kernel_rfl)) (fun _ _ _ h => h) (Or.inl ⟨by rfl, ?_⟩) ?_ ?_
          rotate_left
          · intro w'
            go_simp
            with_reducible rfl
          rotate_left
          · simp only [Act.put, List.setIfInBounds_toArray, List.set_cons_zero, List.set_cons_succ, i64_w, i32_w]
            rfl
          refine take_ (i := 1) (N := some 29) (v := ?_) (a' := ?_) #[true, true, true, false, false, false, false, false] rfl rfl (take_ofW HT_.out HW_.out (by kernel_rfl)) (fun _ _ _ h => h) (Or.inl ⟨by rfl, ?_⟩) hHeld ?_ ?_
          rotate_left
          · intro w' s0
            go_simp
            with_reducible rfl
          rotate_left
          · simp only [Act.put, List.setIfInBounds_toArray, List.set_cons_zero, List.set_cons_succ, i64_w, i32_w]
            rfl
          refine one_ (i := 3) (N := some 31) #[true, true, true, true, false, false, false, false] rfl rfl (one_of HT_.out (by kernel_rfl)) (by decide) (fun K hK => ?_)
          refine value_ (w1 := ?_) (v := ?_) (by rfl) rfl ?_ ?_
          rotate_left 2
          · go_simp
            constructor
            · rfl
            · rfl
          refine hK.out _ _ H1.out.c2 (fun hHeld => ?_)
          clear hK K
          refine norm_ (a' := ?_) ?_ ?_
          rotate_left
          · show Act.put _ (some 31) _ = _
            simp only [Act.put, List.setIfInBounds_toArray, List.set_cons_zero, List.set_cons_succ, i64_w, i32_w]
            rfl
          refine one_ (i := 4) (N := some 32) #[true, true, true, true, true, false, false, false] rfl rfl (one_of HT_.out (by kernel_rfl)) (by decide) (fun K hK => ?_)
          refine value_ (w1 := ?_) (v := ?_) (by rfl) rfl ?_ ?_
          rotate_left 2
          · go_simp
            constructor
            · rfl
            · rfl
          refine hK.out _ _ H2.out.c2 (fun hHeld => ?_)
          clear hK K
          refine norm_ (a' := ?_) ?_ ?_
          rotate_left
          · show Act.put _ (some 32) _ = _
            simp only [Act.put, List.setIfInBounds_toArray, List.set_cons_zero, List.set_cons_succ, i64_w, i32_w]
            rfl
          refine last_ (i := 5) (N := some 33) #[true, true, true, true, true, true, false, false] rfl rfl (one_of HT_.out (by kernel_rfl)) (by decide) (fun K hK => ?_)
          refine step_append_lies _ (by rfl) _ _ _ (by rfl) w.heap.size 22 i6 _ 1 24 Tryz.underlying31 HI6.out.1 HI6.out.2.1 HI6.out.2.2.1 HI6.out.2.2.2 rfl (by omega) (.slice VW rw.length CW) rw.length rw (by rfl) (by exact H2.out.t.W.o) ⟨wc.heap.size + 1, 0, none⟩ 1 1 [.slice (some ⟨wc.heap.size, 0, none⟩) n n] (by rfl) (by rfl) (by exact news1' _ _ _ _ (by simp)) (by simp [Value.oneCell']) (by omega) (by unfold maxLen; omega) (by omega) (by have := H2.out.t.bel.size; simp; simp at this; omega) _ rfl ?_
          intro gg cap w4 hown4 hgr4 hat4 hlt4
          have G4 := Aside0.mk (And.intro hown4 hgr4)
          obtain ⟨hd3, hf3⟩ := far_cell2 H2.out.t.blk H2.out.t.W.o hgr4 2 _ rfl (by decide)
          clear hown4 hgr4 hat4 hlt4
          refine hK.out _ _ ?_
          clear hK K
          refine norm_ (a' := ?_) ?_ ?_
          rotate_left
          · show Act.put _ (some 33) _ = _
            simp only [Act.put, List.setIfInBounds_toArray, List.set_cons_zero, List.set_cons_succ, i64_w, i32_w]
            rfl
          refine pure_ (i := 6) (N := some 34) (v := ?_) (a' := ?_) #[true, true, true, true, true, true, true, false] rfl rfl (any_of HT_.out (by kernel_rfl)) (fun _ _ _ h => h) (Or.inl ⟨by rfl, ?_⟩) ?_ ?_
          rotate_left
          · intro w'
            go_simp
            with_reducible rfl
          rotate_left
          · simp only [Act.put, List.setIfInBounds_toArray, List.set_cons_zero, List.set_cons_succ, i64_w, i32_w]
            rfl
          refine last_ (i := 7) (N := none) #[true, true, true, true, true, true, true, true] rfl rfl (one_of HT_.out (by kernel_rfl)) (by decide) (fun K hK => ?_)
          refine skip_ (w1 := ?_) (by rfl) rfl ?_ ?_
          rotate_left
          · go_simp
            rfl
          refine hK.out _ _ ?_
          clear hK K
          refine done_ (done_of HT_.out (by kernel_rfl)) ?_
          go_wp2
          go_roundw
          case rel => exact ⟨k + 1, by omega, by go_num, ⟨_, _, _, _, by rw [HTA.out, HTW.out]; exact Ts.pushW H2.out.t (row := List.replicate n (.int .i64 0)) HR2.out (hfresh HT.out.W) (hfresh1 HT.out.n) G4.out.1 G4.out.2⟩⟩
          case measure => simp [intOf]; omega
    · have hk' : k = n := by omega
      subst hk'
      have HR2 := Aside0.mk (show ∃ ra rw va vw, Ts w wr tb #[.bool d, .slice A1 zs.length c1, .slice A2 es.length c2] (.slice An k cn) ids (tabA d ids k (es.take 0)) (tabW d ids k (es.take 0)) ra rw va vw from HR.out)
      obtain ⟨ra0, rw0, va0, vw0, hT0⟩ := HR.out
      have hg2 := (TsC.of hT0).g2
      clear hT0 HR hmkA hmkW HNA HNW
      go_wp2_with fail
      go_loopw [6] (fun t6 wr => ∃ i : Nat, i ≤ es.length ∧ t6 = .int .i64 i ∧ Aside0 (∃ ra rw va vw, Ts w wr tb #[.bool d, .slice A1 zs.length c1, .slice A2 es.length c2] (.slice An k cn) ids (tabA d ids k (es.take i)) (tabW d ids k (es.take i)) ra rw va vw)) (fun t6 _ => es.length - (intOf t6).toNat)
      case atStart => exact ⟨0, Nat.zero_le _, rfl, HR2⟩
      case round =>
        clear HR2 hg2
        obtain ⟨i, hi, rfl, HR⟩ := hrel
        obtain ⟨ra, rw, va, vw, hT⟩ := HR.out
        have hg2 := (TsC.of hT).g2
        by_cases hlt : i < es.length
        · have hEw := Kd.C_below HE.out (show Below w.heap.size w wr from hT.bel)
          obtain ⟨ad, hA2, e0, e1, e2⟩ := at_T38 hEw (i : Int) (by omega) (by omega)
          rw [Int.toNat_natCast] at e0 e1 e2
          have hge : rd_T38 es (i : Int) = es[i] := by unfold rd_T38; rw [Int.toNat_natCast, List.getD_eq_getElem?_getD, List.getElem?_eq_getElem hlt]; rfl
          rw [hge] at e0 e1 e2
          subst hA2
          have hm := List.all_eq_true.1 HOK.out es[i] (List.getElem_mem hlt)
          rw [Bool.and_eq_true, decide_eq_true_eq, decide_eq_true_eq] at hm
          have hm0 : es[i].f0 ∈ ids := by rw [← HID.out]; exact (mem_srt _ _).2 hm.1
          have hm1 : es[i].f1 ∈ ids := by rw [← HID.out]; exact (mem_srt _ _).2 hm.2
          have hts : es.take (i + 1) = es.take i ++ [es[i]] := List.take_succ_eq_append_getElem hlt
          have HTA := Aside0.mk (show tabA d ids k (es.take (i + 1)) = stepA d ids (tabA d ids k (es.take i)) es[i] by rw [hts]; unfold tabA; rw [List.foldl_append]; rfl)
          have HTW := Aside0.mk (show tabW d ids k (es.take (i + 1)) = stepW d ids (tabW d ids k (es.take i)) es[i] by rw [hts]; unfold tabW; rw [List.foldl_append]; rfl)
          have HSQ := Aside0.mk (Sq.tabs d ids k (es.take i))
          have HE2 := Aside0.mk (show ∀ wx : World, Below w.heap.size w wx → wx.cell? ⟨(ad.add (i * 3)).block, (ad.add (i * 3)).off + 2, none⟩ = some (.int .i64 es[i].f2) by
            intro wx hx
            obtain ⟨ad', hA2, _, _, e2'⟩ := at_T38 (Kd.C_below HE.out hx) (i : Int) (by omega) (by omega)
            injection hA2 with hA2
            subst hA2
            rw [Int.toNat_natCast] at e2'
            rw [← hge]; exact e2')
          clear hts hge hm hEw
          generalize es[i] = e at *
          generalize tabA d ids k (es.take i) = TA at hT HTA HSQ
          generalize tabW d ids k (es.take i) = TW at hT HTW HSQ
          have hu : ids.idxOf e.f0 < k := by rw [HNN.out]; exact List.idxOf_lt_length_of_mem hm0
          have hv : ids.idxOf e.f1 < k := by rw [HNN.out]; exact List.idxOf_lt_length_of_mem hm1
          have HM := Aside0.mk (And.intro hm0 hm1)
          clear hm0 hm1 HR
          have t0 := (TsC.of hT).c0
          have HT := Aside0.mk hT
          clear hT
          unfold stepA at HTA
          unfold stepW at HTW
          obtain ⟨u, hu'⟩ : ∃ u, u = ids.idxOf e.f0 := ⟨_, rfl⟩
          obtain ⟨v, hv'⟩ : ∃ v, v = ids.idxOf e.f1 := ⟨_, rfl⟩
          rw [← hu', ← hv'] at HTA HTW
          rw [← hu'] at hu
          rw [← hv'] at hv
          have HU := Aside0.mk hu'
          have HV := Aside0.mk hv'
          clear hu' hv'
          go_upto_region 11 with fail
          go_cut [7, 8] from 35 to 102 (fun s7 s8 w' => s7 = .int .i64 (u : Nat) ∧ s8 = .int .i64 (v : Nat) ∧ Aside0 (Ts w w' tb #[.bool d, .slice A1 zs.length c1, .slice (some ad) es.length c2] (.slice An k cn) ids TA TW ra rw va vw))
          case first =>
              refine start_ (n := 20) (S := fun w' => w'.cell? ⟨tb, 0, none⟩ = some (.slice An k cn) ∧ w'.cell? ⟨w.heap.size, 2, none⟩ = some (.slice (some ad) es.length c2) ∧ w'.cell? (ad.add (i * 3)) = some (.int .i64 e.f0) ∧ w'.cell? ⟨(ad.add (i * 3)).block, (ad.add (i * 3)).off + 1, none⟩ = some (.int .i64 e.f1)) (ds := []) #[false, false, false, false, false, false, false, false, false, false, false, false, false, false, false, false, false, false, false, false] (by kernel_rfl) rfl rfl ⟨t0, hg2, e0, e1⟩ (fun hHeld => ?_)
              refine with_tabW tof.tab11 tof.bits11 (fun HT_ HW_ => ?_)
              refine pure_ (i := 0) (N := some 42) (v := ?_) (a' := ?_) #[true, false, false, false, false, false, false, false, false, false, false, false, false, false, false, false, false, false, false, false] rfl rfl (any_of HT_.out (by kernel_rfl)) (fun _ _ _ h => h) (Or.inl ⟨by rfl, ?_⟩) ?_ ?_
              rotate_left
              · intro w'
                go_simp
                with_reducible rfl
              rotate_left
              · simp only [Act.put, List.setIfInBounds_toArray, List.set_cons_zero, List.set_cons_succ, i64_w, i32_w]
                rfl
              refine pure_ (i := 2) (N := some 44) (v := ?_) (a' := ?_) #[true, false, true, false, false, false, false, false, false, false, false, false, false, false, false, false, false, false, false, false] rfl rfl (any_of HT_.out (by kernel_rfl)) (fun _ _ _ h => h) (Or.inl ⟨by rfl, ?_⟩) ?_ ?_
              rotate_left
              · intro w'
                go_simp
                with_reducible rfl
              rotate_left
              · simp only [Act.put, List.setIfInBounds_toArray, List.set_cons_zero, List.set_cons_succ, i64_w, i32_w]
                rfl
              refine pure_ (i := 4) (N := some 46) (v := ?_) (a' := ?_) #[true, false, true, false, true, false, false, false, false, false, false, false, false, false, false, false, false, false, false, false] rfl rfl (any_of HT_.out (by kernel_rfl)) (fun _ _ _ h => h) (Or.inl ⟨by rfl, ?_⟩) ?_ ?_
              rotate_left
              · intro w'
                go_simp
                with_reducible rfl
              rotate_left
              · simp only [Act.put, List.setIfInBounds_toArray, List.set_cons_zero, List.set_cons_succ, i64_w, i32_w]
                rfl
              refine pure_ (i := 9) (N := some 51) (v := ?_) (a' := ?_) #[true, false, true, false, true, false, false, false, false, true, false, false, false, false, false, false, false, false, false, false] rfl rfl (any_of HT_.out (by kernel_rfl)) (fun _ _ _ h => h) (Or.inl ⟨by rfl, ?_⟩) ?_ ?_
              rotate_left
              · intro w'
                go_simp
                with_reducible rfl
              rotate_left
              · simp only [Act.put, List.setIfInBounds_toArray, List.set_cons_zero, List.set_cons_succ, i64_w, i32_w]
                rfl
              refine pure_ (i := 11) (N := some 53) (v := ?_) (a' := ?_) #[true, false, true, false, true, false, false, false, false, true, false, true, false, false, false, false, false, false, false, false] rfl rfl (any_of HT_.out (by kernel_rfl)) (fun _ _ _ h => h) (Or.inl ⟨by rfl, ?_⟩) ?_ ?_
              rotate_left
              · intro w'
                go_simp
                with_reducible rfl
              rotate_left
              · simp only [Act.put, List.setIfInBounds_toArray, List.set_cons_zero, List.set_cons_succ, i64_w, i32_w]
                rfl
              refine pure_ (i := 13) (N := some 55) (v := ?_) (a' := ?_) #[true, false, true, false, true, false, false, false, false, true, false, true, false, true, false, false, false, false, false, false] rfl rfl (any_of HT_.out (by kernel_rfl)) (fun _ _ _ h => h) (Or.inl ⟨by rfl, ?_⟩) ?_ ?_
              rotate_left
              · intro w'
                go_simp
                with_reducible rfl
              rotate_left
              · simp only [Act.put, List.setIfInBounds_toArray, List.set_cons_zero, List.set_cons_succ, i64_w, i32_w]
                rfl
              refine take_ (i := 1) (N := some 43) (v := ?_) (a' := ?_) #[true, true, true, false, true, false, false, false, false, true, false, true, false, true, false, false, false, false, false, false] rfl rfl (take_ofW HT_.out HW_.out (by kernel_rfl)) (fun _ _ _ h => h) (Or.inl ⟨by rfl, ?_⟩) hHeld ?_ ?_
              rotate_left
              · rintro w' ⟨s0, s1, s2, s3⟩
                go_simp
                with_reducible rfl
              rotate_left
              · simp only [Act.put, List.setIfInBounds_toArray, List.set_cons_zero, List.set_cons_succ, i64_w, i32_w]
                rfl
              refine take_ (i := 3) (N := some 45) (v := ?_) (a' := ?_) #[true, true, true, true, true, false, false, false, false, true, false, true, false, true, false, false, false, false, false, false] rfl rfl (take_ofW HT_.out HW_.out (by kernel_rfl)) (fun _ _ _ h => h) (Or.inl ⟨by rfl, ?_⟩) hHeld ?_ ?_
              rotate_left
              · rintro w' ⟨s0, s1, s2, s3⟩
                go_simp
                with_reducible rfl
              rotate_left
              · simp only [Act.put, List.setIfInBounds_toArray, List.set_cons_zero, List.set_cons_succ, i64_w, i32_w]
                rfl
              refine pure_ (i := 5) (N := some 47) (v := ?_) (a' := ?_) #[true, true, true, true, true, true, false, false, false, true, false, true, false, true, false, false, false, false, false, false] rfl rfl (any_of HT_.out (by kernel_rfl)) (fun _ _ _ h => h) (Or.inl ⟨by rfl, ?_⟩) ?_ ?_
              rotate_left
              · intro w'
                go_simp
                with_reducible rfl
              rotate_left
              · simp only [Act.put, List.setIfInBounds_toArray, List.set_cons_zero, List.set_cons_succ, i64_w, i32_w]
                rfl
              refine pure_ (i := 6) (N := some 48) (v := ?_) (a' := ?_) #[true, true, true, true, true, true, true, false, false, true, false, true, false, true, false, false, false, false, false, false] rfl rfl (any_of HT_.out (by kernel_rfl)) (fun _ _ _ h => h) (Or.inl ⟨by rfl, ?_⟩) ?_ ?_
              rotate_left
              · intro w'
                go_simp
                with_reducible rfl
              rotate_left
              · simp only [Act.put, List.setIfInBounds_toArray, List.set_cons_zero, List.set_cons_succ, i64_w, i32_w]
                rfl
              refine take_ (i := 7) (N := some 49) (v := ?_) (a' := ?_) #[true, true, true, true, true, true, true, true, false, true, false, true, false, true, false, false, false, false, false, false] rfl rfl (take_ofW HT_.out HW_.out (by kernel_rfl)) (fun _ _ _ h => h) (Or.inl ⟨by rfl, ?_⟩) hHeld ?_ ?_
              rotate_left
              · rintro w' ⟨s0, s1, s2, s3⟩
                go_simp
                with_reducible rfl
              rotate_left
              · simp only [Act.put, List.setIfInBounds_toArray, List.set_cons_zero, List.set_cons_succ, i64_w, i32_w]
                rfl
              refine take_ (i := 10) (N := some 52) (v := ?_) (a' := ?_) #[true, true, true, true, true, true, true, true, false, true, true, true, false, true, false, false, false, false, false, false] rfl rfl (take_ofW HT_.out HW_.out (by kernel_rfl)) (fun _ _ _ h => h) (Or.inl ⟨by rfl, ?_⟩) hHeld ?_ ?_
              rotate_left
              · rintro w' ⟨s0, s1, s2, s3⟩
                go_simp
                with_reducible rfl
              rotate_left
              · simp only [Act.put, List.setIfInBounds_toArray, List.set_cons_zero, List.set_cons_succ, i64_w, i32_w]
                rfl
              refine take_ (i := 12) (N := some 54) (v := ?_) (a' := ?_) #[true, true, true, true, true, true, true, true, false, true, true, true, true, true, false, false, false, false, false, false] rfl rfl (take_ofW HT_.out HW_.out (by kernel_rfl)) (fun _ _ _ h => h) (Or.inl ⟨by rfl, ?_⟩) hHeld ?_ ?_
              rotate_left
              · rintro w' ⟨s0, s1, s2, s3⟩
                go_simp
                with_reducible rfl
              rotate_left
              · simp only [Act.put, List.setIfInBounds_toArray, List.set_cons_zero, List.set_cons_succ, i64_w, i32_w]
                rfl
              refine pure_ (i := 14) (N := some 56) (v := ?_) (a' := ?_) #[true, true, true, true, true, true, true, true, false, true, true, true, true, true, true, false, false, false, false, false] rfl rfl (any_of HT_.out (by kernel_rfl)) (fun _ _ _ h => h) (Or.inl ⟨by rfl, ?_⟩) ?_ ?_
              rotate_left
              · intro w'
                go_simp
                with_reducible rfl
              rotate_left
              · simp only [Act.put, List.setIfInBounds_toArray, List.set_cons_zero, List.set_cons_succ, i64_w, i32_w]
                rfl
              refine pure_ (i := 15) (N := some 57) (v := ?_) (a' := ?_) #[true, true, true, true, true, true, true, true, false, true, true, true, true, true, true, true, false, false, false, false] rfl rfl (any_of HT_.out (by kernel_rfl)) (fun _ _ _ h => h) (Or.inl ⟨by rfl, ?_⟩) ?_ ?_
              rotate_left
              · intro w'
                go_simp
                with_reducible rfl
              rotate_left
              · simp only [Act.put, List.setIfInBounds_toArray, List.set_cons_zero, List.set_cons_succ, i64_w, i32_w]
                rfl
              refine take_ (i := 16) (N := some 58) (v := ?_) (a' := ?_) #[true, true, true, true, true, true, true, true, false, true, true, true, true, true, true, true, true, false, false, false] rfl rfl (take_ofW HT_.out HW_.out (by kernel_rfl)) (fun _ _ _ h => h) (Or.inl ⟨by rfl, ?_⟩) hHeld ?_ ?_
              rotate_left
              · rintro w' ⟨s0, s1, s2, s3⟩
                go_simp
                with_reducible rfl
              rotate_left
              · simp only [Act.put, List.setIfInBounds_toArray, List.set_cons_zero, List.set_cons_succ, i64_w, i32_w]
                rfl
              refine one_ (i := 8) (N := some 50) #[true, true, true, true, true, true, true, true, true, true, true, true, true, true, true, true, true, false, false, false] rfl rfl (one_of HT_.out (by kernel_rfl)) (by decide) (fun K hK => ?_)
              refine call_ 54 #[.slice An k cn, .int .i64 e.f0] (by rfl) rfl ?_ ((index_Ts' (HT.out.below (w1 := wr.drew) ⟨rfl, rfl, rfl, Nat.le_refl _, fun _ _ => rfl⟩) HNN.out hn1 HM.out.1 HU.out).mono ?_)
              · go_simp
              rintro e w2 ⟨rfl, ⟨nd1, rfl⟩⟩
              refine ⟨_, rfl, ?_⟩
              refine hK.out _ _ hHeld (fun hHeld => ?_)
              clear hK K
              refine norm_ (a' := ?_) ?_ ?_
              rotate_left
              · show Act.put _ (some 50) _ = _
                simp only [Act.put, List.setIfInBounds_toArray, List.set_cons_zero, List.set_cons_succ, i64_w, i32_w]
                rfl
              refine one_ (i := 17) (N := some 59) #[true, true, true, true, true, true, true, true, true, true, true, true, true, true, true, true, true, true, false, false] rfl rfl (one_of HT_.out (by kernel_rfl)) (by decide) (fun K hK => ?_)
              refine call_ 54 #[.slice An k cn, .int .i64 e.f1] (by rfl) rfl ?_ ((index_Ts' (HT.out.below (w1 := wr.drew.drewN nd1) ⟨rfl, rfl, rfl, Nat.le_refl _, fun _ _ => rfl⟩) HNN.out hn1 HM.out.2 HV.out).mono ?_)
              · go_simp
              rintro e w3 ⟨rfl, ⟨nd2, rfl⟩⟩
              refine ⟨_, rfl, ?_⟩
              refine hK.out _ _ hHeld (fun hHeld => ?_)
              clear hK K
              refine norm_ (a' := ?_) ?_ ?_
              rotate_left
              · show Act.put _ (some 59) _ = _
                simp only [Act.put, List.setIfInBounds_toArray, List.set_cons_zero, List.set_cons_succ, i64_w, i32_w]
                rfl
              refine pure_ (i := 18) (N := some 7) (v := ?_) (a' := ?_) #[true, true, true, true, true, true, true, true, true, true, true, true, true, true, true, true, true, true, true, false] rfl rfl (any_of HT_.out (by kernel_rfl)) (fun _ _ _ h => h) (Or.inl ⟨by rfl, ?_⟩) ?_ ?_
              rotate_left
              · intro w'
                go_simp
                with_reducible rfl
              rotate_left
              · simp only [Act.put, List.setIfInBounds_toArray, List.set_cons_zero, List.set_cons_succ, i64_w, i32_w]
                rfl
              refine pure_ (i := 19) (N := some 8) (v := ?_) (a' := ?_) #[true, true, true, true, true, true, true, true, true, true, true, true, true, true, true, true, true, true, true, true] rfl rfl (any_of HT_.out (by kernel_rfl)) (fun _ _ _ h => h) (Or.inl ⟨by rfl, ?_⟩) ?_ ?_
              rotate_left
              · intro w'
                go_simp
                with_reducible rfl
              rotate_left
              · simp only [Act.put, List.setIfInBounds_toArray, List.set_cons_zero, List.set_cons_succ, i64_w, i32_w]
                rfl
              refine done_ (done_of HT_.out (by kernel_rfl)) ?_
              try go_wp2
              go_meet
              case rel => exact ⟨rfl, rfl, ⟨HT.out.below ⟨rfl, rfl, rfl, Nat.le_refl _, fun _ _ => rfl⟩⟩⟩
          case rest =>
              obtain ⟨rfl, rfl, HT1⟩ := hcut
              clear HT t0 hg2 e0 e1 e2
              have e2 := HE2.out _ HT1.out.bel
              obtain ⟨ga, CA, gw, CW, gu, cu, gx, cx, hr1, hr2, ha0, hw0, hru, hrx, fa, fw, hne, ⟨x1, y1⟩, y2, ⟨x2, z1⟩, z2, zz⟩ := HT1.out.rows HSQ.out.1 HSQ.out.2 u v hu hv
              subst ha0 hw0
              obtain ⟨⟨x3, z3⟩, z4⟩ := zz (.bool true)
              have z3' : (wc.drew.setCell ⟨gu, v, none⟩ (.bool true)).cell? ⟨gx, v, none⟩ = some x3 := z3
              have z4' : (wc.drew.setCell ⟨gu, v, none⟩ (.bool true)).frozen? ⟨gx, v, none⟩ = false := z4
              obtain ⟨-, -, t1, t2, -, hg2⟩ := TsC.of HT1.out
              have H12 := Aside0.mk (((HT1.out.below (w1 := wc.drew) ⟨rfl, rfl, rfl, Nat.le_refl _, fun _ _ => rfl⟩).setA u hr1 hru v (.bool true)).setW u hr2 hrx v (.int .i64 e.f2))
              have hur : (u : Int) < (ra.length : Int) := by omega
              have hur2 : (u : Int) < (rw.length : Int) := by omega
              have hvk : (v : Int) < (k : Int) := by omega
              have hne' := Ne.symm hne
              clear HT1 zz hru hrx
              go_upto_region 12 with fail
              go_cut [] from 35 to 102 (fun w' => Aside0 (∃ ra rw va vw, Ts w w' tb #[.bool d, .slice A1 zs.length c1, .slice (some ad) es.length c2] (.slice An k cn) ids (putT TA u v (.bool true)) (putT TW u v (.int .i64 e.f2)) ra rw va vw))
              case first =>
                refine start_ (n := 22) (S := fun w' => w'.cell? ⟨tb, 1, none⟩ = some (.slice (some ⟨ga, 0, none⟩) ra.length CA) ∧ w'.cell? ⟨tb, 2, none⟩ = some (.slice (some ⟨gw, 0, none⟩) rw.length CW) ∧ w'.cell? ⟨ga, u, none⟩ = some (.slice (some ⟨gu, 0, none⟩) k cu) ∧ w'.cell? ⟨gw, u, none⟩ = some (.slice (some ⟨gx, 0, none⟩) k cx) ∧ w'.cell? ⟨w.heap.size, 2, none⟩ = some (.slice (some ad) es.length c2) ∧ w'.cell? ⟨(ad.add (i * 3)).block, (ad.add (i * 3)).off + 2, none⟩ = some (.int .i64 e.f2)) (ds := [19, 21]) #[false, false, false, false, false, false, false, false, false, false, false, false, false, false, false, false, false, false, false, false, false, false] (by kernel_rfl) rfl rfl ⟨t1, t2, fa, fw, hg2, e2⟩ (fun hHeld => ?_)
                refine with_tabW tof.tab12 tof.bits12 (fun HT_ HW_ => ?_)
                refine pure_ (i := 0) (N := some 60) (v := ?_) (a' := ?_) #[true, false, false, false, false, false, false, false, false, false, false, false, false, false, false, false, false, false, false, false, false, false] rfl rfl (any_of HT_.out (by kernel_rfl)) (fun _ _ _ h => h) (Or.inl ⟨by rfl, ?_⟩) ?_ ?_
                rotate_left
                · intro w'
                  go_simp
                  with_reducible rfl
                rotate_left
                · simp only [Act.put, List.setIfInBounds_toArray, List.set_cons_zero, List.set_cons_succ, i64_w, i32_w]
                  rfl
                refine pure_ (i := 2) (N := some 62) (v := ?_) (a' := ?_) #[true, false, true, false, false, false, false, false, false, false, false, false, false, false, false, false, false, false, false, false, false, false] rfl rfl (any_of HT_.out (by kernel_rfl)) (fun _ _ _ h => h) (Or.inl ⟨by rfl, ?_⟩) ?_ ?_
                rotate_left
                · intro w'
                  go_simp
                  with_reducible rfl
                rotate_left
                · simp only [Act.put, List.setIfInBounds_toArray, List.set_cons_zero, List.set_cons_succ, i64_w, i32_w]
                  rfl
                refine pure_ (i := 5) (N := some 65) (v := ?_) (a' := ?_) #[true, false, true, false, false, true, false, false, false, false, false, false, false, false, false, false, false, false, false, false, false, false] rfl rfl (any_of HT_.out (by kernel_rfl)) (fun _ _ _ h => h) (Or.inl ⟨by rfl, ?_⟩) ?_ ?_
                rotate_left
                · intro w'
                  go_simp
                  with_reducible rfl
                rotate_left
                · simp only [Act.put, List.setIfInBounds_toArray, List.set_cons_zero, List.set_cons_succ, i64_w, i32_w]
                  rfl
                refine pure_ (i := 6) (N := some 66) (v := ?_) (a' := ?_) #[true, false, true, false, false, true, true, false, false, false, false, false, false, false, false, false, false, false, false, false, false, false] rfl rfl (any_of HT_.out (by kernel_rfl)) (fun _ _ _ h => h) (Or.inl ⟨by rfl, ?_⟩) ?_ ?_
                rotate_left
                · intro w'
                  go_simp
                  with_reducible rfl
                rotate_left
                · simp only [Act.put, List.setIfInBounds_toArray, List.set_cons_zero, List.set_cons_succ, i64_w, i32_w]
                  rfl
                refine pure_ (i := 8) (N := some 68) (v := ?_) (a' := ?_) #[true, false, true, false, false, true, true, false, true, false, false, false, false, false, false, false, false, false, false, false, false, false] rfl rfl (any_of HT_.out (by kernel_rfl)) (fun _ _ _ h => h) (Or.inl ⟨by rfl, ?_⟩) ?_ ?_
                rotate_left
                · intro w'
                  go_simp
                  with_reducible rfl
                rotate_left
                · simp only [Act.put, List.setIfInBounds_toArray, List.set_cons_zero, List.set_cons_succ, i64_w, i32_w]
                  rfl
                refine pure_ (i := 11) (N := some 71) (v := ?_) (a' := ?_) #[true, false, true, false, false, true, true, false, true, false, false, true, false, false, false, false, false, false, false, false, false, false] rfl rfl (any_of HT_.out (by kernel_rfl)) (fun _ _ _ h => h) (Or.inl ⟨by rfl, ?_⟩) ?_ ?_
                rotate_left
                · intro w'
                  go_simp
                  with_reducible rfl
                rotate_left
                · simp only [Act.put, List.setIfInBounds_toArray, List.set_cons_zero, List.set_cons_succ, i64_w, i32_w]
                  rfl
                refine pure_ (i := 12) (N := some 72) (v := ?_) (a' := ?_) #[true, false, true, false, false, true, true, false, true, false, false, true, true, false, false, false, false, false, false, false, false, false] rfl rfl (any_of HT_.out (by kernel_rfl)) (fun _ _ _ h => h) (Or.inl ⟨by rfl, ?_⟩) ?_ ?_
                rotate_left
                · intro w'
                  go_simp
                  with_reducible rfl
                rotate_left
                · simp only [Act.put, List.setIfInBounds_toArray, List.set_cons_zero, List.set_cons_succ, i64_w, i32_w]
                  rfl
                refine pure_ (i := 14) (N := some 74) (v := ?_) (a' := ?_) #[true, false, true, false, false, true, true, false, true, false, false, true, true, false, true, false, false, false, false, false, false, false] rfl rfl (any_of HT_.out (by kernel_rfl)) (fun _ _ _ h => h) (Or.inl ⟨by rfl, ?_⟩) ?_ ?_
                rotate_left
                · intro w'
                  go_simp
                  with_reducible rfl
                rotate_left
                · simp only [Act.put, List.setIfInBounds_toArray, List.set_cons_zero, List.set_cons_succ, i64_w, i32_w]
                  rfl
                refine take_ (i := 1) (N := some 61) (v := ?_) (a' := ?_) #[true, true, true, false, false, true, true, false, true, false, false, true, true, false, true, false, false, false, false, false, false, false] rfl rfl (take_ofW HT_.out HW_.out (by kernel_rfl)) (fun _ _ _ h => h) (Or.inl ⟨by rfl, ?_⟩) hHeld ?_ ?_
                rotate_left
                · rintro w' ⟨s0, s1, s2, s3, s4, s5⟩
                  go_simp
                  with_reducible rfl
                rotate_left
                · simp only [Act.put, List.setIfInBounds_toArray, List.set_cons_zero, List.set_cons_succ, i64_w, i32_w]
                  rfl
                refine pure_ (i := 3) (N := some 63) (v := ?_) (a' := ?_) #[true, true, true, true, false, true, true, false, true, false, false, true, true, false, true, false, false, false, false, false, false, false] rfl rfl (any_of HT_.out (by kernel_rfl)) (fun _ _ _ h => h) (Or.inl ⟨by rfl, ?_⟩) ?_ ?_
                rotate_left
                · intro w'
                  go_simp
                  with_reducible rfl
                rotate_left
                · simp only [Act.put, List.setIfInBounds_toArray, List.set_cons_zero, List.set_cons_succ, i64_w, i32_w]
                  rfl
                refine take_ (i := 4) (N := some 64) (v := ?_) (a' := ?_) #[true, true, true, true, true, true, true, false, true, false, false, true, true, false, true, false, false, false, false, false, false, false] rfl rfl (take_ofW HT_.out HW_.out (by kernel_rfl)) (fun _ _ _ h => h) (Or.inl ⟨by rfl, ?_⟩) hHeld ?_ ?_
                rotate_left
                · rintro w' ⟨s0, s1, s2, s3, s4, s5⟩
                  go_simp
                  with_reducible rfl
                rotate_left
                · simp only [Act.put, List.setIfInBounds_toArray, List.set_cons_zero, List.set_cons_succ, i64_w, i32_w]
                  rfl
                refine take_ (i := 7) (N := some 67) (v := ?_) (a' := ?_) #[true, true, true, true, true, true, true, true, true, false, false, true, true, false, true, false, false, false, false, false, false, false] rfl rfl (take_ofW HT_.out HW_.out (by kernel_rfl)) (fun _ _ _ h => h) (Or.inl ⟨by rfl, ?_⟩) hHeld ?_ ?_
                rotate_left
                · rintro w' ⟨s0, s1, s2, s3, s4, s5⟩
                  go_simp
                  with_reducible rfl
                rotate_left
                · simp only [Act.put, List.setIfInBounds_toArray, List.set_cons_zero, List.set_cons_succ, i64_w, i32_w]
                  rfl
                refine pure_ (i := 9) (N := some 69) (v := ?_) (a' := ?_) #[true, true, true, true, true, true, true, true, true, true, false, true, true, false, true, false, false, false, false, false, false, false] rfl rfl (any_of HT_.out (by kernel_rfl)) (fun _ _ _ h => h) (Or.inl ⟨by rfl, ?_⟩) ?_ ?_
                rotate_left
                · intro w'
                  go_simp
                  with_reducible rfl
                rotate_left
                · simp only [Act.put, List.setIfInBounds_toArray, List.set_cons_zero, List.set_cons_succ, i64_w, i32_w]
                  rfl
                refine take_ (i := 10) (N := some 70) (v := ?_) (a' := ?_) #[true, true, true, true, true, true, true, true, true, true, true, true, true, false, true, false, false, false, false, false, false, false] rfl rfl (take_ofW HT_.out HW_.out (by kernel_rfl)) (fun _ _ _ h => h) (Or.inl ⟨by rfl, ?_⟩) hHeld ?_ ?_
                rotate_left
                · rintro w' ⟨s0, s1, s2, s3, s4, s5⟩
                  go_simp
                  with_reducible rfl
                rotate_left
                · simp only [Act.put, List.setIfInBounds_toArray, List.set_cons_zero, List.set_cons_succ, i64_w, i32_w]
                  rfl
                refine take_ (i := 13) (N := some 73) (v := ?_) (a' := ?_) #[true, true, true, true, true, true, true, true, true, true, true, true, true, true, true, false, false, false, false, false, false, false] rfl rfl (take_ofW HT_.out HW_.out (by kernel_rfl)) (fun _ _ _ h => h) (Or.inl ⟨by rfl, ?_⟩) hHeld ?_ ?_
                rotate_left
                · rintro w' ⟨s0, s1, s2, s3, s4, s5⟩
                  go_simp
                  with_reducible rfl
                rotate_left
                · simp only [Act.put, List.setIfInBounds_toArray, List.set_cons_zero, List.set_cons_succ, i64_w, i32_w]
                  rfl
                refine pure_ (i := 15) (N := some 75) (v := ?_) (a' := ?_) #[true, true, true, true, true, true, true, true, true, true, true, true, true, true, true, true, false, false, false, false, false, false] rfl rfl (any_of HT_.out (by kernel_rfl)) (fun _ _ _ h => h) (Or.inl ⟨by rfl, ?_⟩) ?_ ?_
                rotate_left
                · intro w'
                  go_simp
                  with_reducible rfl
                rotate_left
                · simp only [Act.put, List.setIfInBounds_toArray, List.set_cons_zero, List.set_cons_succ, i64_w, i32_w]
                  rfl
                refine pure_ (i := 16) (N := some 76) (v := ?_) (a' := ?_) #[true, true, true, true, true, true, true, true, true, true, true, true, true, true, true, true, true, false, false, false, false, false] rfl rfl (any_of HT_.out (by kernel_rfl)) (fun _ _ _ h => h) (Or.inl ⟨by rfl, ?_⟩) ?_ ?_
                rotate_left
                · intro w'
                  go_simp
                  with_reducible rfl
                rotate_left
                · simp only [Act.put, List.setIfInBounds_toArray, List.set_cons_zero, List.set_cons_succ, i64_w, i32_w]
                  rfl
                refine take_ (i := 17) (N := some 77) (v := ?_) (a' := ?_) #[true, true, true, true, true, true, true, true, true, true, true, true, true, true, true, true, true, true, false, false, false, false] rfl rfl (take_ofW HT_.out HW_.out (by kernel_rfl)) (fun _ _ _ h => h) (Or.inl ⟨by rfl, ?_⟩) hHeld ?_ ?_
                rotate_left
                · rintro w' ⟨s0, s1, s2, s3, s4, s5⟩
                  go_simp
                  with_reducible rfl
                rotate_left
                · simp only [Act.put, List.setIfInBounds_toArray, List.set_cons_zero, List.set_cons_succ, i64_w, i32_w]
                  rfl
                refine pure_ (i := 18) (N := some 78) (v := ?_) (a' := ?_) #[true, true, true, true, true, true, true, true, true, true, true, true, true, true, true, true, true, true, true, false, false, false] rfl rfl (any_of HT_.out (by kernel_rfl)) (fun _ _ _ h => h) (Or.inl ⟨by rfl, ?_⟩) ?_ ?_
                rotate_left
                · intro w'
                  go_simp
                  with_reducible rfl
                rotate_left
                · simp only [Act.put, List.setIfInBounds_toArray, List.set_cons_zero, List.set_cons_succ, i64_w, i32_w]
                  rfl
                refine last_ (i := 19) (N := none) #[true, true, true, true, true, true, true, true, true, true, true, true, true, true, true, true, true, true, true, true, false, false] rfl rfl (one_of HT_.out (by kernel_rfl)) (by decide) (fun K hK => ?_)
                refine skip_ (w1 := ?_) (by rfl) rfl ?_ ?_
                rotate_left
                · go_simp
                  rfl
                refine hK.out _ _ ?_
                clear hK K
                refine pure_ (i := 20) (N := some 79) (v := ?_) (a' := ?_) #[true, true, true, true, true, true, true, true, true, true, true, true, true, true, true, true, true, true, true, true, true, false] rfl rfl (any_of HT_.out (by kernel_rfl)) (fun _ _ _ h => h) (Or.inl ⟨by rfl, ?_⟩) ?_ ?_
                rotate_left
                · intro w'
                  go_simp
                  with_reducible rfl
                rotate_left
                · simp only [Act.put, List.setIfInBounds_toArray, List.set_cons_zero, List.set_cons_succ, i64_w, i32_w]
                  rfl
                refine last_ (i := 21) (N := none) #[true, true, true, true, true, true, true, true, true, true, true, true, true, true, true, true, true, true, true, true, true, true] rfl rfl (one_of HT_.out (by kernel_rfl)) (by decide) (fun K hK => ?_)
                refine skip_ (w1 := ?_) (by rfl) rfl ?_ ?_
                rotate_left
                · go_simp
                  rfl
                refine hK.out _ _ ?_
                clear hK K
                refine done_ (done_of HT_.out (by kernel_rfl)) ?_
                try go_wp2
                go_meet
                case rel => exact ⟨⟨_, _, _, _, H12.out⟩⟩
              case rest =>
                clear H12 e2 fa fw y1 y2 z1 z2 z3 z4 z3' z4' t1 t2 hg2 hur hur2 hr1 hr2
                obtain ⟨ra, rw, va, vw, hT2⟩ := hcut.out
                have h0 := (TsC.of hT2).g0
                have HT2 := Aside0.mk hT2
                clear hcut hT2
                cases d with
                | true =>
                  go_wp2_with fail
                  go_roundw
                  case rel => exact ⟨i + 1, by omega, by go_num, ⟨_, _, _, _, by rw [HTA.out, HTW.out]; exact HT2.out⟩⟩
                  case measure => simp [intOf]; omega
                | false =>
                  have e2 := HE2.out _ HT2.out.bel
                  obtain ⟨ga, CA, gw, CW, gu, cu, gx, cx, hr1, hr2, ha0, hw0, hru, hrx, fa, fw, hne, ⟨x1, y1⟩, y2, ⟨x2, z1⟩, z2, zz⟩ := HT2.out.rows (HSQ.out.1.put _ _ _) (HSQ.out.2.put _ _ _) v u hv hu
                  subst ha0 hw0
                  obtain ⟨⟨x3, z3⟩, z4⟩ := zz (.bool true)
                  have z3' : (wc.drew.setCell ⟨gu, u, none⟩ (.bool true)).cell? ⟨gx, u, none⟩ = some x3 := z3
                  have z4' : (wc.drew.setCell ⟨gu, u, none⟩ (.bool true)).frozen? ⟨gx, u, none⟩ = false := z4
                  obtain ⟨-, -, t1, t2, -, hg2⟩ := TsC.of HT2.out
                  have H14 := Aside0.mk (((HT2.out.below (w1 := wc.drew) ⟨rfl, rfl, rfl, Nat.le_refl _, fun _ _ => rfl⟩).setA v hr1 hru u (.bool true)).setW v hr2 hrx u (.int .i64 e.f2))
                  have hur : (v : Int) < (ra.length : Int) := by omega
                  have hur2 : (v : Int) < (rw.length : Int) := by omega
                  have hvk : (u : Int) < (k : Int) := by omega
                  have hne' := Ne.symm hne
                  clear HT2 zz hru hrx
                  go_upto_region 14 with fail
                  refine start_ (n := 22) (S := fun w' => w'.cell? ⟨tb, 1, none⟩ = some (.slice (some ⟨ga, 0, none⟩) ra.length CA) ∧ w'.cell? ⟨tb, 2, none⟩ = some (.slice (some ⟨gw, 0, none⟩) rw.length CW) ∧ w'.cell? ⟨ga, v, none⟩ = some (.slice (some ⟨gu, 0, none⟩) k cu) ∧ w'.cell? ⟨gw, v, none⟩ = some (.slice (some ⟨gx, 0, none⟩) k cx) ∧ w'.cell? ⟨w.heap.size, 2, none⟩ = some (.slice (some ad) es.length c2) ∧ w'.cell? ⟨(ad.add (i * 3)).block, (ad.add (i * 3)).off + 2, none⟩ = some (.int .i64 e.f2)) (ds := [19, 21]) #[false, false, false, false, false, false, false, false, false, false, false, false, false, false, false, false, false, false, false, false, false, false] (by kernel_rfl) rfl rfl ⟨t1, t2, fa, fw, hg2, e2⟩ (fun hHeld => ?_)
                  refine with_tabW tof.tab14 tof.bits14 (fun HT_ HW_ => ?_)
                  refine pure_ (i := 0) (N := some 83) (v := ?_) (a' := ?_) #[true, false, false, false, false, false, false, false, false, false, false, false, false, false, false, false, false, false, false, false, false, false] rfl rfl (any_of HT_.out (by kernel_rfl)) (fun _ _ _ h => h) (Or.inl ⟨by rfl, ?_⟩) ?_ ?_
                  rotate_left
                  · intro w'
                    go_simp
                    with_reducible rfl
                  rotate_left
                  · simp only [Act.put, List.setIfInBounds_toArray, List.set_cons_zero, List.set_cons_succ, i64_w, i32_w]
                    rfl
                  refine pure_ (i := 2) (N := some 85) (v := ?_) (a' := ?_) #[true, false, true, false, false, false, false, false, false, false, false, false, false, false, false, false, false, false, false, false, false, false] rfl rfl (any_of HT_.out (by kernel_rfl)) (fun _ _ _ h => h) (Or.inl ⟨by rfl, ?_⟩) ?_ ?_
                  rotate_left
                  · intro w'
                    go_simp
                    with_reducible rfl
                  rotate_left
                  · simp only [Act.put, List.setIfInBounds_toArray, List.set_cons_zero, List.set_cons_succ, i64_w, i32_w]
                    rfl
                  refine pure_ (i := 5) (N := some 88) (v := ?_) (a' := ?_) #[true, false, true, false, false, true, false, false, false, false, false, false, false, false, false, false, false, false, false, false, false, false] rfl rfl (any_of HT_.out (by kernel_rfl)) (fun _ _ _ h => h) (Or.inl ⟨by rfl, ?_⟩) ?_ ?_
                  rotate_left
                  · intro w'
                    go_simp
                    with_reducible rfl
                  rotate_left
                  · simp only [Act.put, List.setIfInBounds_toArray, List.set_cons_zero, List.set_cons_succ, i64_w, i32_w]
                    rfl
                  refine pure_ (i := 6) (N := some 89) (v := ?_) (a' := ?_) #[true, false, true, false, false, true, true, false, false, false, false, false, false, false, false, false, false, false, false, false, false, false] rfl rfl (any_of HT_.out (by kernel_rfl)) (fun _ _ _ h => h) (Or.inl ⟨by rfl, ?_⟩) ?_ ?_
                  rotate_left
                  · intro w'
                    go_simp
                    with_reducible rfl
                  rotate_left
                  · simp only [Act.put, List.setIfInBounds_toArray, List.set_cons_zero, List.set_cons_succ, i64_w, i32_w]
                    rfl
                  refine pure_ (i := 8) (N := some 91) (v := ?_) (a' := ?_) #[true, false, true, false, false, true, true, false, true, false, false, false, false, false, false, false, false, false, false, false, false, false] rfl rfl (any_of HT_.out (by kernel_rfl)) (fun _ _ _ h => h) (Or.inl ⟨by rfl, ?_⟩) ?_ ?_
                  rotate_left
                  · intro w'
                    go_simp
                    with_reducible rfl
                  rotate_left
                  · simp only [Act.put, List.setIfInBounds_toArray, List.set_cons_zero, List.set_cons_succ, i64_w, i32_w]
                    rfl
                  refine pure_ (i := 11) (N := some 94) (v := ?_) (a' := ?_) #[true, false, true, false, false, true, true, false, true, false, false, true, false, false, false, false, false, false, false, false, false, false] rfl rfl (any_of HT_.out (by kernel_rfl)) (fun _ _ _ h => h) (Or.inl ⟨by rfl, ?_⟩) ?_ ?_
                  rotate_left
                  · intro w'
                    go_simp
                    with_reducible rfl
                  rotate_left
                  · simp only [Act.put, List.setIfInBounds_toArray, List.set_cons_zero, List.set_cons_succ, i64_w, i32_w]
                    rfl
                  refine pure_ (i := 12) (N := some 95) (v := ?_) (a' := ?_) #[true, false, true, false, false, true, true, false, true, false, false, true, true, false, false, false, false, false, false, false, false, false] rfl rfl (any_of HT_.out (by kernel_rfl)) (fun _ _ _ h => h) (Or.inl ⟨by rfl, ?_⟩) ?_ ?_
                  rotate_left
                  · intro w'
                    go_simp
                    with_reducible rfl
                  rotate_left
                  · simp only [Act.put, List.setIfInBounds_toArray, List.set_cons_zero, List.set_cons_succ, i64_w, i32_w]
                    rfl
                  refine pure_ (i := 14) (N := some 97) (v := ?_) (a' := ?_) #[true, false, true, false, false, true, true, false, true, false, false, true, true, false, true, false, false, false, false, false, false, false] rfl rfl (any_of HT_.out (by kernel_rfl)) (fun _ _ _ h => h) (Or.inl ⟨by rfl, ?_⟩) ?_ ?_
                  rotate_left
                  · intro w'
                    go_simp
                    with_reducible rfl
                  rotate_left
                  · simp only [Act.put, List.setIfInBounds_toArray, List.set_cons_zero, List.set_cons_succ, i64_w, i32_w]
                    rfl
                  refine take_ (i := 1) (N := some 84) (v := ?_) (a' := ?_) #[true, true, true, false, false, true, true, false, true, false, false, true, true, false, true, false, false, false, false, false, false, false] rfl rfl (take_ofW HT_.out HW_.out (by kernel_rfl)) (fun _ _ _ h => h) (Or.inl ⟨by rfl, ?_⟩) hHeld ?_ ?_
                  rotate_left
                  · rintro w' ⟨s0, s1, s2, s3, s4, s5⟩
                    go_simp
                    with_reducible rfl
                  rotate_left
                  · simp only [Act.put, List.setIfInBounds_toArray, List.set_cons_zero, List.set_cons_succ, i64_w, i32_w]
                    rfl
                  refine pure_ (i := 3) (N := some 86) (v := ?_) (a' := ?_) #[true, true, true, true, false, true, true, false, true, false, false, true, true, false, true, false, false, false, false, false, false, false] rfl rfl (any_of HT_.out (by kernel_rfl)) (fun _ _ _ h => h) (Or.inl ⟨by rfl, ?_⟩) ?_ ?_
                  rotate_left
                  · intro w'
                    go_simp
                    with_reducible rfl
                  rotate_left
                  · simp only [Act.put, List.setIfInBounds_toArray, List.set_cons_zero, List.set_cons_succ, i64_w, i32_w]
                    rfl
                  refine take_ (i := 4) (N := some 87) (v := ?_) (a' := ?_) #[true, true, true, true, true, true, true, false, true, false, false, true, true, false, true, false, false, false, false, false, false, false] rfl rfl (take_ofW HT_.out HW_.out (by kernel_rfl)) (fun _ _ _ h => h) (Or.inl ⟨by rfl, ?_⟩) hHeld ?_ ?_
                  rotate_left
                  · rintro w' ⟨s0, s1, s2, s3, s4, s5⟩
                    go_simp
                    with_reducible rfl
                  rotate_left
                  · simp only [Act.put, List.setIfInBounds_toArray, List.set_cons_zero, List.set_cons_succ, i64_w, i32_w]
                    rfl
                  refine take_ (i := 7) (N := some 90) (v := ?_) (a' := ?_) #[true, true, true, true, true, true, true, true, true, false, false, true, true, false, true, false, false, false, false, false, false, false] rfl rfl (take_ofW HT_.out HW_.out (by kernel_rfl)) (fun _ _ _ h => h) (Or.inl ⟨by rfl, ?_⟩) hHeld ?_ ?_
                  rotate_left
                  · rintro w' ⟨s0, s1, s2, s3, s4, s5⟩
                    go_simp
                    with_reducible rfl
                  rotate_left
                  · simp only [Act.put, List.setIfInBounds_toArray, List.set_cons_zero, List.set_cons_succ, i64_w, i32_w]
                    rfl
                  refine pure_ (i := 9) (N := some 92) (v := ?_) (a' := ?_) #[true, true, true, true, true, true, true, true, true, true, false, true, true, false, true, false, false, false, false, false, false, false] rfl rfl (any_of HT_.out (by kernel_rfl)) (fun _ _ _ h => h) (Or.inl ⟨by rfl, ?_⟩) ?_ ?_
                  rotate_left
                  · intro w'
                    go_simp
                    with_reducible rfl
                  rotate_left
                  · simp only [Act.put, List.setIfInBounds_toArray, List.set_cons_zero, List.set_cons_succ, i64_w, i32_w]
                    rfl
                  refine take_ (i := 10) (N := some 93) (v := ?_) (a' := ?_) #[true, true, true, true, true, true, true, true, true, true, true, true, true, false, true, false, false, false, false, false, false, false] rfl rfl (take_ofW HT_.out HW_.out (by kernel_rfl)) (fun _ _ _ h => h) (Or.inl ⟨by rfl, ?_⟩) hHeld ?_ ?_
                  rotate_left
                  · rintro w' ⟨s0, s1, s2, s3, s4, s5⟩
                    go_simp
                    with_reducible rfl
                  rotate_left
                  · simp only [Act.put, List.setIfInBounds_toArray, List.set_cons_zero, List.set_cons_succ, i64_w, i32_w]
                    rfl
                  refine take_ (i := 13) (N := some 96) (v := ?_) (a' := ?_) #[true, true, true, true, true, true, true, true, true, true, true, true, true, true, true, false, false, false, false, false, false, false] rfl rfl (take_ofW HT_.out HW_.out (by kernel_rfl)) (fun _ _ _ h => h) (Or.inl ⟨by rfl, ?_⟩) hHeld ?_ ?_
                  rotate_left
                  · rintro w' ⟨s0, s1, s2, s3, s4, s5⟩
                    go_simp
                    with_reducible rfl
                  rotate_left
                  · simp only [Act.put, List.setIfInBounds_toArray, List.set_cons_zero, List.set_cons_succ, i64_w, i32_w]
                    rfl
                  refine pure_ (i := 15) (N := some 98) (v := ?_) (a' := ?_) #[true, true, true, true, true, true, true, true, true, true, true, true, true, true, true, true, false, false, false, false, false, false] rfl rfl (any_of HT_.out (by kernel_rfl)) (fun _ _ _ h => h) (Or.inl ⟨by rfl, ?_⟩) ?_ ?_
                  rotate_left
                  · intro w'
                    go_simp
                    with_reducible rfl
                  rotate_left
                  · simp only [Act.put, List.setIfInBounds_toArray, List.set_cons_zero, List.set_cons_succ, i64_w, i32_w]
                    rfl
                  refine pure_ (i := 16) (N := some 99) (v := ?_) (a' := ?_) #[true, true, true, true, true, true, true, true, true, true, true, true, true, true, true, true, true, false, false, false, false, false] rfl rfl (any_of HT_.out (by kernel_rfl)) (fun _ _ _ h => h) (Or.inl ⟨by rfl, ?_⟩) ?_ ?_
                  rotate_left
                  · intro w'
                    go_simp
                    with_reducible rfl
                  rotate_left
                  · simp only [Act.put, List.setIfInBounds_toArray, List.set_cons_zero, List.set_cons_succ, i64_w, i32_w]
                    rfl
                  refine take_ (i := 17) (N := some 100) (v := ?_) (a' := ?_) #[true, true, true, true, true, true, true, true, true, true, true, true, true, true, true, true, true, true, false, false, false, false] rfl rfl (take_ofW HT_.out HW_.out (by kernel_rfl)) (fun _ _ _ h => h) (Or.inl ⟨by rfl, ?_⟩) hHeld ?_ ?_
                  rotate_left
                  · rintro w' ⟨s0, s1, s2, s3, s4, s5⟩
                    go_simp
                    with_reducible rfl
                  rotate_left
                  · simp only [Act.put, List.setIfInBounds_toArray, List.set_cons_zero, List.set_cons_succ, i64_w, i32_w]
                    rfl
                  refine pure_ (i := 18) (N := some 101) (v := ?_) (a' := ?_) #[true, true, true, true, true, true, true, true, true, true, true, true, true, true, true, true, true, true, true, false, false, false] rfl rfl (any_of HT_.out (by kernel_rfl)) (fun _ _ _ h => h) (Or.inl ⟨by rfl, ?_⟩) ?_ ?_
                  rotate_left
                  · intro w'
                    go_simp
                    with_reducible rfl
                  rotate_left
                  · simp only [Act.put, List.setIfInBounds_toArray, List.set_cons_zero, List.set_cons_succ, i64_w, i32_w]
                    rfl
                  refine last_ (i := 19) (N := none) #[true, true, true, true, true, true, true, true, true, true, true, true, true, true, true, true, true, true, true, true, false, false] rfl rfl (one_of HT_.out (by kernel_rfl)) (by decide) (fun K hK => ?_)
                  refine skip_ (w1 := ?_) (by rfl) rfl ?_ ?_
                  rotate_left
                  · go_simp
                    rfl
                  refine hK.out _ _ ?_
                  clear hK K
                  refine pure_ (i := 20) (N := some 102) (v := ?_) (a' := ?_) #[true, true, true, true, true, true, true, true, true, true, true, true, true, true, true, true, true, true, true, true, true, false] rfl rfl (any_of HT_.out (by kernel_rfl)) (fun _ _ _ h => h) (Or.inl ⟨by rfl, ?_⟩) ?_ ?_
                  rotate_left
                  · intro w'
                    go_simp
                    with_reducible rfl
                  rotate_left
                  · simp only [Act.put, List.setIfInBounds_toArray, List.set_cons_zero, List.set_cons_succ, i64_w, i32_w]
                    rfl
                  refine last_ (i := 21) (N := none) #[true, true, true, true, true, true, true, true, true, true, true, true, true, true, true, true, true, true, true, true, true, true] rfl rfl (one_of HT_.out (by kernel_rfl)) (by decide) (fun K hK => ?_)
                  refine skip_ (w1 := ?_) (by rfl) rfl ?_ ?_
                  rotate_left
                  · go_simp
                    rfl
                  refine hK.out _ _ ?_
                  clear hK K
                  refine done_ (done_of HT_.out (by kernel_rfl)) ?_
                  go_wp2
                  go_roundw
                  case rel => exact ⟨i + 1, by omega, by go_num, ⟨_, _, _, _, by rw [HTA.out, HTW.out]; exact H14.out⟩⟩
                  case measure => simp [intOf]; omega
        · have hi' : i = es.length := by omega
          have hq := hT
          rw [hi', List.take_length] at hq
          have HQ := Aside0.mk hq
          obtain ⟨q0, q1, q2⟩ := (⟨(TsC.of hq).c0, (TsC.of hq).c1, (TsC.of hq).c2⟩ : _ ∧ _ ∧ _)
          obtain ⟨VA, CA, rfl⟩ := own_slice hq.A.o
          obtain ⟨VW, CW, rfl⟩ := own_slice hq.W.o
          obtain ⟨z0, z1, z2, z3, z4, z5⟩ := resCells hq.res
          clear hq hT HR
          go_wp2_with fail
          refine bodyPost_ret (v := .agg #[.slice An k cn, .slice VA ra.length CA, .slice VW rw.length CW]) (by simp [results, Tryz.results13, go_sem, *]) rfl ⟨_, _, _, rfl, ?_⟩
          rw [HID.out, ← HNN.out]
          exact tb_end HQ.out
end Go.Proofs.YtfkmpnpliadohaaGreat.Q

set_option linter.unusedVariables false
set_option linter.unusedSimpArgs false
namespace Go.Proofs.YtfkmpnpliadohaaGreat.Q
open Go.RowKit Go.Lab Go.Proofs.YtfkmpnpliadohaaGreatW.PrintWords Go.Proofs.YtfkmpnpliadohaaGreatW.PrintLast Go.Proofs.YtfkmpnpliadohaaGreatW.PrintMore PL

theorem R_scalar {α : Type} (enc : α → Value) (h1 : ∀ x, (enc x).oneCell' = true) {w : World} {base : Nat} {e : TypeId} {v : Value} {xs : List α} (h : w.ownsRow base e 1 v (xs.map enc).length (xs.map enc)) (ok : Nat → Prop) (hok : ∀ k, v.ownBlock = some k → ok k) : Kd.R (Kd.scalar enc h1) e w base ok v xs := by
  refine ⟨hok, xs.map enc, by rw [List.length_map] at h; exact h, by rw [List.length_map]; exact (Nat.mul_one _).symm, fun j p hj => ?_⟩
  show List.take 1 (List.drop (j * 1) (xs.map enc)) = [enc p]
  obtain ⟨hl, rfl⟩ := List.getElem?_eq_some_iff.1 hj
  rw [Nat.mul_one, List.drop_eq_getElem_cons (by rw [List.length_map]; exact hl)]
  simp

theorem Tb.S {α : Type} (enc : α → Value) (h1 : ∀ x, (enc x).oneCell' = true) {w : World} {base : Nat} {eo ei : TypeId} {rs : List Value} {v : Value} {xs : List (List α)} (h : Tb w base eo ei (xs.map (fun r => r.map enc)) rs v) (hne : eo ≠ ei) (ok : Nat → Prop) (hov : ∀ k, v.ownBlock = some k → ok k) (hor : ∀ i (hi : i < rs.length) k, rs[i].ownBlock = some k → ok k) :
    Kd.S (Kd.slice ei (Kd.scalar enc h1)) eo w base ok v xs := by
  classical
  have hl : rs.length = xs.length := by have := h.l; rwa [List.length_map] at this
  refine ⟨fun k => if hk : ∃ i, ∃ hi : i < rs.length, rs[i].ownBlock = some k then hk.choose else 0, hov, rs, by rw [List.length_zipIdx, ← hl]; exact h.o, by rw [List.length_zipIdx, ← hl]; exact (Nat.mul_one _).symm, fun j p hj => ?_⟩
  rw [List.getElem?_zipIdx] at hj
  obtain ⟨x, hx, rfl⟩ := Option.map_eq_some_iff.1 hj
  obtain ⟨hjx, rfl⟩ := List.getElem?_eq_some_iff.1 hx
  have hjr : j < rs.length := by omega
  have hrow := h.row j hjr
  have hg : (xs.map (fun r => r.map enc)).getD j [] = xs[j].map enc := by rw [List.getD_eq_getElem?_getD, List.getElem?_map, List.getElem?_eq_getElem hjx]; rfl
  rw [hg] at hrow
  have e1 : List.take 1 (List.drop (j * 1) rs) = [rs[j]] := by
    rw [Nat.mul_one, List.drop_eq_getElem_cons hjr, List.take_succ_cons, List.take_zero]
  show (Kd.slice ei (Kd.scalar enc h1)).M w base _ xs[j] (List.take 1 (List.drop (j * 1) rs))
  rw [e1]
  refine ⟨rs[j], rfl, R_scalar enc h1 hrow _ ?_⟩
  intro k hk
  refine ⟨⟨hor j hjr k hk, ?_⟩, ?_⟩
  · intro he
    obtain ⟨c, hc⟩ := own_block h.o he.symm
    obtain ⟨c', hc'⟩ := own_block hrow hk
    exact hne (blk_type hc hc')
  · have hex : ∃ i, ∃ hi : i < rs.length, rs[i].ownBlock = some k := ⟨j, hjr, hk⟩
    show (if hk : ∃ i, ∃ hi : i < rs.length, rs[i].ownBlock = some k then hk.choose else 0) = 0 + j
    rw [dif_pos hex]
    obtain ⟨hi, hi2⟩ := hex.choose_spec
    rcases Nat.lt_or_ge hex.choose j with h3 | h3
    · exact absurd hk (h.sep _ j hi hjr (by omega) k hi2)
    · rcases Nat.lt_or_ge j hex.choose with h4 | h4
      · exact absurd hk (h.sep _ j hi hjr (by omega) k hi2)
      · omega

/-- a place of a table set -/
def putG {α : Type} (T : List (List α)) (u v : Nat) (x : α) : List (List α) := T.set u ((T.getD u []).set v x)
theorem putG_map {α : Type} (enc : α → Value) (T : List (List α)) (u v : Nat) (x : α) : (putG T u v x).map (fun r => r.map enc) = putT (T.map (fun r => r.map enc)) u v (enc x) := by
  unfold putG putT
  rw [List.map_set, List.map_set]
  congr 2
  rw [List.getD_eq_getElem?_getD, List.getD_eq_getElem?_getD, List.getElem?_map]
  cases T[u]? <;> rfl
def stA (d : Bool) (ids : List Int) (T : List (List Bool)) (e : S38) : List (List Bool) :=
  if d then putG T (ids.idxOf e.f0) (ids.idxOf e.f1) true else putG (putG T (ids.idxOf e.f0) (ids.idxOf e.f1) true) (ids.idxOf e.f1) (ids.idxOf e.f0) true
def stW (d : Bool) (ids : List Int) (T : List (List Int)) (e : S38) : List (List Int) :=
  if d then putG T (ids.idxOf e.f0) (ids.idxOf e.f1) e.f2 else putG (putG T (ids.idxOf e.f0) (ids.idxOf e.f1) e.f2) (ids.idxOf e.f1) (ids.idxOf e.f0) e.f2
def tbA (d : Bool) (ids : List Int) (n : Nat) (es : List S38) : List (List Bool) := es.foldl (stA d ids) (List.replicate n (List.replicate n false))
def tbW (d : Bool) (ids : List Int) (n : Nat) (es : List S38) : List (List Int) := es.foldl (stW d ids) (List.replicate n (List.replicate n 0))
theorem tbA_map (d : Bool) (ids : List Int) (n : Nat) (es : List S38) : (tbA d ids n es).map (fun r => r.map Value.bool) = tabA d ids n es := by
  unfold tbA tabA
  suffices h : ∀ (es : List S38) (T : List (List Bool)), (es.foldl (stA d ids) T).map (fun r => r.map Value.bool) = es.foldl (stepA d ids) (T.map (fun r => r.map Value.bool)) by
    rw [h]; congr 1; simp [zA]
  intro es
  induction es with
  | nil => intro T; rfl
  | cons e es ih =>
    intro T
    rw [List.foldl_cons, List.foldl_cons, ih]
    congr 1
    unfold stA stepA
    split
    · exact putG_map _ _ _ _ _
    · rw [putG_map, putG_map]
theorem tbW_map (d : Bool) (ids : List Int) (n : Nat) (es : List S38) : (tbW d ids n es).map (fun r => r.map (Value.int .i64)) = tabW d ids n es := by
  unfold tbW tabW
  suffices h : ∀ (es : List S38) (T : List (List Int)), (es.foldl (stW d ids) T).map (fun r => r.map (Value.int .i64)) = es.foldl (stepW d ids) (T.map (fun r => r.map (Value.int .i64))) by
    rw [h]; congr 1; simp [zW]
  intro es
  induction es with
  | nil => intro T; rfl
  | cons e es ih =>
    intro T
    rw [List.foldl_cons, List.foldl_cons, ih]
    congr 1
    unfold stW stepW
    split
    · exact putG_map _ _ _ _ _
    · rw [putG_map, putG_map]
end Go.Proofs.YtfkmpnpliadohaaGreat.Q

set_option linter.unusedVariables false
set_option linter.unusedSimpArgs false
/- The contract of laws.tableOf, in the printed contracts' form. -/
namespace Go.Proofs.YtfkmpnpliadohaaGreat.Q
open Go.RowKit Go.Lab Go.Proofs.YtfkmpnpliadohaaGreatW.PrintWords Go.Proofs.YtfkmpnpliadohaaGreatW.PrintLast Go.Proofs.YtfkmpnpliadohaaGreatW.PrintMore
end Go.Proofs.YtfkmpnpliadohaaGreat.Q
namespace Go.Proofs.YtfkmpnpliadohaaGreat.PL
open Go.RowKit Go.Lab Go.Proofs.YtfkmpnpliadohaaGreatW.PrintWords Go.Proofs.YtfkmpnpliadohaaGreatW.PrintLast Go.Proofs.YtfkmpnpliadohaaGreatW.PrintMore Go.Proofs.YtfkmpnpliadohaaGreat.Q
def laws_tableOf.f (a0_0 : Bool) (l0_1 : List Int) (l0_2 : List S38) : Option (List Int × List (List Bool) × List (List Int)) :=
  if l0_1.length ≤ 1000 ∧ l0_2.length ≤ 100000 ∧ (l0_2.all fun e => decide (e.f0 ∈ l0_1) && decide (e.f1 ∈ l0_1)) = true then
    some (srt l0_1, tbA a0_0 (srt l0_1) (srt l0_1).length l0_2, tbW a0_0 (srt l0_1) (srt l0_1).length l0_2) else none
theorem laws_tableOf.calls (a0_0 : Bool) (A0_1 : Option Addr) (c0_1 : Nat) (l0_1 : List Int) (A0_2 : Option Addr) (c0_2 : Nat) (l0_2 : List S38) (r1 : List Int) (r2 : List (List Bool)) (r3 : List (List Int)) (w : World)
    (hr0_1 : Kd.C (Kd.int .i64) w A0_1 l0_1.length l0_1) (hc0_1 : l0_1.length ≤ c0_1) (hr0_2 : Kd.C k38 w A0_2 l0_2.length l0_2) (hc0_2 : l0_2.length ≤ c0_2) (h : laws_tableOf.f a0_0 l0_1 l0_2 = some (r1, r2, r3)) :
    Calls Tryz.prog 13 #[.agg #[.bool a0_0, .slice A0_1 l0_1.length c0_1, .slice A0_2 l0_2.length c0_2]] w fun e w' => ∃ v1_ v2_ v3_ : Value, e = .returned (.agg #[v1_, v2_, v3_]) ∧ Kd.R (Kd.int .i64) 3 w' w.heap.size (fun _ => True) v1_ r1 ∧ Kd.S (Kd.slice 4 Kd.bool) 35 w' w.heap.size (fun _ => True) v2_ r2 ∧ Kd.S (Kd.slice 3 (Kd.int .i64)) 22 w' w.heap.size (fun k_ => some k_ ≠ (v1_ : Value).ownBlock) v3_ r3 ∧ Below w.heap.size w w' := by
  unfold laws_tableOf.f at h
  split at h
  · rename_i hc
    injection h with h
    injection h with h1 h
    injection h with h2 h3
    subst h1 h2 h3
    obtain ⟨ks, hks⟩ := sorted_f l0_1 (by omega)
    refine (tableOf_any a0_0 A0_1 A0_2 c0_1 c0_2 l0_1 l0_2 w ks hr0_1 hc0_1 hr0_2 hc.1 hc.2.1 hks hc.2.2).mono ?_
    rintro e w' ⟨vn, va, vw, rfl, hR, ⟨ra, hA⟩, ⟨rw', hW, hsn⟩, hb⟩
    rw [← tbA_map] at hA
    rw [← tbW_map] at hW
    have hov : ∀ k, vw.ownBlock = some k → some k ≠ vn.ownBlock := by
      intro k hk he
      obtain ⟨inner, ho⟩ := Kd.R_own hR
      obtain ⟨c, hc⟩ := own_block ho he.symm
      obtain ⟨c', hc'⟩ := own_block hW.o hk
      exact absurd (blk_type hc hc') (by decide)
    have hor : ∀ i (hi : i < rw'.length) k, rw'[i].ownBlock = some k → some k ≠ vn.ownBlock := fun i hi k hk he => hsn i hi k he.symm hk
    exact ⟨vn, va, vw, rfl, hR, Tb.S Value.bool (fun _ => rfl) hA (by decide) _ (fun _ _ => trivial) (fun _ _ _ _ => trivial), Tb.S (Value.int .i64) (fun _ => rfl) hW (by decide) _ hov hor, hb⟩
  · cases h
end Go.Proofs.YtfkmpnpliadohaaGreat.PL
