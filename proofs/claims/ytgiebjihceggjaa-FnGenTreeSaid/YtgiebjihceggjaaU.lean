import Derived.Test.YtgiebjihceggjaaA
set_option linter.unusedVariables false
set_option linter.unusedSimpArgs false
namespace Go.Proofs.Ytgiebjihceggjaa
open Go.RowKit Go.Proofs.YtgiebjihceggjaaW.PrintWords Go.Proofs.YtgiebjihceggjaaW.PrintLast Go.Proofs.YtgiebjihceggjaaW.PrintMore PFnGenTree

/-- they lie in no block in common -/
def ApartS (a b : Value) : Prop := ∀ k, a.ownBlock = some k → b.ownBlock ≠ some k
theorem ApartS.symm {a b : Value} (h : ApartS a b) : ApartS b a := fun k hb ha => h k ha hb

/-- a row of one-cell elements, one element stored -/
theorem own_put1 {w : World} {base g cap n : Nat} {e : TypeId} {xs : List Value} (h : w.ownsRow base e 1 (.slice (some ⟨g, 0, none⟩) n cap) n xs) (i : Nat) (v : Value) :
    (w.setCell ⟨g, i, none⟩ v).ownsRow base e 1 (.slice (some ⟨g, 0, none⟩) n cap) n (xs.set i v) := by
  rcases h.2 with ⟨hn, _⟩ | ⟨g', cap', cur, hv, hb1, hg, hc1, hc2, hcs, htk⟩
  · cases hn
  · injection hv with e1 _ e3
    injection e1 with e1
    injection e1 with e1
    subst e1 e3
    refine ⟨by simpa using h.1, .inr ⟨g, cap, cur.setIfInBounds i v, rfl, hb1, blk_set hg _ _, hc1, hc2, by simpa using hcs, ?_⟩⟩
    rw [Array.toList_setIfInBounds, List.take_set, htk]

/-- a table: rows of one-cell values, no two in one block -/
structure Tb (w : World) (base : Nat) (eo ei : TypeId) (T : List (List Value)) (rs : List Value) (v : Value) : Prop where
  o : w.ownsRow base eo 1 v rs.length rs
  l : rs.length = T.length
  row : ∀ i (h : i < rs.length), w.ownsRow base ei 1 rs[i] (T.getD i []).length (T.getD i [])
  sep : ∀ i j (h : i < rs.length) (h' : j < rs.length), i ≠ j → ApartS rs[i] rs[j]

theorem Tb.nil (w : World) (base : Nat) (eo ei : TypeId) : Tb w base eo ei [] [] (.slice none 0 0) :=
  ⟨World.ownsRow_nil _ _ _ _, rfl, fun i h => by simp at h, fun i j h => by simp at h⟩

theorem Tb.move {w w1 : World} {base : Nat} {eo ei : TypeId} {T : List (List Value)} {rs : List Value} {v : Value} (h : Tb w base eo ei T rs v)
    (hm : ∀ (k : Nat) (c : Array Value) (t : TypeId), w.heap[k]? = some (Obj.cells c t (0, 0)) → t = eo ∨ t = ei → w1.heap[k]? = w.heap[k]?) : Tb w1 base eo ei T rs v := by
  refine ⟨own_of_heap h.o (fun k hk => ?_), h.l, fun i hi => own_of_heap (h.row i hi) (fun k hk => ?_), h.sep⟩
  · obtain ⟨c, hc⟩ := own_block h.o hk; exact hm k c eo hc (.inl rfl)
  · obtain ⟨c, hc⟩ := own_block (h.row i hi) hk; exact hm k c ei hc (.inr rfl)

theorem Tb.below {w w1 : World} {base : Nat} {eo ei : TypeId} {T : List (List Value)} {rs : List Value} {v : Value} (h : Tb w base eo ei T rs v) (hb : Below w.heap.size w w1) : Tb w1 base eo ei T rs v :=
  h.move (fun k _ _ hk _ => hb.block k (blk_lt hk))

theorem Tb.push {w w1 : World} {base : Nat} {eo ei : TypeId} {T : List (List Value)} {rs : List Value} {v v' r : Value} {row : List Value} (h : Tb w base eo ei T rs v) (hne : eo ≠ ei)
    (hr : w.ownsRow base ei 1 r row.length row) (hf : ∀ i (hi : i < rs.length), ApartS rs[i] r) (hown : w1.ownsRow base eo 1 v' (rs.length + 1) (rs ++ [r])) (hg : w.grownBy w1 v.ownBlock) : Tb w1 base eo ei (T ++ [row]) (rs ++ [r]) v' := by
  have hk : ∀ {x : Value} {n : Nat} {xs : List Value}, w.ownsRow base ei 1 x n xs → w1.ownsRow base ei 1 x n xs := by
    intro x n xs hx
    refine own_of_heap hx (fun k hk => ?_)
    obtain ⟨c, hc⟩ := own_block hx hk
    refine hg.block k (blk_lt hc) (fun e => ?_)
    obtain ⟨c', hc'⟩ := own_block h.o e.symm
    exact hne (blk_type hc' hc)
  refine ⟨by rw [List.length_append]; exact hown, by rw [List.length_append, List.length_append, h.l]; rfl, fun i hi => ?_, fun i j hi hj hij => ?_⟩
  · rw [List.length_append] at hi
    by_cases h1 : i < rs.length
    · rw [List.getElem_append_left h1, List.getD_eq_getElem?_getD, List.getElem?_append_left (by rw [← h.l]; exact h1), ← List.getD_eq_getElem?_getD]
      exact hk (h.row i h1)
    · have h2 : i = rs.length := by simp at hi; omega
      subst h2
      rw [List.getElem_append_right (Nat.le_refl _), List.getD_eq_getElem?_getD, List.getElem?_append_right (by rw [h.l]; exact Nat.le_refl _)]
      simp only [Nat.sub_self, List.getElem_cons_zero, h.l, List.getElem?_cons_zero, Option.getD_some]
      exact hk hr
  · rw [List.length_append] at hi hj
    by_cases h1 : i < rs.length <;> by_cases h2 : j < rs.length
    · rw [List.getElem_append_left h1, List.getElem_append_left h2]; exact h.sep i j h1 h2 hij
    · rw [List.getElem_append_left h1, List.getElem_append_right (by omega)]
      simpa using hf i h1
    · rw [List.getElem_append_right (by omega), List.getElem_append_left h2]
      simpa using (hf j h2).symm
    · simp at hi hj; omega

theorem Tb.put {w : World} {base : Nat} {eo ei : TypeId} {T : List (List Value)} {rs : List Value} {v : Value} (h : Tb w base eo ei T rs v) (hne : eo ≠ ei) (i : Nat) (hi : i < rs.length) {g n c : Nat} (hr : rs[i] = .slice (some ⟨g, 0, none⟩) n c) (j : Nat) (x : Value) :
    Tb (w.setCell ⟨g, j, none⟩ x) base eo ei (T.set i ((T.getD i []).set j x)) rs v := by
  have hrow := h.row i hi
  rw [hr] at hrow
  have hn : n = (T.getD i []).length := by
    obtain ⟨A, c', he⟩ := own_slice hrow
    injection he with _ e2 _
  subst hn
  obtain ⟨cg, hcg⟩ := own_block hrow (k := g) rfl
  refine ⟨own_of_heap h.o (fun k hk => ?_), by rw [List.length_set]; exact h.l, fun m hm => ?_, h.sep⟩
  · obtain ⟨c, hc⟩ := own_block h.o hk
    exact Below.heap_setCell _ _ _ _ (by rintro rfl; exact hne (blk_type hc hcg))
  · rw [List.getD_eq_getElem?_getD, List.getElem?_set]
    by_cases hmi : i = m
    · subst hmi
      rw [if_pos rfl, if_pos (by rw [← h.l]; exact hi), Option.getD_some, hr, List.length_set]
      exact own_put1 hrow j x
    · rw [if_neg hmi, ← List.getD_eq_getElem?_getD]
      refine own_of_heap (h.row m hm) (fun k hk => Below.heap_setCell _ _ _ _ ?_)
      intro e
      exact h.sep i m hi hm hmi k (by rw [hr, e]; rfl) hk

/-- the cell of a row -/
theorem Tb.cell {w : World} {base : Nat} {eo ei : TypeId} {T : List (List Value)} {rs : List Value} {v : Value} (h : Tb w base eo ei T rs v) (i : Nat) (hi : i < rs.length) :
    ∃ g cap, v = .slice (some ⟨g, 0, none⟩) rs.length cap ∧ w.cell? ⟨g, i, none⟩ = some rs[i] := by
  obtain ⟨g, cap, hv, hgb, hgl⟩ := h.o.form (by omega)
  refine ⟨g, cap, hv, ?_⟩
  subst hv
  have h1 := h.o.cells (g := g) rfl i rs[i] (List.getElem?_eq_getElem hi)
  rw [add_plain] at h1
  exact h1

theorem Tb.rowCell {w : World} {base : Nat} {eo ei : TypeId} {T : List (List Value)} {rs : List Value} {v : Value} (h : Tb w base eo ei T rs v) (i : Nat) (hi : i < rs.length) (j : Nat) (hj : j < (T.getD i []).length) :
    ∃ g cap, rs[i] = .slice (some ⟨g, 0, none⟩) (T.getD i []).length cap ∧ base ≤ g ∧ g < w.heap.size ∧ w.heap[g]?.isSome ∧ w.cell? ⟨g, j, none⟩ = some (T.getD i [])[j] ∧ w.frozen? ⟨g, j, none⟩ = false := by
  have hr := h.row i hi
  obtain ⟨g, cap, hv, hgb, hgl⟩ := hr.form (by omega)
  refine ⟨g, cap, hv, hgb, hgl, by rw [Array.getElem?_eq_getElem hgl]; rfl, ?_, ?_⟩
  · have h1 := hr.cells (g := g) (by rw [hv]; rfl) j (T.getD i [])[j] (List.getElem?_eq_getElem hj)
    rw [add_plain] at h1
    exact h1
  · obtain ⟨c, hc⟩ := own_block hr (k := g) (by rw [hv]; rfl)
    exact blk_frozen hc _
end Go.Proofs.Ytgiebjihceggjaa
