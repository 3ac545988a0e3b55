import Derived.Test.YtlokbaljkmblaaaE
namespace Go.Proofs.Ytlokbaljkmblaaa
open Go.RowKit Go.Lab Go.Proofs.YtlokbaljkmblaaaW.PrintWords Go.Proofs.YtlokbaljkmblaaaW.PrintLast Go.Proofs.YtlokbaljkmblaaaW.PrintMore

/-- a plain graph: ids, and for each the arcs from it and to it -/
structure Pl where
  ids : List Int
  out : List (List (Int × Nat))
  inn : List (List (Int × Nat))

/-- they lie in no block in common -/
def ApartS (a b : Value) : Prop := ∀ k, a.ownBlock = some k → b.ownBlock ≠ some k
theorem ApartS.symm {a b : Value} (h : ApartS a b) : ApartS b a := fun k hb ha => h k ha hb

/-- two tables of rows of arcs, no two rows in one block -/
structure Rows2 (w : World) (base : Nat) (A B : List (List (Int × Nat))) (ra rb : List Value) (va vb : Value) : Prop where
  a : w.ownsRow base 74 1 va ra.length ra
  b : w.ownsRow base 74 1 vb rb.length rb
  la : ra.length = A.length
  lb : rb.length = B.length
  rowA : ∀ i (h : i < ra.length), w.ownsRow base 90 2 ra[i] (A.getD i []).length (fl (A.getD i []))
  rowB : ∀ i (h : i < rb.length), w.ownsRow base 90 2 rb[i] (B.getD i []).length (fl (B.getD i []))
  sepT : ApartS va vb
  sepA : ∀ i j (h : i < ra.length) (h' : j < ra.length), i ≠ j → ApartS ra[i] ra[j]
  sepB : ∀ i j (h : i < rb.length) (h' : j < rb.length), i ≠ j → ApartS rb[i] rb[j]
  sepAB : ∀ i j (h : i < ra.length) (h' : j < rb.length), ApartS ra[i] rb[j]

theorem Rows2.symm {w : World} {base : Nat} {A B : List (List (Int × Nat))} {ra rb : List Value} {va vb : Value} (h : Rows2 w base A B ra rb va vb) : Rows2 w base B A rb ra vb va :=
  ⟨h.b, h.a, h.lb, h.la, h.rowB, h.rowA, h.sepT.symm, h.sepB, h.sepA, fun i j hi hj => (h.sepAB j i hj hi).symm⟩

structure PlAt (w : World) (base bp : Nat) (p : Pl) (ro ri : List Value) (vi vo vn : Value) : Prop where
  blk : w.heap[bp]? = some (.cells #[vi, vo, vn] 63 (0, 0))
  hb : base ≤ bp
  ids : w.ownsRow base 2 1 vi p.ids.length (nums .i64 p.ids)
  rows : Rows2 w base p.out p.inn ro ri vo vn
  po : p.out.length = p.ids.length
  pi : p.inn.length = p.ids.length

theorem own_of_heap {w w1 : World} {base : Nat} {e : TypeId} {size n : Nat} {v : Value} {xs : List Value} (h : w.ownsRow base e size v n xs) (hk : ∀ k, v.ownBlock = some k → w1.heap[k]? = w.heap[k]?) : w1.ownsRow base e size v n xs := own_move h hk

/-- a row of one-cell elements, one element stored -/
theorem own_put {w : World} {base g cap n : Nat} {e : TypeId} {xs : List Value} (h : w.ownsRow base e 1 (.slice (some ⟨g, 0, none⟩) n cap) n xs) (i : Nat) (v : Value) :
    (w.setCell ⟨g, i, none⟩ v).ownsRow base e 1 (.slice (some ⟨g, 0, none⟩) n cap) n (xs.set i v) := by
  rcases h.2 with ⟨hn, _⟩ | ⟨g', cap', cur, hv, hb1, hg, hc1, hc2, hcs, htk⟩
  · cases hn
  · injection hv with e1 _ e3
    injection e1 with e1
    injection e1 with e1
    subst e1 e3
    refine ⟨by simpa using h.1, .inr ⟨g, cap, cur.setIfInBounds i v, rfl, hb1, blk_set hg _ _, hc1, hc2, by simpa using hcs, ?_⟩⟩
    rw [Array.toList_setIfInBounds, List.take_set, htk]

theorem own_block {w : World} {base : Nat} {e : TypeId} {size n : Nat} {v : Value} {xs : List Value} (h : w.ownsRow base e size v n xs) {k : Nat} (hk : v.ownBlock = some k) : ∃ cells, w.heap[k]? = some (.cells cells e (0, 0)) := own_typed h k hk

theorem blk_type {w : World} {k : Nat} {c c' : Array Value} {e e' : TypeId} (h : w.heap[k]? = some (.cells c e (0,0))) (h' : w.heap[k]? = some (.cells c' e' (0,0))) : e = e' := by
  rw [h] at h'
  injection h' with h'
  injection h' with _ h'

/-- what stays when row i of a table is written anew and its header stored -/
theorem put_keep {w w1 : World} {base : Nat} {A B : List (List (Int × Nat))} {ra rb : List Value} {vb : Value} {g cap : Nat} (h : Rows2 w base A B ra rb (.slice (some ⟨g, 0, none⟩) ra.length cap) vb) (i : Nat) (hi : i < ra.length)
    (v' : Value) (hg : w.grownBy w1 ra[i].ownBlock) {k : Nat} {c : Array Value} {e : TypeId} (hk : w.heap[k]? = some (.cells c e (0,0))) (he : e ≠ 90) (he2 : e ≠ 74) : (w1.setCell ⟨g, i, none⟩ v').heap[k]? = w.heap[k]? := by
  obtain ⟨cg, hcg⟩ := own_block h.a (k := g) rfl
  rw [Below.heap_setCell _ _ _ _ (by rintro rfl; exact he2 (blk_type hk hcg))]
  refine hg.block _ (blk_lt hk) (fun hc => ?_)
  obtain ⟨c', hc'⟩ := own_block (h.rowA i hi) hc.symm
  exact he (blk_type hk hc')

theorem Rows2.put {w w1 : World} {base : Nat} {A B : List (List (Int × Nat))} {ra rb : List Value} {vb : Value} {g cap : Nat} (h : Rows2 w base A B ra rb (.slice (some ⟨g, 0, none⟩) ra.length cap) vb) (i : Nat) (hi : i < ra.length)
    (v' : Value) (l' : List (Int × Nat)) (hg : w.grownBy w1 ra[i].ownBlock) (hown : w1.ownsRow base 90 2 v' l'.length (fl l')) (hat : v'.ownBlock = ra[i].ownBlock ∨ ∃ b, v'.ownBlock = some b ∧ w.heap.size ≤ b) :
    Rows2 (w1.setCell ⟨g, i, none⟩ v') base (A.set i l') B (ra.set i v') rb (.slice (some ⟨g, 0, none⟩) (ra.set i v').length cap) vb := by
  obtain ⟨cg, hcg⟩ := own_block h.a (k := g) rfl
  have keep1 : ∀ {k : Nat} {c : Array Value} {e : TypeId}, w.heap[k]? = some (.cells c e (0,0)) → e ≠ 90 → w1.heap[k]? = w.heap[k]? := fun {k c e} hk he => hg.block _ (blk_lt hk) (fun hc => by
    obtain ⟨c', hc'⟩ := own_block (h.rowA i hi) hc.symm
    exact he (blk_type hk hc'))
  have keepR : ∀ {b : Value} {n : Nat} {xs : List Value}, w.ownsRow base 90 2 b n xs → ApartS b ra[i] → (w1.setCell ⟨g, i, none⟩ v').ownsRow base 90 2 b n xs := by
    intro b n xs hb ha
    refine own_of_heap hb (fun k hk => ?_)
    obtain ⟨c, hc⟩ := own_block hb hk
    rw [Below.heap_setCell _ _ _ _ (by rintro rfl; exact absurd (blk_type hc hcg) (by decide))]
    exact hg.block _ (blk_lt hc) (fun e => ha k hk e.symm)
  have hlen : (ra.set i v').length = ra.length := by simp
  have hnew : ∀ {b : Value} {n : Nat} {xs : List Value}, w.ownsRow base 90 2 b n xs → ApartS b ra[i] → ApartS b v' := by
    intro b n xs hb ha k hk e
    rcases hat with h2 | ⟨c, h2, h3⟩
    · exact ha k hk (by rw [← h2, e])
    · have := own_lt hb k hk
      rw [h2] at e
      injection e with e
      omega
  have hT : ∀ k, vb.ownBlock = some k → k ≠ g := by
    rintro k hk rfl
    exact h.sepT k rfl hk
  refine ⟨?_, own_of_heap h.b (fun k hk => ?_), by simpa using h.la, h.lb, ?_, ?_, ?_, ?_, h.sepB, ?_⟩
  · rw [hlen]
    refine own_put (own_of_heap h.a (fun k hk => ?_)) i v'
    obtain ⟨c, hc⟩ := own_block h.a hk; exact keep1 hc (by decide)
  · obtain ⟨c, hc⟩ := own_block h.b hk
    rw [Below.heap_setCell _ _ _ _ (hT k hk)]
    exact keep1 hc (by decide)
  · intro j hj
    rw [hlen] at hj
    rw [List.getD_eq_getElem?_getD, List.getElem?_set]
    by_cases hji : j = i
    · subst hji
      have : j < A.length := by rw [← h.la]; exact hi
      rw [if_pos rfl, if_pos this]
      simp only [List.getElem_set_self, Option.getD_some]
      refine own_of_heap hown (fun k hk => ?_)
      obtain ⟨c, hc⟩ := own_block hown hk
      have hg1 : w1.heap[g]? = some (.cells cg 74 (0,0)) := (keep1 hcg (by decide)).trans hcg
      rw [Below.heap_setCell _ _ _ _ (by rintro rfl; exact absurd (blk_type hc hg1) (by decide))]
    · rw [if_neg (Ne.symm hji), List.getElem_set_ne (Ne.symm hji), ← List.getD_eq_getElem?_getD]
      exact keepR (h.rowA j hj) (h.sepA j i hj hi hji)
  · intro j hj
    exact keepR (h.rowB j hj) (h.sepAB i j hi hj).symm
  · intro k hk e
    exact h.sepT k (by simpa [Value.ownBlock] using hk) e
  · intro j j' hj hj' hne
    rw [hlen] at hj hj'
    rw [List.getElem_set, List.getElem_set]
    by_cases h1 : i = j
    · rw [if_pos h1, if_neg (by omega)]
      exact (hnew (h.rowA j' hj') (h.sepA j' i hj' hi (by omega))).symm
    · rw [if_neg h1]
      by_cases h2 : i = j'
      · rw [if_pos h2]; exact hnew (h.rowA j hj) (h.sepA j i hj hi (by omega))
      · rw [if_neg h2]; exact h.sepA j j' hj hj' hne
  · intro j j' hj hj'
    rw [hlen] at hj
    rw [List.getElem_set]
    by_cases h1 : i = j
    · rw [if_pos h1]; exact (hnew (h.rowB j' hj') (h.sepAB i j' hi hj').symm).symm
    · rw [if_neg h1]; exact h.sepAB j j' hj hj'

theorem PlAt.put_out {w w1 : World} {base bp : Nat} {p : Pl} {ro ri : List Value} {vi vn : Value} {g cap : Nat} (h : PlAt w base bp p ro ri vi (.slice (some ⟨g, 0, none⟩) ro.length cap) vn) (i : Nat) (hi : i < ro.length)
    (v' : Value) (l' : List (Int × Nat)) (hg : w.grownBy w1 ro[i].ownBlock) (hown : w1.ownsRow base 90 2 v' l'.length (fl l')) (hat : v'.ownBlock = ro[i].ownBlock ∨ ∃ b, v'.ownBlock = some b ∧ w.heap.size ≤ b) :
    PlAt (w1.setCell ⟨g, i, none⟩ v') base bp { p with out := p.out.set i l' } (ro.set i v') ri vi (.slice (some ⟨g, 0, none⟩) (ro.set i v').length cap) vn := by
  refine ⟨?_, h.hb, own_of_heap h.ids (fun k hk => ?_), h.rows.put i hi v' l' hg hown hat, by simpa using h.po, h.pi⟩
  · rw [put_keep h.rows i hi v' hg h.blk (by decide) (by decide), List.length_set]; exact h.blk
  · obtain ⟨c, hc⟩ := own_block h.ids hk; exact put_keep h.rows i hi v' hg hc (by decide) (by decide)

theorem PlAt.put_inn {w w1 : World} {base bp : Nat} {p : Pl} {ro ri : List Value} {vi vo : Value} {g cap : Nat} (h : PlAt w base bp p ro ri vi vo (.slice (some ⟨g, 0, none⟩) ri.length cap)) (i : Nat) (hi : i < ri.length)
    (v' : Value) (l' : List (Int × Nat)) (hg : w.grownBy w1 ri[i].ownBlock) (hown : w1.ownsRow base 90 2 v' l'.length (fl l')) (hat : v'.ownBlock = ri[i].ownBlock ∨ ∃ b, v'.ownBlock = some b ∧ w.heap.size ≤ b) :
    PlAt (w1.setCell ⟨g, i, none⟩ v') base bp { p with inn := p.inn.set i l' } ro (ri.set i v') vi vo (.slice (some ⟨g, 0, none⟩) (ri.set i v').length cap) := by
  refine ⟨?_, h.hb, own_of_heap h.ids (fun k hk => ?_), (h.rows.symm.put i hi v' l' hg hown hat).symm, h.po, by simpa using h.pi⟩
  · rw [put_keep h.rows.symm i hi v' hg h.blk (by decide) (by decide), List.length_set]; exact h.blk
  · obtain ⟨c, hc⟩ := own_block h.ids hk; exact put_keep h.rows.symm i hi v' hg hc (by decide) (by decide)
end Go.Proofs.Ytlokbaljkmblaaa
