import Derived.Test.YtfkmpnpliadohaaGreatFT0
import Derived.WalkSpells
import Derived.WalkLawsBesides
import Derived.Lib.Hide
import Derived.Lib.SliceRun
/- Numbers ascending. -/
namespace Go.Lab
/-- numbers ascending -/
def srt (xs : List Int) : List Int := xs.mergeSort fun x y => decide (x ≤ y)
theorem srt_length (xs : List Int) : (srt xs).length = xs.length := List.length_mergeSort _
theorem srt_perm (xs : List Int) : (srt xs).Perm xs := List.mergeSort_perm _ _
theorem srt_le (xs : List Int) : (srt xs).Pairwise (· ≤ ·) := by
  have h := List.pairwise_mergeSort (le := fun x y : Int => decide (x ≤ y)) (fun a b c h1 h2 => by simp at *; omega) (fun a b => by simp; omega) xs
  exact h.imp (fun h => by simpa using h)
theorem mem_srt (xs : List Int) (x : Int) : x ∈ srt xs ↔ x ∈ xs := (srt_perm xs).mem_iff
theorem srt_lt {xs : List Int} (h : xs.Nodup) : (srt xs).Pairwise (· < ·) := by
  have h1 : (srt xs).Nodup := (srt_perm xs).nodup_iff.2 h
  have h2 := srt_le xs
  rw [List.pairwise_iff_getElem] at h2 ⊢
  intro i j hi hj hij
  have h3 := h2 i j hi hj hij
  have h4 : (srt xs)[i] ≠ (srt xs)[j] := fun e => by
    have := (List.pairwise_iff_getElem.1 h1) i j hi hj hij
    exact this e
  omega
theorem srt_nodup {xs : List Int} (h : (srt xs).Pairwise (· < ·)) : xs.Nodup := by
  refine (srt_perm xs).nodup_iff.1 (h.imp (fun h => ?_))
  omega
end Go.Lab

set_option linter.unusedVariables false
set_option linter.unusedSimpArgs false
namespace Go.Proofs.YtfkmpnpliadohaaGreat.Q
open Go.RowKit Go.Lab Go.Proofs.YtfkmpnpliadohaaGreatW.PrintWords Go.Proofs.YtfkmpnpliadohaaGreatW.PrintLast Go.Proofs.YtfkmpnpliadohaaGreatW.PrintMore

theorem Tryz.info2 : (Tryz.prog.info? 2).map (fun i => (i.zero, i.size, i.bytes)) = some (some (.int .i64 0), 1, 8) := by kernel_rfl
theorem Tryz.info3 : (Tryz.prog.info? 3).map (fun i => (i.zero, i.size, i.bytes)) = some (some (.int .i64 0), 1, 8) := by kernel_rfl

/-- cells of a read slice of ints -/
theorem C_int_cells {w : World} {A : Option Addr} {n : Nat} {xs : List Int} {k : IntKind} (h : Kd.C (Kd.int k) w A n xs) {ad : Addr} (hA : A = some ad) :
    ∀ j u, (nums k xs)[j]? = some u → w.cell? (ad.add j) = some u := by
  intro j u hu
  obtain ⟨hl, _, hc⟩ := h
  have hj : j < xs.length := by
    rcases Nat.lt_or_ge j xs.length with h | h
    · exact h
    · rw [List.getElem?_eq_none (by rw [nums_length]; exact h)] at hu; cases hu
  obtain ⟨ad', e, hc⟩ := hc (by omega)
  rw [hA] at e; cases e
  obtain ⟨c, _, hr, hcell⟩ := hc j _ (List.getElem?_eq_getElem hj)
  have hr' : c = [.int k xs[j]] := hr
  subst hr'
  have := hcell 0 (.int k xs[j]) rfl
  simp only [nums, List.getElem?_map, List.getElem?_eq_getElem hj, Option.map_some, Option.some.injEq] at hu
  subst hu
  have hs : (Kd.int k).sz = 1 := rfl
  rw [hs] at this
  simpa using this

theorem C_int_at {w : World} {A : Option Addr} {n : Nat} {xs : List Int} {k : IntKind} (h : Kd.C (Kd.int k) w A n xs) (i : Nat) (hi : i < n) : ∃ ad, A = some ad ∧ w.cell? (ad.add i) = some (.int k (xs.getD i 0)) := by
  obtain ⟨ad, e, hc⟩ := Kd.at_int h i (by omega) (by omega)
  exact ⟨ad, e, by simpa [rd] using hc⟩

theorem Below.up {B : Nat} {w W w' : World} (h : Below B w W) (k : Below W.heap.size W w') (hB : B ≤ w.heap.size) : Below B w w' := h.trans (k.mono (Nat.le_trans hB h.size))

theorem own_of_heap {w w1 : World} {base : Nat} {e : TypeId} {size n : Nat} {v : Value} {xs : List Value} (h : w.ownsRow base e size v n xs) (hk : ∀ k, v.ownBlock = some k → w1.heap[k]? = w.heap[k]?) : w1.ownsRow base e size v n xs := own_move h hk

theorem own_block {w : World} {base : Nat} {e : TypeId} {size n : Nat} {v : Value} {xs : List Value} (h : w.ownsRow base e size v n xs) {k : Nat} (hk : v.ownBlock = some k) : ∃ cells, w.heap[k]? = some (.cells cells e (0, 0)) := own_typed h k hk

theorem blk_type {w : World} {k : Nat} {c c' : Array Value} {e e' : TypeId} (h : w.heap[k]? = some (.cells c e (0,0))) (h' : w.heap[k]? = some (.cells c' e' (0,0))) : e = e' := by
  rw [h] at h'
  injection h' with h'
  injection h' with _ h'

end Go.Proofs.YtfkmpnpliadohaaGreat.Q

set_option linter.unusedVariables false
set_option linter.unusedSimpArgs false
/- The contract of slices.Clone at int, in the printed contracts' form. -/
namespace Go.Proofs.YtfkmpnpliadohaaGreat.Q
open Go.RowKit Go.Lab Go.Proofs.YtfkmpnpliadohaaGreatW.PrintWords Go.Proofs.YtfkmpnpliadohaaGreatW.PrintLast Go.Proofs.YtfkmpnpliadohaaGreatW.PrintMore

end Go.Proofs.YtfkmpnpliadohaaGreat.Q
namespace Go.Proofs.YtfkmpnpliadohaaGreat.PL
open Go.RowKit Go.Lab Go.Proofs.YtfkmpnpliadohaaGreatW.PrintWords Go.Proofs.YtfkmpnpliadohaaGreatW.PrintLast Go.Proofs.YtfkmpnpliadohaaGreatW.PrintMore Go.Proofs.YtfkmpnpliadohaaGreat.Q
end Go.Proofs.YtfkmpnpliadohaaGreat.PL

set_option linter.unusedVariables false
set_option linter.unusedSimpArgs false
namespace Go.Proofs.YtfkmpnpliadohaaGreat.Q
open Go.RowKit Go.Lab Go.Proofs.YtfkmpnpliadohaaGreatW.PrintWords Go.Proofs.YtfkmpnpliadohaaGreatW.PrintLast Go.Proofs.YtfkmpnpliadohaaGreatW.PrintMore PL

/-- they lie in no block in common -/
def ApartS (a b : Value) : Prop := ∀ k, a.ownBlock = some k → b.ownBlock ≠ some k
theorem ApartS.symm {a b : Value} (h : ApartS a b) : ApartS b a := fun k hb ha => h k ha hb

/-- a row of one-cell elements, one element stored -/
theorem own_put1 {w : World} {base g cap n : Nat} {e : TypeId} {xs : List Value} (h : w.ownsRow base e 1 (.slice (some ⟨g, 0, none⟩) n cap) n xs) (i : Nat) (v : Value) :
    (w.setCell ⟨g, i, none⟩ v).ownsRow base e 1 (.slice (some ⟨g, 0, none⟩) n cap) n (xs.set i v) := by
  rcases h.2 with ⟨hn, _⟩ | ⟨g', cap', cur, hv, hb1, hg, hc1, hc2, hcs, htk⟩
  · cases hn
  · injection hv with e1 _ e3
    injection e1 with e1
    injection e1 with e1
    subst e1 e3
    refine ⟨by simpa using h.1, .inr ⟨g, cap, cur.setIfInBounds i v, rfl, hb1, blk_set hg _ _, hc1, hc2, by simpa using hcs, ?_⟩⟩
    rw [Array.toList_setIfInBounds, List.take_set, htk]

/-- a table: rows of one-cell values, no two in one block -/
structure Tb (w : World) (base : Nat) (eo ei : TypeId) (T : List (List Value)) (rs : List Value) (v : Value) : Prop where
  o : w.ownsRow base eo 1 v rs.length rs
  l : rs.length = T.length
  row : ∀ i (h : i < rs.length), w.ownsRow base ei 1 rs[i] (T.getD i []).length (T.getD i [])
  sep : ∀ i j (h : i < rs.length) (h' : j < rs.length), i ≠ j → ApartS rs[i] rs[j]

theorem Tb.nil (w : World) (base : Nat) (eo ei : TypeId) : Tb w base eo ei [] [] (.slice none 0 0) :=
  ⟨World.ownsRow_nil _ _ _ _, rfl, fun i h => by simp at h, fun i j h => by simp at h⟩

theorem Tb.move {w w1 : World} {base : Nat} {eo ei : TypeId} {T : List (List Value)} {rs : List Value} {v : Value} (h : Tb w base eo ei T rs v)
    (hm : ∀ (k : Nat) (c : Array Value) (t : TypeId), w.heap[k]? = some (Obj.cells c t (0, 0)) → t = eo ∨ t = ei → w1.heap[k]? = w.heap[k]?) : Tb w1 base eo ei T rs v := by
  refine ⟨own_of_heap h.o (fun k hk => ?_), h.l, fun i hi => own_of_heap (h.row i hi) (fun k hk => ?_), h.sep⟩
  · obtain ⟨c, hc⟩ := own_block h.o hk; exact hm k c eo hc (.inl rfl)
  · obtain ⟨c, hc⟩ := own_block (h.row i hi) hk; exact hm k c ei hc (.inr rfl)

theorem Tb.below {w w1 : World} {base : Nat} {eo ei : TypeId} {T : List (List Value)} {rs : List Value} {v : Value} (h : Tb w base eo ei T rs v) (hb : Below w.heap.size w w1) : Tb w1 base eo ei T rs v :=
  h.move (fun k _ _ hk _ => hb.block k (blk_lt hk))

theorem Tb.push {w w1 : World} {base : Nat} {eo ei : TypeId} {T : List (List Value)} {rs : List Value} {v v' r : Value} {row : List Value} (h : Tb w base eo ei T rs v) (hne : eo ≠ ei)
    (hr : w.ownsRow base ei 1 r row.length row) (hf : ∀ i (hi : i < rs.length), ApartS rs[i] r) (hown : w1.ownsRow base eo 1 v' (rs.length + 1) (rs ++ [r])) (hg : w.grownBy w1 v.ownBlock) : Tb w1 base eo ei (T ++ [row]) (rs ++ [r]) v' := by
  have hk : ∀ {x : Value} {n : Nat} {xs : List Value}, w.ownsRow base ei 1 x n xs → w1.ownsRow base ei 1 x n xs := by
    intro x n xs hx
    refine own_of_heap hx (fun k hk => ?_)
    obtain ⟨c, hc⟩ := own_block hx hk
    refine hg.block k (blk_lt hc) (fun e => ?_)
    obtain ⟨c', hc'⟩ := own_block h.o e.symm
    exact hne (blk_type hc' hc)
  refine ⟨by rw [List.length_append]; exact hown, by rw [List.length_append, List.length_append, h.l]; rfl, fun i hi => ?_, fun i j hi hj hij => ?_⟩
  · rw [List.length_append] at hi
    by_cases h1 : i < rs.length
    · rw [List.getElem_append_left h1, List.getD_eq_getElem?_getD, List.getElem?_append_left (by rw [← h.l]; exact h1), ← List.getD_eq_getElem?_getD]
      exact hk (h.row i h1)
    · have h2 : i = rs.length := by simp at hi; omega
      subst h2
      rw [List.getElem_append_right (Nat.le_refl _), List.getD_eq_getElem?_getD, List.getElem?_append_right (by rw [h.l]; exact Nat.le_refl _)]
      simp only [Nat.sub_self, List.getElem_cons_zero, h.l, List.getElem?_cons_zero, Option.getD_some]
      exact hk hr
  · rw [List.length_append] at hi hj
    by_cases h1 : i < rs.length <;> by_cases h2 : j < rs.length
    · rw [List.getElem_append_left h1, List.getElem_append_left h2]; exact h.sep i j h1 h2 hij
    · rw [List.getElem_append_left h1, List.getElem_append_right (by omega)]
      simpa using hf i h1
    · rw [List.getElem_append_right (by omega), List.getElem_append_left h2]
      simpa using (hf j h2).symm
    · simp at hi hj; omega

theorem Tb.put {w : World} {base : Nat} {eo ei : TypeId} {T : List (List Value)} {rs : List Value} {v : Value} (h : Tb w base eo ei T rs v) (hne : eo ≠ ei) (i : Nat) (hi : i < rs.length) {g n c : Nat} (hr : rs[i] = .slice (some ⟨g, 0, none⟩) n c) (j : Nat) (x : Value) :
    Tb (w.setCell ⟨g, j, none⟩ x) base eo ei (T.set i ((T.getD i []).set j x)) rs v := by
  have hrow := h.row i hi
  rw [hr] at hrow
  have hn : n = (T.getD i []).length := by
    obtain ⟨A, c', he⟩ := own_slice hrow
    injection he with _ e2 _
  subst hn
  obtain ⟨cg, hcg⟩ := own_block hrow (k := g) rfl
  refine ⟨own_of_heap h.o (fun k hk => ?_), by rw [List.length_set]; exact h.l, fun m hm => ?_, h.sep⟩
  · obtain ⟨c, hc⟩ := own_block h.o hk
    exact Below.heap_setCell _ _ _ _ (by rintro rfl; exact hne (blk_type hc hcg))
  · rw [List.getD_eq_getElem?_getD, List.getElem?_set]
    by_cases hmi : i = m
    · subst hmi
      rw [if_pos rfl, if_pos (by rw [← h.l]; exact hi), Option.getD_some, hr, List.length_set]
      exact own_put1 hrow j x
    · rw [if_neg hmi, ← List.getD_eq_getElem?_getD]
      refine own_of_heap (h.row m hm) (fun k hk => Below.heap_setCell _ _ _ _ ?_)
      intro e
      exact h.sep i m hi hm hmi k (by rw [hr, e]; rfl) hk

/-- the cell of a row -/
theorem Tb.cell {w : World} {base : Nat} {eo ei : TypeId} {T : List (List Value)} {rs : List Value} {v : Value} (h : Tb w base eo ei T rs v) (i : Nat) (hi : i < rs.length) :
    ∃ g cap, v = .slice (some ⟨g, 0, none⟩) rs.length cap ∧ w.cell? ⟨g, i, none⟩ = some rs[i] := by
  obtain ⟨g, cap, hv, hgb, hgl⟩ := h.o.form (by omega)
  refine ⟨g, cap, hv, ?_⟩
  subst hv
  have h1 := h.o.cells (g := g) rfl i rs[i] (List.getElem?_eq_getElem hi)
  rw [add_plain] at h1
  exact h1

theorem Tb.rowCell {w : World} {base : Nat} {eo ei : TypeId} {T : List (List Value)} {rs : List Value} {v : Value} (h : Tb w base eo ei T rs v) (i : Nat) (hi : i < rs.length) (j : Nat) (hj : j < (T.getD i []).length) :
    ∃ g cap, rs[i] = .slice (some ⟨g, 0, none⟩) (T.getD i []).length cap ∧ base ≤ g ∧ g < w.heap.size ∧ w.heap[g]?.isSome ∧ w.cell? ⟨g, j, none⟩ = some (T.getD i [])[j] ∧ w.frozen? ⟨g, j, none⟩ = false := by
  have hr := h.row i hi
  obtain ⟨g, cap, hv, hgb, hgl⟩ := hr.form (by omega)
  refine ⟨g, cap, hv, hgb, hgl, by rw [Array.getElem?_eq_getElem hgl]; rfl, ?_, ?_⟩
  · have h1 := hr.cells (g := g) (by rw [hv]; rfl) j (T.getD i [])[j] (List.getElem?_eq_getElem hj)
    rw [add_plain] at h1
    exact h1
  · obtain ⟨c, hc⟩ := own_block hr (k := g) (by rw [hv]; rfl)
    exact blk_frozen hc _
end Go.Proofs.YtfkmpnpliadohaaGreat.Q

set_option linter.unusedVariables false
set_option linter.unusedSimpArgs false
namespace Go.Proofs.YtfkmpnpliadohaaGreat.Q
open Go.RowKit Go.Lab Go.Proofs.YtfkmpnpliadohaaGreatW.PrintWords Go.Proofs.YtfkmpnpliadohaaGreatW.PrintLast Go.Proofs.YtfkmpnpliadohaaGreatW.PrintMore PL

def nilT : Array Value := #[.slice none 0 0, .slice none 0 0, .slice none 0 0]

/-- tableOf's table in the making -/
structure Ts (w wr : World) (tb : Nat) (gv : Array Value) (vn : Value) (ids : List Int) (TA TW : List (List Value)) (ra rw : List Value) (va vw : Value) : Prop where
  blk : wr.heap[tb]? = some (.cells #[vn, va, vw] 33 (0, 0))
  g : wr.heap[w.heap.size]? = some (.cells gv 25 (0, 0))
  res : wr.heap[w.heap.size + 1]? = some (.cells nilT 33 (0, 0))
  hb : w.heap.size + 1 < tb
  n : wr.ownsRow w.heap.size 3 1 vn ids.length (nums .i64 ids)
  A : Tb wr w.heap.size 35 4 TA ra va
  W : Tb wr w.heap.size 22 3 TW rw vw
  sn : ∀ i (h : i < rw.length), ApartS vn rw[i]
  bel : Below w.heap.size w wr

section
variable {w wr w1 : World} {tb : Nat} {gv : Array Value} {vn : Value} {ids : List Int} {TA TW : List (List Value)} {ra rw : List Value} {va vw : Value}

theorem Ts.below (h : Ts w wr tb gv vn ids TA TW ra rw va vw) (hb : Below wr.heap.size wr w1) : Ts w w1 tb gv vn ids TA TW ra rw va vw :=
  ⟨(hb.block _ (blk_lt h.blk)).trans h.blk, (hb.block _ (blk_lt h.g)).trans h.g, (hb.block _ (blk_lt h.res)).trans h.res, h.hb, pw_own_below h.n hb, h.A.below hb, h.W.below hb, h.sn, h.bel.trans (hb.mono h.bel.size)⟩

theorem Ts.setA (h : Ts w wr tb gv vn ids TA TW ra rw va vw) (i : Nat) (hi : i < ra.length) {g n c : Nat} (hr : ra[i] = .slice (some ⟨g, 0, none⟩) n c) (j : Nat) (x : Value) : Ts w (wr.setCell ⟨g, j, none⟩ x) tb gv vn ids (TA.set i ((TA.getD i []).set j x)) TW ra rw va vw := by
  have hrow := h.A.row i hi
  rw [hr] at hrow
  obtain ⟨cg, hcg⟩ := own_block hrow (k := g) rfl
  have hgb := own_base hrow g rfl
  have hs : ∀ {k : Nat} {c : Array Value} {t : TypeId}, wr.heap[k]? = some (.cells c t (0,0)) → t ≠ 4 → (wr.setCell ⟨g, j, none⟩ x).heap[k]? = wr.heap[k]? := by
    intro k c t hk ht
    exact Below.heap_setCell _ _ _ _ (by rintro rfl; exact ht (blk_type hk hcg))
  refine ⟨(hs h.blk (by decide)).trans h.blk, (hs h.g (by decide)).trans h.g, (hs h.res (by decide)).trans h.res, h.hb, ?_, h.A.put (by decide) i hi hr j x, ?_, h.sn, h.bel.setCell hgb _⟩
  · refine own_of_heap h.n (fun k hk => ?_)
    obtain ⟨c, hc⟩ := own_block h.n hk; exact hs hc (by decide)
  · exact h.W.move (fun k c t hk ht => hs hk (by rcases ht with rfl | rfl <;> decide))

end
end Go.Proofs.YtfkmpnpliadohaaGreat.Q
