import Derived.Test.YtfkmpnpliadohaaGreatDT5
import Derived.Test.YtfkmpnpliadohaaGreatDB3
import Derived.Test.YtfkmpnpliadohaaGreatDB6
set_option linter.unusedVariables false
set_option linter.unusedSimpArgs false
set_option linter.unusedVariables false
set_option linter.unusedSimpArgs false
/- Plain laws: tables, ascending lists, equal graphs. -/
namespace Go.Proofs.YtfkmpnpliadohaaGreat.R
open Go.RowKit Go.Lab Go.Proofs.YtfkmpnpliadohaaGreatW.PrintWords PL Q

/-! the tables -/
def gt {α : Type} (T : List (List α)) (u v : Nat) (z : α) : α := (T.getD u []).getD v z
def SqG {α : Type} (n : Nat) (T : List (List α)) : Prop := T.length = n ∧ ∀ i, i < n → (T.getD i []).length = n
theorem SqG.put {α : Type} {n : Nat} {T : List (List α)} (h : SqG n T) (u v : Nat) (x : α) : SqG n (putG T u v x) := by
  refine ⟨by unfold putG; rw [List.length_set]; exact h.1, fun i hi => ?_⟩
  unfold putG
  rw [List.getD_eq_getElem?_getD, List.getElem?_set]
  by_cases hu : u = i
  · subst hu
    rw [if_pos rfl, if_pos (by rw [h.1]; exact hi), Option.getD_some, List.length_set]
    exact h.2 u hi
  · rw [if_neg hu, ← List.getD_eq_getElem?_getD]; exact h.2 i hi
theorem eqI_l0 (l : List Int) (hl : l.length ≤ 100000) : ∀ m i, l.length - i ≤ m → i ≤ l.length → Ev (fun k => slices_Equal_int_int.l0 k l l (l.length : Int) (i : Int)) true
  | 0, i, hm, hi => by
    refine Ev.step (fun k => ?_) (Ev.now _)
    simp only [slices_Equal_int_int.l0]
    rw [if_neg (by omega)]
  | m + 1, i, hm, hi => by
    by_cases hlt : i < l.length
    · have w2 : wrap64 ((i : Int) + 1) = ((i + 1 : Nat) : Int) := by unfold wrap64; omega
      refine Ev.step (fun k => ?_) (eqI_l0 l hl m (i + 1) (by omega) (by omega))
      simp only [slices_Equal_int_int.l0]
      rw [if_pos (by omega), if_pos (by omega), if_pos (by omega), if_pos (by omega), if_pos trivial, w2]
    · refine Ev.step (fun k => ?_) (Ev.now _)
      simp only [slices_Equal_int_int.l0]
      rw [if_neg (by omega)]
theorem eqE_l0 (l : List S38) (hl : l.length ≤ 100000) : ∀ m i, l.length - i ≤ m → i ≤ l.length → Ev (fun k => impl_Edge.l0 k l l (l.length : Int) (i : Int)) true
  | 0, i, hm, hi => by
    refine Ev.step (fun k => ?_) (Ev.now _)
    simp only [impl_Edge.l0]
    rw [if_neg (by omega)]
  | m + 1, i, hm, hi => by
    by_cases hlt : i < l.length
    · have w2 : wrap64 ((i : Int) + 1) = ((i + 1 : Nat) : Int) := by unfold wrap64; omega
      refine Ev.step (fun k => ?_) (eqE_l0 l hl m (i + 1) (by omega) (by omega))
      simp only [impl_Edge.l0]
      rw [if_pos (by omega), if_pos (by omega), if_pos (by omega), if_pos (by omega), if_neg (by simp), w2]
    · refine Ev.step (fun k => ?_) (Ev.now _)
      simp only [impl_Edge.l0]
      rw [if_neg (by omega)]
theorem same_ev (d : Bool) (l : List Int) (es : List S38) (hl : l.length ≤ 100000) (he : es.length ≤ 100000) : Ev (fun k => laws_sameGraph.f k d l es d l es) true := by
  have h1 : Ev (fun k => slices_Equal_int_int.f k l l) true := by
    refine Ev.congr (fun k => ?_) (eqI_l0 l hl l.length 0 (by omega) (Nat.zero_le _))
    unfold slices_Equal_int_int.f
    rw [if_pos rfl]; rfl
  have h2 : Ev (fun k => impl_Edge.f k es es) true := by
    refine Ev.congr (fun k => ?_) (eqE_l0 es he es.length 0 (by omega) (Nat.zero_le _))
    unfold impl_Edge.f
    rw [if_pos rfl]; rfl
  refine Ev.congr (fun k => ?_) (Ev.bind h1 (f := fun k t => if t = true then ((impl_Edge.f k es es).bind fun t136 => (some t136)) else (some false)) ?_)
  · unfold laws_sameGraph.f
    rw [if_pos (by simp)]
  · refine Ev.congr (fun k => ?_) (Ev.bind h2 (f := fun _ t => some t) (Ev.now _))
    rw [if_pos rfl]

end Go.Proofs.YtfkmpnpliadohaaGreat.R

set_option linter.unusedVariables false
set_option linter.unusedSimpArgs false
/- Plain laws: which graphs a law takes. -/
namespace Go.Proofs.YtfkmpnpliadohaaGreat.R
open Go.RowKit Go.Lab Go.Proofs.YtfkmpnpliadohaaGreatW.PrintWords PL Q

theorem rdT (es : List S38) (i : Nat) (h : i < es.length) : rd_T38 es (i : Int) = es[i] := by unfold rd_T38; simp [List.getD_eq_getElem?_getD, h]

end Go.Proofs.YtfkmpnpliadohaaGreat.R

set_option linter.unusedVariables false
set_option linter.unusedSimpArgs false
/- Plain laws: the table of a directed graph; the edges without directions, by places. -/
namespace Go.Proofs.YtfkmpnpliadohaaGreat.R
open Go.RowKit Go.Lab Go.Proofs.YtfkmpnpliadohaaGreatW.PrintWords PL Q

/-- the edge between two places, if there is one -/
def cellU (ids : List Int) (es : List S38) (absent how : Int) (i j : Nat) : List S38 :=
  if (arcW es (ids.getD i 0) (ids.getD j 0)).isSome || (arcW es (ids.getD j 0) (ids.getD i 0)).isSome then [⟨ids.getD i 0, ids.getD j 0, undV es absent how (ids.getD i 0) (ids.getD j 0)⟩] else []
def rowU (ids : List Int) (es : List S38) (absent how : Int) (i j : Nat) : List S38 := ((List.range ids.length).drop j).flatMap (cellU ids es absent how i)
def allU (ids : List Int) (es : List S38) (absent how : Int) (i : Nat) : List S38 := ((List.range ids.length).drop i).flatMap (fun i => rowU ids es absent how i (i + 1))

section
variable (ids : List Int) (es : List S38) (absent how : Int)
theorem rowU_step (i j : Nat) (h : j < ids.length) : rowU ids es absent how i j = cellU ids es absent how i j ++ rowU ids es absent how i (j + 1) := by
  unfold rowU
  rw [List.drop_eq_getElem_cons (by simpa using h), List.flatMap_cons]; simp
theorem rowU_end (i j : Nat) (h : ¬ j < ids.length) : rowU ids es absent how i j = [] := by
  unfold rowU
  rw [List.drop_eq_nil_of_le (by simp; omega)]; rfl
theorem allU_step (i : Nat) (h : i < ids.length) : allU ids es absent how i = rowU ids es absent how i (i + 1) ++ allU ids es absent how (i + 1) := by
  unfold allU
  rw [List.drop_eq_getElem_cons (by simpa using h), List.flatMap_cons]; simp
theorem allU_end (i : Nat) (h : ¬ i < ids.length) : allU ids es absent how i = [] := by
  unfold allU
  rw [List.drop_eq_nil_of_le (by simp; omega)]; rfl
end

/-- a row by places is one by nodes -/
theorem rowU_nodes (ids : List Int) (es : List S38) (absent how : Int) (i : Nat) : ∀ m j, ids.length - j ≤ m → rowU ids es absent how i j =
    ((ids.drop j).filter fun v => (arcW es (ids.getD i 0) v).isSome || (arcW es v (ids.getD i 0)).isSome).map fun v => ⟨ids.getD i 0, v, undV es absent how (ids.getD i 0) v⟩
  | 0, j, h => by rw [rowU_end _ _ _ _ _ _ (by omega), List.drop_eq_nil_of_le (by omega)]; rfl
  | m + 1, j, h => by
    by_cases hj : j < ids.length
    · rw [rowU_step _ _ _ _ _ _ hj, rowU_nodes ids es absent how i m (j + 1) (by omega), List.drop_eq_getElem_cons hj, List.filter_cons]
      have hg : ids[j] = ids.getD j 0 := by rw [List.getD_eq_getElem?_getD, List.getElem?_eq_getElem hj]; rfl
      rw [hg]
      unfold cellU
      split <;> simp
    · rw [rowU_end _ _ _ _ _ _ hj, List.drop_eq_nil_of_le (by omega)]; rfl

theorem rowU_seen {zs : List Int} {es : List S38} (hs : (srt zs).Pairwise (· < ·)) (hok : es.all (goodE zs) = true) (absent how : Int) (i : Nat) (hi : i < (srt zs).length) :
    rowU (srt zs) es absent how i (i + 1) = partR (undV es absent how) ((srt zs).getD i 0) (nbs zs es ((srt zs).getD i 0)) := by
  rw [rowU_nodes _ _ _ _ _ _ _ (Nat.le_refl _)]
  unfold partR
  rw [nbs_eq hs]
  congr 1
  have hsplit : srt zs = (srt zs).take (i + 1) ++ (srt zs).drop (i + 1) := (List.take_append_drop _ _).symm
  generalize hu : (srt zs).getD i 0 = u
  have hui : (srt zs)[i] = u := by rw [← hu, List.getD_eq_getElem?_getD, List.getElem?_eq_getElem hi]; rfl
  conv => rhs; rw [hsplit]
  rw [List.filter_append, List.filter_append]
  have h1 : (((srt zs).take (i + 1)).filter fun v => (arcW es u v).isSome || (arcW es v u).isSome).filter (fun v => !decide (v < u)) = [] := by
    rw [List.filter_eq_nil_iff]
    intro v hv
    rw [List.mem_filter, List.mem_take_iff_getElem] at hv
    obtain ⟨⟨j, hj, rfl⟩, h2⟩ := hv
    by_cases hji : j = i
    · subst hji
      rw [hui, arcW_self hok] at h2
      simp at h2
    · have := List.pairwise_iff_getElem.1 hs j i (by omega) hi (by omega)
      rw [hui] at this
      simp [this]
  rw [h1, List.nil_append]
  symm
  rw [List.filter_eq_self]
  intro v hv
  have hv2 := (List.mem_filter.1 hv).1
  obtain ⟨j, hj, rfl⟩ := List.getElem_of_mem hv2
  rw [List.getElem_drop]
  have := List.pairwise_iff_getElem.1 hs i (i + 1 + j) hi (by rw [List.length_drop] at hj; omega) (by omega)
  rw [hui] at this
  simp; omega

theorem allU_seen {zs : List Int} {es : List S38} (hs : (srt zs).Pairwise (· < ·)) (hok : es.all (goodE zs) = true) (absent how : Int) : allU (srt zs) es absent how 0 = undE zs es absent how := by
  suffices h : ∀ m i, (srt zs).length - i ≤ m → allU (srt zs) es absent how i = seenE ((srt zs).drop i) (nbs zs es) (undV es absent how) by
    have := h (srt zs).length 0 (by omega)
    rw [List.drop_zero] at this
    exact this
  intro m
  induction m with
  | zero =>
    intro i hi
    rw [allU_end _ _ _ _ _ (by omega), List.drop_eq_nil_of_le (by omega)]; rfl
  | succ m ih =>
    intro i hi
    by_cases hlt : i < (srt zs).length
    · rw [allU_step _ _ _ _ _ hlt, ih (i + 1) (by omega), rowU_seen hs hok absent how i hlt, List.drop_eq_getElem_cons hlt]
      have hg : (srt zs)[i] = (srt zs).getD i 0 := by rw [List.getD_eq_getElem?_getD, List.getElem?_eq_getElem hlt]; rfl
      rw [hg]
      unfold seenE
      rw [List.flatMap_cons]
      rfl
    · rw [allU_end _ _ _ _ _ hlt, List.drop_eq_nil_of_le (by omega)]; rfl
end Go.Proofs.YtfkmpnpliadohaaGreat.R

set_option linter.unusedVariables false
set_option linter.unusedSimpArgs false
/- The plain law of FnUndirectMerged. -/
namespace Go.Proofs.YtfkmpnpliadohaaGreat.R
open Go.RowKit Go.Lab Go.Proofs.YtfkmpnpliadohaaGreatW.PrintWords PL Q

theorem rdI (r : List Int) (j : Nat) : rd r (j : Int) = r.getD j 0 := by unfold rd; rw [Int.toNat_natCast]

section
variable (zs : List Int) (es : List S38) (absent how : Int) (A : List (List Bool)) (W : List (List Int))

end
end Go.Proofs.YtfkmpnpliadohaaGreat.R

set_option linter.unusedVariables false
set_option linter.unusedSimpArgs false
/- The plain law of FnUndirectMerged: whole. -/
namespace Go.Proofs.YtfkmpnpliadohaaGreat.R
open Go.RowKit Go.Lab Go.Proofs.YtfkmpnpliadohaaGreatW.PrintWords PL Q

theorem cellU_len (ids : List Int) (es : List S38) (absent how : Int) (i j : Nat) : (cellU ids es absent how i j).length ≤ 1 := by unfold cellU; split <;> simp

section
variable (zs : List Int) (es : List S38) (absent how : Int) (A : List (List Bool)) (W : List (List Int))

theorem rowU_len (ids : List Int) (i : Nat) : ∀ m j, ids.length - j ≤ m → (rowU ids es absent how i j).length ≤ ids.length - j
  | 0, j, h => by rw [rowU_end _ _ _ _ _ _ (by omega)]; simp
  | m + 1, j, h => by
    by_cases hj : j < ids.length
    · rw [rowU_step _ _ _ _ _ _ hj, List.length_append]
      have := rowU_len ids i m (j + 1) (by omega)
      have := cellU_len ids es absent how i j
      omega
    · rw [rowU_end _ _ _ _ _ _ hj]; simp

end

theorem undE_len {zs : List Int} {es : List S38} (hs : (srt zs).Pairwise (· < ·)) (hok : es.all (goodE zs) = true) (hz : zs.length ≤ 25) (absent how : Int) : (undE zs es absent how).length ≤ 100000 := by
  rw [← allU_seen hs hok]
  have hl : (srt zs).length ≤ 25 := by rw [srt_length]; exact hz
  suffices h : ∀ m i, (srt zs).length - i ≤ m → (allU (srt zs) es absent how i).length ≤ 25 * ((srt zs).length - i) by
    have := h (srt zs).length 0 (by omega)
    omega
  intro m
  induction m with
  | zero =>
    intro i hi
    rw [allU_end _ _ _ _ _ (by omega)]; simp
  | succ m ih =>
    intro i hi
    by_cases hlt : i < (srt zs).length
    · rw [allU_step _ _ _ _ _ hlt, List.length_append]
      have h1 := rowU_len es absent how (srt zs) i (srt zs).length (i + 1) (by omega)
      have h2 := ih (i + 1) (by omega)
      omega
    · rw [allU_end _ _ _ _ _ hlt]; simp

theorem srt79 : srt [7, 9] = [7, 9] := srt_id (by decide)
theorem und79 : undE [7, 9] [⟨9, 7, 3⟩] 4 0 = [⟨7, 9, 7⟩] := by
  have hs : (srt [7, 9]).Pairwise (· < ·) := by rw [srt79]; decide
  unfold undE seenE seenR
  simp only [nbs_eq hs, srt79]
  rfl
theorem ok79 : uwOk true [7, 9] [⟨9, 7, 3⟩] 4 0 = true := by
  unfold uwOk readOk
  rw [srt79]
  decide

theorem merges_ev : Ev (fun k => laws_merges.f k) true := by
  have hf : impl_UndirectWeighted.f true [7, 9] [⟨9, 7, 3⟩] 4 0 = some (false, [7, 9], [⟨7, 9, 7⟩], false) := by
    unfold impl_UndirectWeighted.f
    rw [if_pos (by decide), if_pos ok79, und79, srt79]
  refine Ev.congr (f := fun k => (laws_sameGraph.f k false [7, 9] [⟨7, 9, 7⟩] false [7, 9] [⟨7, 9, 7⟩]).bind fun t158 => (some t158)) (fun k => ?_) (Ev.bind (same_ev false [7, 9] [⟨7, 9, 7⟩] (by decide) (by decide)) (Ev.now _))
  unfold laws_merges.f
  rw [hf]
  rfl

end Go.Proofs.YtfkmpnpliadohaaGreat.R
