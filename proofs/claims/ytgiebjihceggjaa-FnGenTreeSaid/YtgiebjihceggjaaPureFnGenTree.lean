/- The pure law of FnGenTree: a tree is what its index says, or a refusal. -/
import Derived.Test.YtgiebjihceggjaaV3
import Derived.Test.YtgiebjihceggjaaV4
import Derived.Test.YtgiebjihceggjaaT5
import Derived.Test.YtgiebjihceggjaaT6
set_option linter.unusedVariables false
set_option linter.unusedSimpArgs false
/- The plain law: no program in it. -/
namespace Go.Proofs.Ytgiebjihceggjaa
open PFnGenTree

theorem strict_ext {α : Type} [DecidableEq α] (lt : α → α → Prop) (hi : ∀ x, ¬ lt x x) (ha : ∀ x y, lt x y → ¬ lt y x) {l1 l2 : List α} (h1 : l1.Pairwise lt) (h2 : l2.Pairwise lt) (hm : ∀ x, x ∈ l1 ↔ x ∈ l2) : l1 = l2 := by
  have n1 : l1.Nodup := List.Pairwise.imp (S := (· ≠ ·)) (fun {a b} h e => by subst e; exact hi _ h) h1
  have n2 : l2.Nodup := List.Pairwise.imp (S := (· ≠ ·)) (fun {a b} h e => by subst e; exact hi _ h) h2
  have hp : l1.Perm l2 := (List.perm_ext_iff_of_nodup n1 n2).2 hm
  exact hp.eq_of_pairwise (le := lt) (fun a b _ _ h h' => absurd h' (ha a b h)) h1 h2

theorem mem_treeE (n : Nat) (xs : List Int) (p : Int × Int) : p ∈ treeE n xs ↔ ∃ k, k + 1 < xs.length ∧ p = (xs.getD (k / n) 0, xs.getD (k + 1) 0) := by
  unfold treeE
  rw [List.mem_map]
  constructor
  · rintro ⟨k, hk, rfl⟩
    rw [List.mem_range] at hk
    exact ⟨k, by omega, rfl⟩
  · rintro ⟨k, hk, rfl⟩
    exact ⟨k, List.mem_range.2 (by omega), rfl⟩

theorem getD_mem {xs : List Int} {i : Nat} (h : i < xs.length) : xs.getD i 0 ∈ xs := by
  rw [List.getD_eq_getElem?_getD, List.getElem?_eq_getElem h]; exact List.getElem_mem _

theorem ends_in {n : Nat} {xs : List Int} {p : Int × Int} (h : p ∈ treeE n xs) : p.1 ∈ xs ∧ p.2 ∈ xs := by
  obtain ⟨k, hk, rfl⟩ := (mem_treeE n xs p).1 h
  have := Nat.div_le_self k n
  exact ⟨getD_mem (by omega), getD_mem hk⟩

theorem ends_ne {n : Nat} {xs : List Int} (hn : xs.Nodup) {p : Int × Int} (h : p ∈ treeE n xs) : p.1 ≠ p.2 := by
  obtain ⟨k, hk, rfl⟩ := (mem_treeE n xs p).1 h
  have := Nat.div_le_self k n
  intro he
  have := getD_inj hn (by omega) hk he
  omega

/-- the nodes -/
theorem nodes_eq (n : Nat) (xs : List Int) (hn : xs.Nodup) : cpt (srt (ndT xs ++ endsE (treeE n xs))) = srt xs := by
  refine strict_ext (· < ·) (fun x h => Int.lt_irrefl x h) (fun x y h h' => by omega) (compact_strict _ (srt_le _) _ (Nat.le_refl _)) (srt_lt hn) (fun x => ?_)
  rw [mem_cpt, mem_srt, mem_srt, List.mem_append]
  constructor
  · rintro (h | h)
    · unfold ndT at h
      split at h
      · exact h
      · cases h
    · unfold endsE at h
      obtain ⟨p, hp, hx⟩ := List.mem_flatMap.1 h
      have := ends_in hp
      simp at hx
      rcases hx with rfl | rfl
      · exact this.1
      · exact this.2
  · intro h
    by_cases h1 : xs.length = 1
    · left; unfold ndT; rw [if_pos h1]; exact h
    · right
      obtain ⟨i, hi, rfl⟩ := List.getElem_of_mem h
      unfold endsE
      have hg : ∀ j (hj : j < xs.length), xs.getD j 0 = xs[j] := fun j hj => by rw [List.getD_eq_getElem?_getD, List.getElem?_eq_getElem hj]; rfl
      by_cases h0 : i = 0
      · refine List.mem_flatMap.2 ⟨_, (mem_treeE n xs _).2 ⟨0, by omega, rfl⟩, ?_⟩
        simp only [Nat.zero_div]
        rw [hg 0 (by omega)]
        simp [h0]
      · obtain ⟨k, rfl⟩ : ∃ k, i = k + 1 := ⟨i - 1, by omega⟩
        refine List.mem_flatMap.2 ⟨_, (mem_treeE n xs _).2 ⟨k, hi, rfl⟩, ?_⟩
        rw [hg (k + 1) hi]
        simp

theorem lt3_total (x y : S30) : lt3 x y ∨ x = y ∨ lt3 y x := by
  obtain ⟨a, b, c⟩ := x
  obtain ⟨d, e, f⟩ := y
  unfold lt3
  simp only [S30.mk.injEq]
  omega
theorem lt3_irrefl (x : S30) : ¬ lt3 x x := by unfold lt3; omega
theorem lt3_asymm (x y : S30) (h : lt3 x y) : ¬ lt3 y x := by unfold lt3 at *; omega

theorem srtE_strict (es : List S30) (h : es.Pairwise (· ≠ ·)) : (srtE es).Pairwise lt3 := by
  have hs : (srtE es).Pairwise (fun x y => (!decide (lt3 y x)) = true) := by
    unfold srtE
    refine List.pairwise_mergeSort (le := fun x y : S30 => !decide (lt3 y x)) ?_ ?_ es
    · intro a b c h1 h2
      simp only [Bool.not_eq_true', decide_eq_false_iff_not] at *
      unfold lt3 at *
      omega
    · intro a b
      by_cases hab : lt3 b a
      · have := lt3_asymm _ _ hab
        simp [this]
      · simp [hab]
  have hd : (srtE es).Pairwise (· ≠ ·) := (srtE_perm es).nodup_iff.2 h
  refine (hs.and hd).imp ?_
  rintro a b ⟨h1, h2⟩
  simp only [Bool.not_eq_true', decide_eq_false_iff_not] at h1
  rcases lt3_total a b with h3 | h3 | h3
  · exact h3
  · exact absurd h3 h2
  · exact absurd h3 h1
theorem mem_srtE (es : List S30) (e : S30) : e ∈ srtE es ↔ e ∈ es := (srtE_perm es).mem_iff

/-! the tables -/
def gt {α : Type} (T : List (List α)) (u v : Nat) (z : α) : α := (T.getD u []).getD v z
def SqG {α : Type} (n : Nat) (T : List (List α)) : Prop := T.length = n ∧ ∀ i, i < n → (T.getD i []).length = n
theorem SqG.put {α : Type} {n : Nat} {T : List (List α)} (h : SqG n T) (u v : Nat) (x : α) : SqG n (putG T u v x) := by
  refine ⟨by unfold putG; rw [List.length_set]; exact h.1, fun i hi => ?_⟩
  unfold putG
  rw [List.getD_eq_getElem?_getD, List.getElem?_set]
  by_cases hu : u = i
  · subst hu
    rw [if_pos rfl, if_pos (by rw [h.1]; exact hi), Option.getD_some, List.length_set]
    exact h.2 u hi
  · rw [if_neg hu, ← List.getD_eq_getElem?_getD]; exact h.2 i hi
theorem gt_put {α : Type} {n : Nat} {T : List (List α)} (h : SqG n T) {u v : Nat} (hu : u < n) (hv : v < n) (x z : α) (i j : Nat) : gt (putG T u v x) i j z = if i = u ∧ j = v then x else gt T i j z := by
  unfold gt putG
  rw [List.getD_eq_getElem?_getD (l := T.set u _), List.getElem?_set]
  by_cases h1 : u = i
  · subst h1
    rw [if_pos rfl, if_pos (by rw [h.1]; exact hu), Option.getD_some, List.getD_eq_getElem?_getD, List.getElem?_set]
    by_cases h2 : v = j
    · subst h2
      rw [if_pos rfl, if_pos (by rw [h.2 u hu]; exact hv), if_pos ⟨rfl, rfl⟩]; rfl
    · rw [if_neg h2, if_neg (fun hh => h2 hh.2.symm), ← List.getD_eq_getElem?_getD]
  · rw [if_neg h1, if_neg (fun hh => h1 hh.1.symm), ← List.getD_eq_getElem?_getD]

theorem SqG.rep {α : Type} (n : Nat) (z : α) : SqG n (List.replicate n (List.replicate n z)) := by
  refine ⟨by simp, fun i hi => ?_⟩
  rw [List.getD_eq_getElem?_getD, List.getElem?_replicate, if_pos hi]; simp

/-- which places the edges fill -/
theorem tbA_spec (d : Bool) (ids : List Int) (n : Nat) (es : List S30) (he : ∀ e ∈ es, ids.idxOf e.f0 < n ∧ ids.idxOf e.f1 < n) :
    SqG n (tbA d ids n es) ∧ ∀ i j, gt (tbA d ids n es) i j false = true ↔ ∃ e ∈ es, (ids.idxOf e.f0 = i ∧ ids.idxOf e.f1 = j) ∨ (d = false ∧ ids.idxOf e.f1 = i ∧ ids.idxOf e.f0 = j) := by
  unfold tbA
  suffices h : ∀ (es : List S30) (T : List (List Bool)), SqG n T → (∀ e ∈ es, ids.idxOf e.f0 < n ∧ ids.idxOf e.f1 < n) → SqG n (es.foldl (stA d ids) T) ∧ ∀ i j, gt (es.foldl (stA d ids) T) i j false = true ↔ gt T i j false = true ∨ ∃ e ∈ es, (ids.idxOf e.f0 = i ∧ ids.idxOf e.f1 = j) ∨ (d = false ∧ ids.idxOf e.f1 = i ∧ ids.idxOf e.f0 = j) by
    obtain ⟨h1, h2⟩ := h es _ (SqG.rep n false) he
    refine ⟨h1, fun i j => ?_⟩
    rw [h2]
    have : gt (List.replicate n (List.replicate n false)) i j false = false := by
      unfold gt
      rw [List.getD_eq_getElem?_getD, List.getD_eq_getElem?_getD, List.getElem?_replicate]
      split
      · simp only [Option.getD_some, List.getElem?_replicate]; split <;> rfl
      · rfl
    rw [this]; simp
  intro es
  induction es with
  | nil => intro T hT _; exact ⟨hT, fun i j => by simp⟩
  | cons e es ih =>
    intro T hT he
    have h0 := he e List.mem_cons_self
    have hS : SqG n (stA d ids T e) := by
      unfold stA; split
      · exact hT.put _ _ _
      · exact (hT.put _ _ _).put _ _ _
    obtain ⟨h1, h2⟩ := ih (stA d ids T e) hS (fun e he' => he e (List.mem_cons_of_mem _ he'))
    refine ⟨h1, fun i j => ?_⟩
    rw [List.foldl_cons, h2]
    have h3 : gt (stA d ids T e) i j false = true ↔ gt T i j false = true ∨ ((ids.idxOf e.f0 = i ∧ ids.idxOf e.f1 = j) ∨ (d = false ∧ ids.idxOf e.f1 = i ∧ ids.idxOf e.f0 = j)) := by
      unfold stA
      cases d with
      | true =>
        rw [if_pos rfl, gt_put hT h0.1 h0.2]
        by_cases hc : i = ids.idxOf e.f0 ∧ j = ids.idxOf e.f1
        · rw [if_pos hc]; simp [hc.1, hc.2]
        · rw [if_neg hc]
          constructor
          · exact .inl
          · rintro (h | h | h)
            · exact h
            · exact absurd ⟨h.1.symm, h.2.symm⟩ hc
            · exact absurd h.1 (by decide)
      | false =>
        rw [if_neg (by decide), gt_put (hT.put _ _ _) h0.2 h0.1, gt_put hT h0.1 h0.2]
        by_cases hc : i = ids.idxOf e.f1 ∧ j = ids.idxOf e.f0
        · rw [if_pos hc]; simp [hc.1, hc.2]
        · rw [if_neg hc]
          by_cases hc2 : i = ids.idxOf e.f0 ∧ j = ids.idxOf e.f1
          · rw [if_pos hc2]; simp [hc2.1, hc2.2]
          · rw [if_neg hc2]
            constructor
            · exact .inl
            · rintro (h | h | h)
              · exact h
              · exact absurd ⟨h.1.symm, h.2.symm⟩ hc2
              · exact absurd ⟨h.2.1.symm, h.2.2.symm⟩ hc
    rw [h3]
    simp only [List.mem_cons, exists_eq_or_imp]
    rw [or_assoc]

/-- without weights all weights are 0 -/
theorem tbW_spec (d : Bool) (ids : List Int) (n : Nat) (es : List S30) (he : ∀ e ∈ es, ids.idxOf e.f0 < n ∧ ids.idxOf e.f1 < n) (h0 : ∀ e ∈ es, e.f2 = 0) :
    SqG n (tbW d ids n es) ∧ ∀ i j, gt (tbW d ids n es) i j 0 = 0 := by
  unfold tbW
  suffices h : ∀ (es : List S30) (T : List (List Int)), SqG n T → (∀ i j, gt T i j 0 = 0) → (∀ e ∈ es, ids.idxOf e.f0 < n ∧ ids.idxOf e.f1 < n) → (∀ e ∈ es, e.f2 = 0) → SqG n (es.foldl (stW d ids) T) ∧ ∀ i j, gt (es.foldl (stW d ids) T) i j 0 = 0 by
    refine h es _ (SqG.rep n 0) (fun i j => ?_) he h0
    unfold gt
    rw [List.getD_eq_getElem?_getD, List.getD_eq_getElem?_getD, List.getElem?_replicate]
    split
    · simp only [Option.getD_some, List.getElem?_replicate]; split <;> rfl
    · rfl
  intro es
  induction es with
  | nil => intro T hT hz _ _; exact ⟨hT, hz⟩
  | cons e es ih =>
    intro T hT hz he h0
    have h1 := he e List.mem_cons_self
    have h2 := h0 e List.mem_cons_self
    refine ih (stW d ids T e) ?_ ?_ (fun e he' => he e (List.mem_cons_of_mem _ he')) (fun e he' => h0 e (List.mem_cons_of_mem _ he'))
    · unfold stW; split
      · exact hT.put _ _ _
      · exact (hT.put _ _ _).put _ _ _
    · intro i j
      unfold stW
      split
      · rw [gt_put hT h1.1 h1.2, h2]; split
        · rfl
        · exact hz i j
      · rw [gt_put (hT.put _ _ _) h1.2 h1.1, gt_put hT h1.1 h1.2, h2]
        split
        · rfl
        · split
          · rfl
          · exact hz i j
end Go.Proofs.Ytgiebjihceggjaa

/- laws.plain, reckoned. -/
namespace Go.Proofs.Ytgiebjihceggjaa
open Go.RowKit Go.Proofs.YtgiebjihceggjaaW.PrintWords PFnGenTree

/-- the edge of a place, if it has one -/
def cellE (d : Bool) (ids : List Int) (A : List (List Bool)) (W : List (List Int)) (u v : Nat) : List S30 :=
  if gt A u v false = true ∧ (d = true ∨ u < v) then [⟨ids.getD u 0, ids.getD v 0, gt W u v 0⟩] else []
def rowE (d : Bool) (ids : List Int) (A : List (List Bool)) (W : List (List Int)) (u v : Nat) : List S30 := ((List.range ids.length).drop v).flatMap (cellE d ids A W u)
def allE (d : Bool) (ids : List Int) (A : List (List Bool)) (W : List (List Int)) (u : Nat) : List S30 := ((List.range ids.length).drop u).flatMap (fun u => rowE d ids A W u 0)

theorem rowE_step (d : Bool) (ids : List Int) (A : List (List Bool)) (W : List (List Int)) (u v : Nat) (h : v < ids.length) : rowE d ids A W u v = cellE d ids A W u v ++ rowE d ids A W u (v + 1) := by
  unfold rowE
  rw [List.drop_eq_getElem_cons (by simpa using h), List.flatMap_cons, List.getElem_range]
theorem rowE_end (d : Bool) (ids : List Int) (A : List (List Bool)) (W : List (List Int)) (u v : Nat) (h : ¬ v < ids.length) : rowE d ids A W u v = [] := by
  unfold rowE
  rw [List.drop_eq_nil_of_le (by simpa using h)]; rfl
theorem allE_step (d : Bool) (ids : List Int) (A : List (List Bool)) (W : List (List Int)) (u : Nat) (h : u < ids.length) : allE d ids A W u = rowE d ids A W u 0 ++ allE d ids A W (u + 1) := by
  unfold allE
  rw [List.drop_eq_getElem_cons (by simpa using h), List.flatMap_cons, List.getElem_range]
theorem allE_end (d : Bool) (ids : List Int) (A : List (List Bool)) (W : List (List Int)) (u : Nat) (h : ¬ u < ids.length) : allE d ids A W u = [] := by
  unfold allE
  rw [List.drop_eq_nil_of_le (by simpa using h)]; rfl
theorem rowE_len (d : Bool) (ids : List Int) (A : List (List Bool)) (W : List (List Int)) (u : Nat) : ∀ m v, ids.length - v ≤ m → (rowE d ids A W u v).length ≤ ids.length - v
  | 0, v, h => by rw [rowE_end _ _ _ _ _ _ (by omega)]; simp
  | m + 1, v, h => by
    by_cases hv : v < ids.length
    · rw [rowE_step _ _ _ _ _ _ hv, List.length_append]
      have := rowE_len d ids A W u m (v + 1) (by omega)
      have h2 : (cellE d ids A W u v).length ≤ 1 := by unfold cellE; split <;> simp
      omega
    · rw [rowE_end _ _ _ _ _ _ hv]; simp

theorem rdL3 (A : List (List Bool)) (u : Nat) : rd_L3 A (u : Int) = A.getD u [] := by unfold rd_L3; rw [Int.toNat_natCast]
theorem rdL4 (W : List (List Int)) (u : Nat) : rd_L4 W (u : Int) = W.getD u [] := by unfold rd_L4; rw [Int.toNat_natCast]

section
variable (d : Bool) (ids : List Int) (A : List (List Bool)) (W : List (List Int)) (x1 : List Int) (x2 : List S30)

theorem plain_l1 (hA : SqG ids.length A) (hW : SqG ids.length W) (hn : ids.length ≤ 1000) (u : Nat) (hu : u < ids.length) (tl : List S30)
    (hk : ∀ acc : List S30, acc.length ≤ (u + 1) * 1000 → Ev (fun k => laws_plain.l0 k (wrap64 ((u : Int) + 1)) d x1 x2 ids A W d ids acc) (d, ids, acc ++ tl)) :
    ∀ (m v : Nat) (acc : List S30), ids.length - v ≤ m → v ≤ ids.length → acc.length ≤ u * 1000 + v →
      Ev (fun k => laws_plain.l1 k (u : Int) (v : Int) d x1 x2 ids A W d ids acc) (d, ids, acc ++ rowE d ids A W u v ++ tl) := by
  intro m
  induction m with
  | zero =>
    intro v acc hm hv hl
    rw [rowE_end _ _ _ _ _ _ (by omega), List.append_nil]
    refine Ev.step (fun k => ?_) (hk acc (by omega))
    simp only [laws_plain.l1]
    rw [if_neg (by omega)]
  | succ m ih =>
    intro v acc hm hv hl
    by_cases hlt : v < ids.length
    · have w2 : wrap64 ((v : Int) + 1) = ((v + 1 : Nat) : Int) := by unfold wrap64; omega
      have hru : (A.getD u []).length = ids.length := hA.2 u hu
      have hrw : (W.getD u []).length = ids.length := hW.2 u hu
      have hg : rdOf false (A.getD u []) (v : Int) = gt A u v false := by unfold rdOf gt; rw [Int.toNat_natCast]
      have hw0 : rd (W.getD u []) (v : Int) = gt W u v 0 := by unfold rd gt; rw [Int.toNat_natCast]
      have hi1 : rd ids (u : Int) = ids.getD u 0 := by unfold rd; rw [Int.toNat_natCast]
      have hi2 : rd ids (v : Int) = ids.getD v 0 := by unfold rd; rw [Int.toNat_natCast]
      have hu1000 : u * 1000 ≤ 1000 * 1000 := Nat.mul_le_mul_right 1000 (by omega)
      rw [rowE_step _ _ _ _ _ _ hlt]
      by_cases h1 : gt A u v false = true
      · by_cases h2 : d = true
        · have hc : cellE d ids A W u v = [⟨ids.getD u 0, ids.getD v 0, gt W u v 0⟩] := by unfold cellE; rw [if_pos ⟨h1, .inl h2⟩]
          have hr := ih (v + 1) (acc ++ [⟨ids.getD u 0, ids.getD v 0, gt W u v 0⟩]) (by omega) (by omega) (by rw [List.length_append]; simp; omega)
          rw [hc, show acc ++ ([(⟨ids.getD u 0, ids.getD v 0, gt W u v 0⟩ : S30)] ++ rowE d ids A W u (v + 1)) ++ tl = acc ++ [(⟨ids.getD u 0, ids.getD v 0, gt W u v 0⟩ : S30)] ++ rowE d ids A W u (v + 1) ++ tl by simp]
          refine Ev.step (fun k => ?_) hr
          simp only [laws_plain.l1]
          rw [rdL3, rdL4, hru, hrw, hg, hw0, hi1, hi2, w2, hA.1, hW.1, if_pos (by omega), if_pos (by omega), if_pos (by omega), if_pos (by omega), if_pos (by omega), if_pos h1, if_pos h2, if_pos (by omega), if_pos (by omega), if_pos (by omega), if_pos (by omega)]
        · by_cases h3 : u < v
          · have hc : cellE d ids A W u v = [⟨ids.getD u 0, ids.getD v 0, gt W u v 0⟩] := by unfold cellE; rw [if_pos ⟨h1, .inr h3⟩]
            have hr := ih (v + 1) (acc ++ [⟨ids.getD u 0, ids.getD v 0, gt W u v 0⟩]) (by omega) (by omega) (by rw [List.length_append]; simp; omega)
            rw [hc, show acc ++ ([(⟨ids.getD u 0, ids.getD v 0, gt W u v 0⟩ : S30)] ++ rowE d ids A W u (v + 1)) ++ tl = acc ++ [(⟨ids.getD u 0, ids.getD v 0, gt W u v 0⟩ : S30)] ++ rowE d ids A W u (v + 1) ++ tl by simp]
            refine Ev.step (fun k => ?_) hr
            simp only [laws_plain.l1]
            rw [rdL3, rdL4, hru, hrw, hg, hw0, hi1, hi2, w2, hA.1, hW.1, if_pos (by omega), if_pos (by omega), if_pos (by omega), if_pos (by omega), if_pos (by omega), if_pos h1, if_neg h2, if_pos (by omega), if_pos (by omega), if_pos (by omega), if_pos (by omega), if_pos (by omega)]
          · have hc : cellE d ids A W u v = [] := by unfold cellE; rw [if_neg (fun h => h.2.elim h2 h3)]
            have hr := ih (v + 1) acc (by omega) (by omega) (by omega)
            rw [hc, List.nil_append]
            refine Ev.step (fun k => ?_) hr
            simp only [laws_plain.l1]
            rw [rdL3, hru, hg, w2, hA.1, if_pos (by omega), if_pos (by omega), if_pos (by omega), if_pos (by omega), if_pos (by omega), if_pos h1, if_neg h2, if_neg (by omega)]
      · have hc : cellE d ids A W u v = [] := by unfold cellE; rw [if_neg (fun h => h1 h.1)]
        have hr := ih (v + 1) acc (by omega) (by omega) (by omega)
        rw [hc, List.nil_append]
        refine Ev.step (fun k => ?_) hr
        simp only [laws_plain.l1]
        rw [rdL3, hru, hg, w2, hA.1, if_pos (by omega), if_pos (by omega), if_pos (by omega), if_pos (by omega), if_pos (by omega), if_neg h1]
    · rw [rowE_end _ _ _ _ _ _ hlt, List.append_nil]
      refine Ev.step (fun k => ?_) (hk acc (by omega))
      simp only [laws_plain.l1]
      rw [if_neg (by omega)]

theorem plain_l0 (hA : SqG ids.length A) (hW : SqG ids.length W) (hn : ids.length ≤ 1000) :
    ∀ (m u : Nat) (acc : List S30), ids.length - u ≤ m → u ≤ ids.length → acc.length ≤ u * 1000 →
      Ev (fun k => laws_plain.l0 k (u : Int) d x1 x2 ids A W d ids acc) (d, ids, acc ++ allE d ids A W u) := by
  intro m
  induction m with
  | zero =>
    intro u acc hm hu hl
    rw [allE_end _ _ _ _ _ (by omega), List.append_nil]
    refine Ev.step (fun k => ?_) (Ev.now _)
    simp only [laws_plain.l0]
    rw [if_neg (by omega)]
  | succ m ih =>
    intro u acc hm hu hl
    by_cases hlt : u < ids.length
    · have w2 : wrap64 ((u : Int) + 1) = ((u + 1 : Nat) : Int) := by unfold wrap64; omega
      rw [allE_step _ _ _ _ _ hlt, ← List.append_assoc]
      have h1 := plain_l1 d ids A W x1 x2 hA hW hn u hlt (allE d ids A W (u + 1)) (fun acc' hl' => by rw [w2]; exact ih (u + 1) acc' (by omega) (by omega) hl') ids.length 0 acc (Nat.le_refl _) (Nat.zero_le _) (Nat.le_trans hl (Nat.le_add_right _ _))
      refine Ev.step (fun k => ?_) h1
      simp only [laws_plain.l0]
      rw [if_pos (by omega)]
      rfl
    · rw [allE_end _ _ _ _ _ hlt, List.append_nil]
      refine Ev.step (fun k => ?_) (Ev.now _)
      simp only [laws_plain.l0]
      rw [if_neg (by omega)]
end

theorem plain_f (d : Bool) (zs : List Int) (es : List S30) (hz : zs.length ≤ 1000) (he : es.length ≤ 100000) (hok : (es.all fun e => decide (e.f0 ∈ zs) && decide (e.f1 ∈ zs)) = true)
    (hA : SqG (srt zs).length (tbA d (srt zs) (srt zs).length es)) (hW : SqG (srt zs).length (tbW d (srt zs) (srt zs).length es)) :
    Ev (fun k => laws_plain.f k d zs es) (d, srt zs, allE d (srt zs) (tbA d (srt zs) (srt zs).length es) (tbW d (srt zs) (srt zs).length es) 0) := by
  have h := plain_l0 d (srt zs) _ _ zs es hA hW (by rw [srt_length]; exact hz) (srt zs).length 0 [] (by omega) (Nat.zero_le _) (by simp)
  rw [List.nil_append] at h
  refine Ev.congr (fun k => ?_) h
  unfold laws_plain.f laws_tableOf.f
  rw [if_pos ⟨hz, he, hok⟩]
  rfl
end Go.Proofs.Ytgiebjihceggjaa

/- The plain law of FnGenTree, its parts. -/
namespace Go.Proofs.Ytgiebjihceggjaa
open Go.RowKit Go.Proofs.YtgiebjihceggjaaW.PrintWords PFnGenTree

theorem rising_l0 (l : List Int) (hl : l.length ≤ 100000) : ∀ (d k i : Nat), 1 ≤ i → l.length - i ≤ d → d < k →
    ∃ b, laws_rising.l0 k l (i : Int) = some b ∧ (b = true ↔ (∀ a, i - 1 ≤ a → a + 1 < l.length → l.getD a 0 < l.getD (a + 1) 0)) := by
  intro d
  induction d with
  | zero =>
    intro k i hi hd hk
    obtain ⟨k, rfl⟩ : ∃ m, k = m + 1 := ⟨k - 1, by omega⟩
    simp only [laws_rising.l0]
    rw [if_neg (by omega)]
    exact ⟨true, rfl, fun _ a h1 h2 => by omega, fun _ => rfl⟩
  | succ d ih =>
    intro k i hi hd hk
    obtain ⟨k, rfl⟩ : ∃ m, k = m + 1 := ⟨k - 1, by omega⟩
    simp only [laws_rising.l0]
    by_cases hlt : i < l.length
    · have w1 : wrap64 ((i : Int) - 1) = ((i - 1 : Nat) : Int) := by unfold wrap64; omega
      have w2 : wrap64 ((i : Int) + 1) = ((i + 1 : Nat) : Int) := by unfold wrap64; omega
      rw [if_pos (by omega), w1, if_pos (by omega), if_pos (by omega), if_pos (by omega), w2]
      have r1 : rd l ((i - 1 : Nat) : Int) = l.getD (i - 1) 0 := by unfold rd; rw [Int.toNat_natCast]
      have r2 : rd l (i : Int) = l.getD i 0 := by unfold rd; rw [Int.toNat_natCast]
      rw [r1, r2]
      by_cases hge : l.getD (i - 1) 0 ≥ l.getD i 0
      · rw [if_pos hge]
        refine ⟨false, rfl, fun h => (by cases h), fun h => ?_⟩
        have := h (i - 1) (Nat.le_refl _) (by omega)
        rw [show i - 1 + 1 = i by omega] at this
        omega
      · rw [if_neg hge]
        obtain ⟨b, hb1, hb2⟩ := ih k (i + 1) (by omega) (by omega) (by omega)
        refine ⟨b, hb1, ?_⟩
        rw [hb2]
        constructor
        · intro h a h1 h2
          by_cases ha : a = i - 1
          · subst ha; rw [show i - 1 + 1 = i by omega]; omega
          · exact h a (by omega) h2
        · intro h a h1 h2
          exact h a (by omega) h2
    · rw [if_neg (by omega)]
      exact ⟨true, rfl, fun _ a h1 h2 => by omega, fun _ => rfl⟩

theorem adj_pairwise (l : List Int) : (∀ a, 1 - 1 ≤ a → a + 1 < l.length → l.getD a 0 < l.getD (a + 1) 0) ↔ l.Pairwise (· < ·) := by
  constructor
  · intro h
    have hadj : ∀ j (hj : j + 1 < l.length), l[j] < l[j + 1] := by
      intro j hj
      have := h j (by omega) hj
      have e1 : l.getD j 0 = l[j] := by rw [List.getD_eq_getElem?_getD, List.getElem?_eq_getElem (by omega)]; rfl
      have e2 : l.getD (j + 1) 0 = l[j + 1] := by rw [List.getD_eq_getElem?_getD, List.getElem?_eq_getElem hj]; rfl
      rw [e1, e2] at this; exact this
    have hmono : ∀ i k, (hk : i + k + 1 < l.length) → l[i]'(by omega) < l[i + k + 1] := by
      intro i k
      induction k with
      | zero => intro hk; exact hadj i hk
      | succ k ih =>
        intro hk
        exact Int.lt_trans (ih (by omega)) (hadj (i + k + 1) (by omega))
    rw [List.pairwise_iff_getElem]
    intro i j hi hj hij
    have := hmono i (j - i - 1) (by omega)
    have e : i + (j - i - 1) + 1 = j := by omega
    simp only [e] at this
    exact this
  · intro h a _ ha
    have e1 : l.getD a 0 = l[a] := by rw [List.getD_eq_getElem?_getD, List.getElem?_eq_getElem (by omega)]; rfl
    have e2 : l.getD (a + 1) 0 = l[a + 1] := by rw [List.getD_eq_getElem?_getD, List.getElem?_eq_getElem ha]; rfl
    rw [e1, e2]
    exact (List.pairwise_iff_getElem.1 h) a (a + 1) (by omega) ha (by omega)


theorem rising_ev (l : List Int) (hl : l.length ≤ 100000) : Ev (fun k => laws_rising.f k l) (decide (l.Pairwise (· < ·))) := by
  obtain ⟨b, h1, h2⟩ := rising_l0 l hl l.length (l.length + 1) 1 (Nat.le_refl _) (by omega) (by omega)
  refine Ev.of (laws_rising.mono l) (k := l.length + 1) ?_
  unfold laws_rising.f
  rw [show (1 : Int) = ((1 : Nat) : Int) from rfl, h1]
  congr 1
  rw [adj_pairwise] at h2
  cases b with
  | true => exact (decide_eq_true (h2.1 rfl)).symm
  | false => exact (decide_eq_false (fun h => by have := h2.2 h; cases this)).symm

theorem apart_ev (l : List Int) (hl : l.length ≤ 1000) : Ev (fun k => laws_apart.f k l) (decide l.Nodup) := by
  obtain ⟨k0, h0⟩ := sorted_f l (by omega)
  have h1 := Ev.of (laws_sorted.mono l) h0
  have h2 := rising_ev (srt l) (by rw [srt_length]; omega)
  have e : decide ((srt l).Pairwise (· < ·)) = decide l.Nodup := by
    rw [decide_eq_decide]
    exact ⟨srt_nodup, srt_lt⟩
  rw [e] at h2
  exact Ev.bind h1 (Ev.bind h2 (Ev.now _))

theorem eqI_l0 (l : List Int) (hl : l.length ≤ 100000) : ∀ m i, l.length - i ≤ m → i ≤ l.length → Ev (fun k => slices_Equal_int_int.l0 k l l (l.length : Int) (i : Int)) true
  | 0, i, hm, hi => by
    refine Ev.step (fun k => ?_) (Ev.now _)
    simp only [slices_Equal_int_int.l0]
    rw [if_neg (by omega)]
  | m + 1, i, hm, hi => by
    by_cases hlt : i < l.length
    · have w2 : wrap64 ((i : Int) + 1) = ((i + 1 : Nat) : Int) := by unfold wrap64; omega
      refine Ev.step (fun k => ?_) (eqI_l0 l hl m (i + 1) (by omega) (by omega))
      simp only [slices_Equal_int_int.l0]
      rw [if_pos (by omega), if_pos (by omega), if_pos (by omega), if_pos (by omega), if_pos trivial, w2]
    · refine Ev.step (fun k => ?_) (Ev.now _)
      simp only [slices_Equal_int_int.l0]
      rw [if_neg (by omega)]
theorem eqE_l0 (l : List S30) (hl : l.length ≤ 100000) : ∀ m i, l.length - i ≤ m → i ≤ l.length → Ev (fun k => impl_Edge_15.l0 k l l (l.length : Int) (i : Int)) true
  | 0, i, hm, hi => by
    refine Ev.step (fun k => ?_) (Ev.now _)
    simp only [impl_Edge_15.l0]
    rw [if_neg (by omega)]
  | m + 1, i, hm, hi => by
    by_cases hlt : i < l.length
    · have w2 : wrap64 ((i : Int) + 1) = ((i + 1 : Nat) : Int) := by unfold wrap64; omega
      refine Ev.step (fun k => ?_) (eqE_l0 l hl m (i + 1) (by omega) (by omega))
      simp only [impl_Edge_15.l0]
      rw [if_pos (by omega), if_pos (by omega), if_pos (by omega), if_pos (by omega), if_neg (by simp), w2]
    · refine Ev.step (fun k => ?_) (Ev.now _)
      simp only [impl_Edge_15.l0]
      rw [if_neg (by omega)]
theorem same_ev (d : Bool) (l : List Int) (es : List S30) (hl : l.length ≤ 100000) (he : es.length ≤ 100000) : Ev (fun k => laws_sameGraph.f k d l es d l es) true := by
  have h1 : Ev (fun k => slices_Equal_int_int.f k l l) true := by
    refine Ev.congr (fun k => ?_) (eqI_l0 l hl l.length 0 (by omega) (Nat.zero_le _))
    unfold slices_Equal_int_int.f
    rw [if_pos rfl]; rfl
  have h2 : Ev (fun k => impl_Edge_15.f k es es) true := by
    refine Ev.congr (fun k => ?_) (eqE_l0 es he es.length 0 (by omega) (Nat.zero_le _))
    unfold impl_Edge_15.f
    rw [if_pos rfl]; rfl
  refine Ev.congr (fun k => ?_) (Ev.bind h1 (f := fun k t => if t = true then ((impl_Edge_15.f k es es).bind fun t175 => (some t175)) else (some false)) ?_)
  · unfold laws_sameGraph.f
    rw [if_pos (by simp)]
  · refine Ev.congr (fun k => ?_) (Ev.bind h2 (f := fun _ t => some t) (Ev.now _))
    rw [if_pos rfl]

/-! the edges, in both ways -/
theorem mem_rowE (d : Bool) (ids : List Int) (A : List (List Bool)) (W : List (List Int)) (u : Nat) (e : S30) : e ∈ rowE d ids A W u 0 ↔ ∃ v, v < ids.length ∧ e ∈ cellE d ids A W u v := by
  unfold rowE
  rw [List.drop_zero, List.mem_flatMap]
  simp [List.mem_range]
theorem mem_allE (d : Bool) (ids : List Int) (A : List (List Bool)) (W : List (List Int)) (e : S30) : e ∈ allE d ids A W 0 ↔ ∃ u v, u < ids.length ∧ v < ids.length ∧ gt A u v false = true ∧ (d = true ∨ u < v) ∧ e = ⟨ids.getD u 0, ids.getD v 0, gt W u v 0⟩ := by
  unfold allE
  rw [List.drop_zero, List.mem_flatMap]
  constructor
  · rintro ⟨u, hu, he⟩
    rw [mem_rowE] at he
    obtain ⟨v, hv, hc⟩ := he
    unfold cellE at hc
    split at hc
    · rename_i hh
      exact ⟨u, v, by simpa using hu, hv, hh.1, hh.2, by simpa using hc⟩
    · cases hc
  · rintro ⟨u, v, hu, hv, h1, h2, rfl⟩
    refine ⟨u, by simpa using hu, (mem_rowE _ _ _ _ _ _).2 ⟨v, hv, ?_⟩⟩
    unfold cellE
    rw [if_pos ⟨h1, h2⟩]
    simp

theorem getD_lt {ids : List Int} (h : ids.Pairwise (· < ·)) {u v : Nat} (huv : u < v) (hv : v < ids.length) : ids.getD u 0 < ids.getD v 0 := by
  rw [List.getD_eq_getElem?_getD, List.getD_eq_getElem?_getD, List.getElem?_eq_getElem hv, List.getElem?_eq_getElem (show u < ids.length by omega)]
  exact (List.pairwise_iff_getElem.1 h) u v (by omega) hv huv

theorem allE_strict (d : Bool) (ids : List Int) (A : List (List Bool)) (W : List (List Int)) (h : ids.Pairwise (· < ·)) : (allE d ids A W 0).Pairwise lt3 := by
  have hr : (List.range ids.length).Pairwise (· < ·) := List.pairwise_lt_range
  have hcell : ∀ u v e, e ∈ cellE d ids A W u v → e.f0 = ids.getD u 0 ∧ e.f1 = ids.getD v 0 := by
    intro u v e he
    unfold cellE at he
    split at he
    · simp at he; subst he; exact ⟨rfl, rfl⟩
    · cases he
  unfold allE
  rw [List.drop_zero, List.pairwise_flatMap]
  refine ⟨fun u _ => ?_, ?_⟩
  · unfold rowE
    rw [List.drop_zero, List.pairwise_flatMap]
    refine ⟨fun v _ => ?_, ?_⟩
    · unfold cellE; split <;> simp
    · rw [List.pairwise_iff_getElem] at hr ⊢
      intro i j hi hj hij x hx y hy
      have h1 := hr i j hi hj hij
      have hj' : (List.range ids.length)[j] < ids.length := by simpa using hj
      have hx' := hcell _ _ _ hx
      have hy' := hcell _ _ _ hy
      have := getD_lt h h1 hj'
      unfold lt3
      omega
  · rw [List.pairwise_iff_getElem] at hr ⊢
    intro i j hi hj hij x hx y hy
    have h1 := hr i j hi hj hij
    have hj' : (List.range ids.length)[j] < ids.length := by simpa using hj
    obtain ⟨v, hv, hx⟩ := (mem_rowE _ _ _ _ _ _).1 hx
    obtain ⟨v', hv', hy⟩ := (mem_rowE _ _ _ _ _ _).1 hy
    have hx' := hcell _ _ _ hx
    have hy' := hcell _ _ _ hy
    have := getD_lt h h1 hj'
    unfold lt3
    omega

/-- the wanted edges -/
def wantE (n : Nat) (xs : List Int) : List S30 := (treeE n xs).map fun e => ⟨e.1, e.2, 0⟩

theorem idx_lt {xs : List Int} {x : Int} (h : x ∈ xs) : (srt xs).idxOf x < (srt xs).length := List.idxOf_lt_length_of_mem ((mem_srt _ _).2 h)
theorem idx_get {xs : List Int} {x : Int} (h : x ∈ xs) : (srt xs).getD ((srt xs).idxOf x) 0 = x := by
  rw [List.getD_eq_getElem?_getD, List.getElem?_eq_getElem (idx_lt h)]
  exact List.getElem_idxOf _

theorem want_in {n : Nat} {xs : List Int} {e : S30} (h : e ∈ wantE n xs) : e.f0 ∈ xs ∧ e.f1 ∈ xs ∧ e.f2 = 0 ∧ e.f0 ≠ e.f1 ∨ True := .inr trivial

theorem edges_eq (d : Bool) (n : Nat) (xs : List Int) (hn : xs.Nodup) :
    SqG (srt xs).length (tbA d (srt xs) (srt xs).length (wantE n xs)) ∧ SqG (srt xs).length (tbW d (srt xs) (srt xs).length (wantE n xs)) ∧
    allE d (srt xs) (tbA d (srt xs) (srt xs).length (wantE n xs)) (tbW d (srt xs) (srt xs).length (wantE n xs)) 0 = srtE ((treeE n xs).map (orE d)) := by
  have hin : ∀ e ∈ wantE n xs, (srt xs).idxOf e.f0 < (srt xs).length ∧ (srt xs).idxOf e.f1 < (srt xs).length := by
    intro e he
    obtain ⟨p, hp, rfl⟩ := List.mem_map.1 he
    have := ends_in hp
    exact ⟨idx_lt this.1, idx_lt this.2⟩
  have h0 : ∀ e ∈ wantE n xs, e.f2 = 0 := by
    intro e he
    obtain ⟨p, hp, rfl⟩ := List.mem_map.1 he
    rfl
  obtain ⟨hA, hA2⟩ := tbA_spec d (srt xs) (srt xs).length (wantE n xs) hin
  obtain ⟨hW, hW2⟩ := tbW_spec d (srt xs) (srt xs).length (wantE n xs) hin h0
  refine ⟨hA, hW, @strict_ext S30 (Classical.typeDecidableEq S30) lt3 lt3_irrefl lt3_asymm _ _ (allE_strict _ _ _ _ (srt_lt hn)) (srtE_strict _ (tree_apart d n xs hn)) (fun e => ?_)⟩
  rw [mem_allE, mem_srtE, List.mem_map]
  constructor
  · rintro ⟨u, v, hu, hv, h1, h2, rfl⟩
    rw [hW2]
    rw [hA2] at h1
    obtain ⟨e, he, hc⟩ := h1
    obtain ⟨p, hp, rfl⟩ := List.mem_map.1 he
    have hi := ends_in hp
    refine ⟨p, hp, ?_⟩
    rcases hc with ⟨rfl, rfl⟩ | ⟨hd, rfl, rfl⟩
    · simp only
      rw [idx_get hi.1, idx_get hi.2]
      unfold orE
      rcases h2 with h2 | h2
      · rw [if_neg (by rw [h2]; simp)]
      · have := getD_lt (srt_lt hn) h2 hv
        simp only at this
        rw [idx_get hi.1, idx_get hi.2] at this
        rw [if_neg (by omega)]
    · simp only
      rw [idx_get hi.1, idx_get hi.2]
      have h3 := h2.resolve_left (by rw [hd]; simp)
      have := getD_lt (srt_lt hn) h3 hv
      simp only at this
      rw [idx_get hi.1, idx_get hi.2] at this
      unfold orE
      rw [if_pos ⟨hd, by omega⟩]
  · rintro ⟨p, hp, rfl⟩
    have hi := ends_in hp
    have hne := ends_ne hn hp
    have hlt : ∀ a b, a ∈ xs → b ∈ xs → a < b → (srt xs).idxOf a < (srt xs).idxOf b := by
      intro a b ha hb hab
      rcases Nat.lt_trichotomy ((srt xs).idxOf a) ((srt xs).idxOf b) with h | h | h
      · exact h
      · have := idx_get ha
        rw [h, idx_get hb] at this
        omega
      · have := getD_lt (srt_lt hn) h (idx_lt ha)
        rw [idx_get ha, idx_get hb] at this
        omega
    by_cases hc : d = false ∧ p.1 > p.2
    · refine ⟨(srt xs).idxOf p.2, (srt xs).idxOf p.1, idx_lt hi.2, idx_lt hi.1, ?_, .inr (hlt _ _ hi.2 hi.1 (by omega)), ?_⟩
      · rw [hA2]
        exact ⟨_, List.mem_map.2 ⟨p, hp, rfl⟩, .inr ⟨hc.1, rfl, rfl⟩⟩
      · rw [hW2, idx_get hi.1, idx_get hi.2]
        unfold orE
        rw [if_pos hc]
    · refine ⟨(srt xs).idxOf p.1, (srt xs).idxOf p.2, idx_lt hi.1, idx_lt hi.2, ?_, ?_, ?_⟩
      · rw [hA2]
        exact ⟨_, List.mem_map.2 ⟨p, hp, rfl⟩, .inl ⟨rfl, rfl⟩⟩
      · cases d with
        | true => exact .inl rfl
        | false =>
          have hq : ¬ p.1 > p.2 := fun h => hc ⟨rfl, h⟩
          exact .inr (hlt _ _ hi.1 hi.2 (by omega))
      · rw [hW2, idx_get hi.1, idx_get hi.2]
        unfold orE
        rw [if_neg hc]
end Go.Proofs.Ytgiebjihceggjaa

namespace Go.Proofs.Ytgiebjihceggjaa.Pure
open Go.RowKit Go.Proofs.Ytgiebjihceggjaa Go.Proofs.Ytgiebjihceggjaa.PFnGenTree Go.Proofs.YtgiebjihceggjaaW.PrintWords Go.Proofs.YtgiebjihceggjaaW.PrintLast

theorem wantE_length (n : Nat) (xs : List Int) : (wantE n xs).length = xs.length - 1 := by
  unfold wantE treeE
  rw [List.length_map, List.length_map, List.length_range]

theorem wantE_get (n : Nat) (xs : List Int) (i : Nat) (h : i < (wantE n xs).length) : (wantE n xs)[i] = ⟨xs.getD (i / n) 0, xs.getD (i + 1) 0, 0⟩ := by
  unfold wantE treeE
  simp

theorem rdN (xs : List Int) (i : Nat) : rd xs (i : Int) = xs.getD i 0 := by unfold rd; rw [Int.toNat_natCast]

theorem want_end (d : Bool) (x1 : Int) (n : Nat) (xs : List Int) (hlen : xs.length ≤ 40) (hn : xs.Nodup) (k : Nat) (hk : ¬ k < xs.length) (hk1 : 1 ≤ k) (ws : List S30) (hws : ws = wantE n xs) :
    Ev (fun r => laws_FnGenTree.l0 r x1 xs false (k : Int) d (srt xs) (srtE ((treeE n xs).map (orE d))) d xs ws) true := by
  subst hws
  obtain ⟨hA, hW, hE⟩ := edges_eq d n xs hn
  have hp := plain_f d xs (wantE n xs) (by omega) (by rw [wantE_length]; omega) (by
    rw [List.all_eq_true]
    intro e he
    obtain ⟨p, hp, rfl⟩ := List.mem_map.1 he
    have := ends_in hp
    simp [this.1, this.2]) hA hW
  rw [hE] at hp
  have hs := same_ev d (srt xs) (srtE ((treeE n xs).map (orE d))) (by rw [srt_length]; omega) (by
    rw [(srtE_perm _).length_eq, List.length_map]
    unfold treeE
    rw [List.length_map, List.length_range]; omega)
  refine Ev.step (f := fun r => (laws_plain.f r d xs (wantE n xs)).bind fun b => (laws_sameGraph.f r d (srt xs) (srtE ((treeE n xs).map (orE d))) b.1 b.2.1 b.2.2).bind fun t => some t) (fun r => ?_) (Ev.bind hp (Ev.bind hs (Ev.now true)))
  simp only [laws_FnGenTree.l0]
  rw [if_neg (by omega), if_neg (by simp)]

theorem want_l0 (d : Bool) (n : Nat) (xs : List Int) (hlen : xs.length ≤ 40) (hn : xs.Nodup) (h1 : 1 < xs.length → 1 ≤ n) (hbig : n < 9223372036854775808) :
    ∀ m k : Nat, xs.length - k ≤ m → 1 ≤ k → (k ≤ xs.length ∨ xs.length = 0) →
      Ev (fun r => laws_FnGenTree.l0 r (n : Int) xs false (k : Int) d (srt xs) (srtE ((treeE n xs).map (orE d))) d xs ((wantE n xs).take (k - 1))) true := by
  have hend : ∀ k : Nat, ¬ k < xs.length → 1 ≤ k → Ev (fun r => laws_FnGenTree.l0 r (n : Int) xs false (k : Int) d (srt xs) (srtE ((treeE n xs).map (orE d))) d xs ((wantE n xs).take (k - 1))) true := fun k hk hk1 =>
    want_end d n n xs hlen hn k hk hk1 _ (List.take_of_length_le (by rw [wantE_length]; omega))
  intro m
  induction m with
  | zero =>
    intro k hm hk1 hk2
    exact hend k (by omega) hk1
  | succ m ih =>
    intro k hm hk1 hk2
    by_cases hlt : k < xs.length
    · have hn1 := h1 (by omega)
      have w1 : wrap64 ((k : Int) - 1) = ((k - 1 : Nat) : Int) := by unfold wrap64; omega
      have w2 : wrap64 ((k : Int) + 1) = ((k + 1 : Nat) : Int) := by unfold wrap64; omega
      obtain ⟨q, hq⟩ : ∃ q, q = (k - 1) / n := ⟨_, rfl⟩
      have hdiv : q ≤ k - 1 := by rw [hq]; exact Nat.div_le_self _ _
      have w3 : wrap64 (Int.tdiv ((k - 1 : Nat) : Int) (n : Int)) = (q : Int) := by
        rw [show Int.tdiv ((k - 1 : Nat) : Int) (n : Int) = (((k - 1) / n : Nat) : Int) from rfl, ← hq]
        clear hq
        unfold wrap64; omega
      have m1 : xs.length - (k + 1) ≤ m := by clear hq; omega
      have m2 : 1 ≤ k + 1 := Nat.le_add_left _ _
      have m3 : k + 1 ≤ xs.length ∨ xs.length = 0 := .inl hlt
      have c1 : (k : Int) < (xs.length : Int) := by clear hq; omega
      have c2 : ¬ (n : Int) = 0 := by clear hq; omega
      have c3 : (0 : Int) ≤ (q : Int) := Int.natCast_nonneg _
      have c4 : (q : Int) < (xs.length : Int) := by clear hq; omega
      have c5 : (0 : Int) ≤ (k : Int) := Int.natCast_nonneg _
      have ek : k - 1 + 1 = k := by clear hq; omega
      have hk' : k - 1 < (wantE n xs).length := by clear hq; rw [wantE_length]; omega
      have ht : (wantE n xs).take (k + 1 - 1) = (wantE n xs).take (k - 1) ++ [⟨xs.getD q 0, xs.getD k 0, 0⟩] := by
        have := List.take_append_getElem hk'
        rw [wantE_get, show k - 1 + 1 = k from ek, ← hq] at this
        rw [Nat.add_sub_cancel]
        exact this.symm
      have c6 : ((wantE n xs).take (k - 1)).length < 5864062014805 := by
        clear hq
        have e : ((wantE n xs).take (k - 1)).length = min (k - 1) (xs.length - 1) := by rw [List.length_take, wantE_length]
        have e2 : ((wantE n xs).take (k - 1)).length ≤ 40 := by omega
        exact Nat.lt_of_le_of_lt e2 (by decide)
      refine Ev.step (fun r => ?_) (ih (k + 1) m1 m2 m3)
      simp only [laws_FnGenTree.l0]
      rw [if_pos c1, if_neg c2, w1, w3, if_pos c3, if_pos c4, if_pos c5]
      refine (if_pos c6).trans ?_
      rw [w2, rdN, rdN]
      rw [ht]
    · exact hend k hlt hk1

theorem seven : impl_GenTree.f false 1 [7, 8] = some (false, cpt (srt (ndT [7, 8] ++ endsE (treeE 1 [7, 8]))), srtE ((treeE 1 [7, 8]).map (orE false)), false) := by
  unfold impl_GenTree.f
  rw [if_pos (by decide), if_neg (by decide)]
  rfl

theorem seven_len : (srtE ((treeE 1 [7, 8]).map (orE false))).length = 1 := by
  rw [(srtE_perm _).length_eq]; rfl

theorem bad_j1 (x0 : Bool) (x1 : Int) (xs : List Int) (g0 : Bool) (g1 : List Int) (g2 : List S30) : Ev (fun k => laws_FnGenTree.j1 k x0 x1 xs true true g0 g1 g2) true := by
  refine Ev.step (fun k => ?_) (Ev.now _)
  simp only [laws_FnGenTree.j1]
  rw [if_pos trivial]

theorem j0_ev (x0 x8 : Bool) (x1 : Int) (xs : List Int) (g0 : Bool) (g1 : List Int) (g2 : List S30) (hl : xs.length ≤ 1000) (b : Bool) (hb : (¬ xs.Nodup ∨ (1 < xs.length ∧ (x1 < 1 ∨ (xs.length : Int) ≤ x1))) ↔ b = true)
    (hj : Ev (fun k => laws_FnGenTree.j1 k x0 x1 xs x8 b g0 g1 g2) true) :
    Ev (fun k => laws_FnGenTree.j0 k x0 x1 xs x8 false g0 g1 g2) true := by
  have ha := apart_ev xs hl
  refine Ev.step (f := fun k => (laws_apart.f k xs).bind fun t227 => (if t227 = true then (if (xs.length : Int) > 1 then (if x1 < 1 then (laws_FnGenTree.j1 k x0 x1 xs x8 true g0 g1 g2) else (laws_FnGenTree.j1 k x0 x1 xs x8 (decide (x1 ≥ (xs.length : Int))) g0 g1 g2)) else (laws_FnGenTree.j1 k x0 x1 xs x8 false g0 g1 g2)) else (laws_FnGenTree.j1 k x0 x1 xs x8 true g0 g1 g2))) (fun k => ?_) (Ev.bind (f := fun k t227 => (if t227 = true then (if (xs.length : Int) > 1 then (if x1 < 1 then (laws_FnGenTree.j1 k x0 x1 xs x8 true g0 g1 g2) else (laws_FnGenTree.j1 k x0 x1 xs x8 (decide (x1 ≥ (xs.length : Int))) g0 g1 g2)) else (laws_FnGenTree.j1 k x0 x1 xs x8 false g0 g1 g2)) else (laws_FnGenTree.j1 k x0 x1 xs x8 true g0 g1 g2))) ha ?_)
  · simp only [laws_FnGenTree.j0]
    rw [if_neg (by simp)]
  · refine Ev.congr (fun k => ?_) hj
    by_cases hn : xs.Nodup
    · rw [if_pos (decide_eq_true hn)]
      by_cases h1 : (xs.length : Int) > 1
      · rw [if_pos h1]
        by_cases h2 : x1 < 1
        · rw [if_pos h2, hb.1 (.inr ⟨by omega, .inl h2⟩)]
        · rw [if_neg h2]
          by_cases h3 : x1 ≥ (xs.length : Int)
          · rw [decide_eq_true h3, hb.1 (.inr ⟨by omega, .inr h3⟩)]
          · have : b = false := by
              cases b with
              | false => rfl
              | true =>
                rcases hb.2 rfl with h | h
                · exact absurd hn h
                · omega
            rw [decide_eq_false h3, this]
      · have : b = false := by
          cases b with
          | false => rfl
          | true =>
            rcases hb.2 rfl with h | h
            · exact absurd hn h
            · omega
        rw [if_neg h1, this]
    · rw [if_neg (by rw [decide_eq_false hn]; simp), hb.1 (.inl hn)]

theorem good_j1 (x0 : Bool) (x1 : Int) (xs : List Int) (hlen : xs.length ≤ 40) (hn : xs.Nodup) (h1 : 1 < xs.length → 1 ≤ x1) (hw : (Lit.int .i64 x1).wf = true) :
    Ev (fun k => laws_FnGenTree.j1 k x0 x1 xs false false x0 (srt xs) (srtE ((treeE x1.toNat xs).map (orE x0)))) true := by
  have hb : -9223372036854775808 ≤ x1 ∧ x1 ≤ 9223372036854775807 := by
    simp [Lit.wf, IntKind.min, IntKind.max, IntKind.bits, IntKind.signed] at hw; omega
  by_cases h2 : 1 < xs.length
  · obtain ⟨n, rfl⟩ : ∃ n : Nat, x1 = n := ⟨x1.toNat, by have := h1 h2; omega⟩
    have h := want_l0 x0 n xs hlen hn (fun h => by have := h1 h; omega) (by omega) xs.length 1 (by omega) (Nat.le_refl _) (.inl (by omega))
    rw [Int.toNat_natCast]
    refine Ev.step (fun k => ?_) h
    simp only [laws_FnGenTree.j1]
    rw [if_neg (by simp)]
    rfl
  · have e0 : wantE x1.toNat xs = [] := List.eq_nil_of_length_eq_zero (by rw [wantE_length]; omega)
    have h := want_end x0 x1 x1.toNat xs hlen hn 1 h2 (Nat.le_refl _) [] e0.symm
    refine Ev.step (fun k => ?_) h
    simp only [laws_FnGenTree.j1]
    rw [if_neg (by simp)]
    rfl

theorem FnGenTree : laws_FnGenTree.Pure := by
  intro a0 a1 l2 hw hmax hbytes hall
  refine Ev.rounds (g := fun k => laws_FnGenTree.f k a0 a1 l2) ?_
  by_cases h40 : (l2.length : Int) > 40
  · refine Ev.congr (fun k => ?_) (Ev.now _)
    unfold laws_FnGenTree.f
    by_cases hbig : (l2.length : Int) > 2147483647
    · rw [if_pos hbig]
    · rw [if_neg hbig, if_pos h40]
  · have hwf : (l2.all fun x => (Lit.int .i64 x).wf) = true := List.all_eq_true.2 hall
    by_cases hbad : ¬ l2.Nodup ∨ (1 < l2.length ∧ (a1 < 1 ∨ (l2.length : Int) ≤ a1))
    · have hg : impl_GenTree.f a0 a1 l2 = some (false, [], [], true) := by
        unfold impl_GenTree.f
        rw [if_pos ⟨by omega, hwf⟩, if_pos hbad]
      refine Ev.congr (fun k => ?_) (j0_ev a0 true a1 l2 false [] [] (by omega) true ⟨fun _ => rfl, fun _ => hbad⟩ (bad_j1 a0 a1 l2 false [] []))
      unfold laws_FnGenTree.f
      rw [if_neg (by omega), if_neg h40, hg, seven, Option.bind_some, Option.bind_some]
      simp only [seven_len]
      rfl
    · have hg : impl_GenTree.f a0 a1 l2 = some (a0, cpt (srt (ndT l2 ++ endsE (treeE a1.toNat l2))), srtE ((treeE a1.toNat l2).map (orE a0)), false) := by
        unfold impl_GenTree.f
        rw [if_pos ⟨by omega, hwf⟩, if_neg hbad]
      have hnod : l2.Nodup := Classical.not_not.1 fun h => hbad (.inl h)
      rw [nodes_eq _ _ hnod] at hg
      refine Ev.congr (fun k => ?_) (j0_ev a0 false a1 l2 _ _ _ (by omega) false ⟨fun h => absurd h hbad, fun h => by cases h⟩ (good_j1 a0 a1 l2 (by omega) hnod (fun h => by
        have := fun h' => hbad (.inr ⟨h, .inl h'⟩)
        omega) hw))
      unfold laws_FnGenTree.f
      rw [if_neg (by omega), if_neg h40, hg, seven, Option.bind_some, Option.bind_some]
      simp only [seven_len]
      rfl

end Go.Proofs.Ytgiebjihceggjaa.Pure
