import Derived.Test.YtgiebjihceggjaaV
set_option linter.unusedVariables false
set_option linter.unusedSimpArgs false
namespace Go.Proofs.Ytgiebjihceggjaa
open Go.RowKit Go.Proofs.YtgiebjihceggjaaW.PrintWords Go.Proofs.YtgiebjihceggjaaW.PrintLast Go.Proofs.YtgiebjihceggjaaW.PrintMore PFnGenTree

theorem R_scalar {α : Type} (enc : α → Value) (h1 : ∀ x, (enc x).oneCell' = true) {w : World} {base : Nat} {e : TypeId} {v : Value} {xs : List α} (h : w.ownsRow base e 1 v (xs.map enc).length (xs.map enc)) (ok : Nat → Prop) (hok : ∀ k, v.ownBlock = some k → ok k) : Kd.R (Kd.scalar enc h1) e w base ok v xs := by
  refine ⟨hok, xs.map enc, by rw [List.length_map] at h; exact h, by rw [List.length_map]; exact (Nat.mul_one _).symm, fun j p hj => ?_⟩
  show List.take 1 (List.drop (j * 1) (xs.map enc)) = [enc p]
  obtain ⟨hl, rfl⟩ := List.getElem?_eq_some_iff.1 hj
  rw [Nat.mul_one, List.drop_eq_getElem_cons (by rw [List.length_map]; exact hl)]
  simp

theorem Tb.S {α : Type} (enc : α → Value) (h1 : ∀ x, (enc x).oneCell' = true) {w : World} {base : Nat} {eo ei : TypeId} {rs : List Value} {v : Value} {xs : List (List α)} (h : Tb w base eo ei (xs.map (fun r => r.map enc)) rs v) (hne : eo ≠ ei) (ok : Nat → Prop) (hov : ∀ k, v.ownBlock = some k → ok k) (hor : ∀ i (hi : i < rs.length) k, rs[i].ownBlock = some k → ok k) :
    Kd.S (Kd.slice ei (Kd.scalar enc h1)) eo w base ok v xs := by
  classical
  have hl : rs.length = xs.length := by have := h.l; rwa [List.length_map] at this
  refine ⟨fun k => if hk : ∃ i, ∃ hi : i < rs.length, rs[i].ownBlock = some k then hk.choose else 0, hov, rs, by rw [List.length_zipIdx, ← hl]; exact h.o, by rw [List.length_zipIdx, ← hl]; exact (Nat.mul_one _).symm, fun j p hj => ?_⟩
  rw [List.getElem?_zipIdx] at hj
  obtain ⟨x, hx, rfl⟩ := Option.map_eq_some_iff.1 hj
  obtain ⟨hjx, rfl⟩ := List.getElem?_eq_some_iff.1 hx
  have hjr : j < rs.length := by omega
  have hrow := h.row j hjr
  have hg : (xs.map (fun r => r.map enc)).getD j [] = xs[j].map enc := by rw [List.getD_eq_getElem?_getD, List.getElem?_map, List.getElem?_eq_getElem hjx]; rfl
  rw [hg] at hrow
  have e1 : List.take 1 (List.drop (j * 1) rs) = [rs[j]] := by
    rw [Nat.mul_one, List.drop_eq_getElem_cons hjr, List.take_succ_cons, List.take_zero]
  show (Kd.slice ei (Kd.scalar enc h1)).M w base _ xs[j] (List.take 1 (List.drop (j * 1) rs))
  rw [e1]
  refine ⟨rs[j], rfl, R_scalar enc h1 hrow _ ?_⟩
  intro k hk
  refine ⟨⟨hor j hjr k hk, ?_⟩, ?_⟩
  · intro he
    obtain ⟨c, hc⟩ := own_block h.o he.symm
    obtain ⟨c', hc'⟩ := own_block hrow hk
    exact hne (blk_type hc hc')
  · have hex : ∃ i, ∃ hi : i < rs.length, rs[i].ownBlock = some k := ⟨j, hjr, hk⟩
    show (if hk : ∃ i, ∃ hi : i < rs.length, rs[i].ownBlock = some k then hk.choose else 0) = 0 + j
    rw [dif_pos hex]
    obtain ⟨hi, hi2⟩ := hex.choose_spec
    rcases Nat.lt_or_ge hex.choose j with h3 | h3
    · exact absurd hk (h.sep _ j hi hjr (by omega) k hi2)
    · rcases Nat.lt_or_ge j hex.choose with h4 | h4
      · exact absurd hk (h.sep _ j hi hjr (by omega) k hi2)
      · omega

/-- a place of a table set -/
def putG {α : Type} (T : List (List α)) (u v : Nat) (x : α) : List (List α) := T.set u ((T.getD u []).set v x)
theorem putG_map {α : Type} (enc : α → Value) (T : List (List α)) (u v : Nat) (x : α) : (putG T u v x).map (fun r => r.map enc) = putT (T.map (fun r => r.map enc)) u v (enc x) := by
  unfold putG putT
  rw [List.map_set, List.map_set]
  congr 2
  rw [List.getD_eq_getElem?_getD, List.getD_eq_getElem?_getD, List.getElem?_map]
  cases T[u]? <;> rfl
def stA (d : Bool) (ids : List Int) (T : List (List Bool)) (e : S30) : List (List Bool) :=
  if d then putG T (ids.idxOf e.f0) (ids.idxOf e.f1) true else putG (putG T (ids.idxOf e.f0) (ids.idxOf e.f1) true) (ids.idxOf e.f1) (ids.idxOf e.f0) true
def stW (d : Bool) (ids : List Int) (T : List (List Int)) (e : S30) : List (List Int) :=
  if d then putG T (ids.idxOf e.f0) (ids.idxOf e.f1) e.f2 else putG (putG T (ids.idxOf e.f0) (ids.idxOf e.f1) e.f2) (ids.idxOf e.f1) (ids.idxOf e.f0) e.f2
def tbA (d : Bool) (ids : List Int) (n : Nat) (es : List S30) : List (List Bool) := es.foldl (stA d ids) (List.replicate n (List.replicate n false))
def tbW (d : Bool) (ids : List Int) (n : Nat) (es : List S30) : List (List Int) := es.foldl (stW d ids) (List.replicate n (List.replicate n 0))
theorem tbA_map (d : Bool) (ids : List Int) (n : Nat) (es : List S30) : (tbA d ids n es).map (fun r => r.map Value.bool) = tabA d ids n es := by
  unfold tbA tabA
  suffices h : ∀ (es : List S30) (T : List (List Bool)), (es.foldl (stA d ids) T).map (fun r => r.map Value.bool) = es.foldl (stepA d ids) (T.map (fun r => r.map Value.bool)) by
    rw [h]; congr 1; simp [zA]
  intro es
  induction es with
  | nil => intro T; rfl
  | cons e es ih =>
    intro T
    rw [List.foldl_cons, List.foldl_cons, ih]
    congr 1
    unfold stA stepA
    split
    · exact putG_map _ _ _ _ _
    · rw [putG_map, putG_map]
theorem tbW_map (d : Bool) (ids : List Int) (n : Nat) (es : List S30) : (tbW d ids n es).map (fun r => r.map (Value.int .i64)) = tabW d ids n es := by
  unfold tbW tabW
  suffices h : ∀ (es : List S30) (T : List (List Int)), (es.foldl (stW d ids) T).map (fun r => r.map (Value.int .i64)) = es.foldl (stepW d ids) (T.map (fun r => r.map (Value.int .i64))) by
    rw [h]; congr 1; simp [zW]
  intro es
  induction es with
  | nil => intro T; rfl
  | cons e es ih =>
    intro T
    rw [List.foldl_cons, List.foldl_cons, ih]
    congr 1
    unfold stW stepW
    split
    · exact putG_map _ _ _ _ _
    · rw [putG_map, putG_map]
end Go.Proofs.Ytgiebjihceggjaa
