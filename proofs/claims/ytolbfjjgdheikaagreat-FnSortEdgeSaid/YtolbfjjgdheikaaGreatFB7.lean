import Derived.KernelRfl
set_option linter.unusedVariables false
set_option linter.unusedSimpArgs false
/- A walk depth first, in plain lists. -/
namespace Go.Proofs.YtolbfjjgdheikaaGreat.R

theorem nil_or_snoc (l : List Int) : l = [] ∨ ∃ s u, l = s ++ [u] := by
  rcases List.eq_nil_or_concat l with h | ⟨s, u, h⟩
  · exact .inl h
  · exact .inr ⟨s, u, by rw [h, List.concat_eq_append]⟩

/-- what is still to be pushed by the nodes that were not visited -/
def lefts (f : Int → Nat) (vis : List Int) : List Int → Nat
  | [] => 0
  | x :: l => (if x ∈ vis then 0 else f x) + lefts f vis l
theorem lefts_le (f : Int → Nat) (vis : List Int) (u : Int) (l : List Int) : lefts f (vis ++ [u]) l ≤ lefts f vis l := by
  induction l with
  | nil => exact Nat.le_refl _
  | cons x l ih =>
    unfold lefts
    by_cases h : x ∈ vis
    · rw [if_pos h, if_pos (by simp [h])]; omega
    · rw [if_neg h]
      split <;> omega
theorem lefts_put (f : Int → Nat) (vis : List Int) (u : Int) (hu : u ∉ vis) (l : List Int) (hl : u ∈ l) : lefts f (vis ++ [u]) l + f u ≤ lefts f vis l := by
  induction l with
  | nil => cases hl
  | cons x l ih =>
    unfold lefts
    by_cases hx : x = u
    · subst hx
      rw [if_neg hu, if_pos (by simp)]
      have := lefts_le f vis x l
      omega
    · have hl' : u ∈ l := by
        rcases List.mem_cons.1 hl with h | h
        · exact absurd h.symm hx
        · exact h
      have := ih hl'
      by_cases h : x ∈ vis
      · rw [if_pos h, if_pos (by simp [h])]; omega
      · rw [if_neg h, if_neg (by simp [h, hx])]; omega
theorem lefts_bound (f : Int → Nat) (b : Nat) (hb : ∀ u, f u ≤ b) (vis : List Int) (l : List Int) : lefts f vis l ≤ l.length * b := by
  induction l with
  | nil => simp [lefts]
  | cons x l ih =>
    unfold lefts
    have := hb x
    rw [List.length_cons, Nat.succ_mul]
    split <;> omega

/-- each node but the first one is come to from one ahead of it, and stands once -/
def OrdW (adj : Int → List Int) (s0 : Int) (vis : List Int) : Prop :=
  ∀ pre v post, vis = pre ++ v :: post → v ∉ pre ∧ ((pre = [] ∧ v = s0) ∨ ∃ u ∈ pre, v ∈ adj u)
theorem OrdW.nil (adj : Int → List Int) (s0 : Int) : OrdW adj s0 [] := by
  intro pre v post h
  cases pre <;> simp at h
theorem split_snoc {vis : List Int} {u : Int} {pre : List Int} {v : Int} {post : List Int} (h : vis ++ [u] = pre ++ v :: post) : (pre = vis ∧ v = u ∧ post = []) ∨ ∃ p', vis = pre ++ v :: p' ∧ post = p' ++ [u] := by
  rcases nil_or_snoc post with rfl | ⟨p, x, rfl⟩
  · left
    have := List.append_inj' h (by simp)
    exact ⟨this.1.symm, by simpa using this.2.symm, rfl⟩
  · right
    have h2 : vis ++ [u] = (pre ++ v :: p) ++ [x] := by rw [h]; simp
    have := List.append_inj' h2 (by simp)
    exact ⟨p, this.1, by rw [show u = x by simpa using this.2]⟩
theorem OrdW.snoc {adj : Int → List Int} {s0 : Int} {vis : List Int} {u : Int} (h : OrdW adj s0 vis) (hn : u ∉ vis) (hu : (vis = [] ∧ u = s0) ∨ ∃ w ∈ vis, u ∈ adj w) : OrdW adj s0 (vis ++ [u]) := by
  intro pre v post e
  rcases split_snoc e with ⟨rfl, rfl, rfl⟩ | ⟨p', e', rfl⟩
  · exact ⟨hn, hu⟩
  · exact h pre v p' e'

/-- what can be come to -/
def RchW (adj : Int → List Int) (s0 v : Int) : Prop := ∀ S : Int → Prop, S s0 → (∀ u, S u → ∀ x ∈ adj u, S x) → S v
theorem RchW.here {adj : Int → List Int} {s0 : Int} : RchW adj s0 s0 := fun _ h _ => h
theorem RchW.step {adj : Int → List Int} {s0 u v : Int} (h : RchW adj s0 u) (hv : v ∈ adj u) : RchW adj s0 v := fun S h0 hs => hs u (h S h0 hs) v hv
theorem OrdW.rch {adj : Int → List Int} {s0 : Int} {vis : List Int} (h : OrdW adj s0 vis) : ∀ n pre v post, pre.length ≤ n → vis = pre ++ v :: post → RchW adj s0 v := by
  intro n
  induction n with
  | zero =>
    intro pre v post hn e
    have : pre = [] := List.eq_nil_of_length_eq_zero (by omega)
    subst this
    rcases (h _ _ _ e).2 with ⟨_, rfl⟩ | ⟨u, hu, _⟩
    · exact .here
    · cases hu
  | succ n ih =>
    intro pre v post hn e
    rcases (h _ _ _ e).2 with ⟨_, rfl⟩ | ⟨u, hu, hv⟩
    · exact .here
    · obtain ⟨p1, p2, rfl⟩ := List.append_of_mem hu
      refine .step (ih p1 u (p2 ++ v :: post) ?_ (by rw [e]; simp)) hv
      rw [List.length_append, List.length_cons] at hn
      omega
end Go.Proofs.YtolbfjjgdheikaaGreat.R

/- A walk breadth first, in plain lists. -/
namespace Go.Proofs.YtolbfjjgdheikaaGreat.R

end Go.Proofs.YtolbfjjgdheikaaGreat.R

/- Walks through all of a graph, in plain lists: one part after the other. -/
namespace Go.Proofs.YtolbfjjgdheikaaGreat.R

/-- one part, depth first; v0: what was visited by elder parts -/
def dfsV (adj : Int → List Int) (v0 : List Int) : Nat → List Int → List Int → Option (List Int)
  | 0, _, _ => none
  | k + 1, stk, pt =>
    match stk.getLast? with
    | none => some pt
    | some u => if u ∈ v0 ++ pt then dfsV adj v0 k stk.dropLast pt else dfsV adj v0 k (stk.dropLast ++ adj u) (pt ++ [u])
theorem dfsV_nil (adj : Int → List Int) (v0 : List Int) (k : Nat) (pt : List Int) : dfsV adj v0 (k + 1) [] pt = some pt := rfl
theorem dfsV_snoc (adj : Int → List Int) (v0 : List Int) (k : Nat) (s : List Int) (u : Int) (pt : List Int) : dfsV adj v0 (k + 1) (s ++ [u]) pt = if u ∈ v0 ++ pt then dfsV adj v0 k s pt else dfsV adj v0 k (s ++ adj u) (pt ++ [u]) := by
  simp [dfsV]

/-- the new ones are put into the queue -/
def newQ (seen : List Int) : List Int → List Int → List Int
  | [], q => q
  | v :: l, q => if v ∈ seen ++ q then newQ seen l q else newQ seen l (q ++ [v])
theorem newQ_snoc (seen : List Int) (v : Int) : ∀ (l q : List Int), newQ seen (l ++ [v]) q = if v ∈ seen ++ newQ seen l q then newQ seen l q else newQ seen l q ++ [v] := by
  intro l
  induction l with
  | nil =>
    intro q
    rfl
  | cons x l ih =>
    intro q
    by_cases h : x ∈ seen ++ q
    · simp only [List.cons_append, newQ, if_pos h]; exact ih q
    · simp only [List.cons_append, newQ, if_neg h]; exact ih _
/-- one part, breadth first -/
def bfsV (adj : Int → List Int) (v0 : List Int) : Nat → List Int → List Int → Option (List Int)
  | 0, _, _ => none
  | _ + 1, [], pt => some pt
  | k + 1, u :: q, pt => bfsV adj v0 k (newQ (v0 ++ (pt ++ [u])) (adj u) q) (pt ++ [u])

/-- what a part is -/
structure PartOk (adj : Int → List Int) (v0 : List Int) (u : Int) (pt : List Int) : Prop where
  first : ∃ l, pt = u :: l
  nd : (v0 ++ pt).Nodup
  rch : ∀ v ∈ pt, RchW adj u v
  cl : ∀ x ∈ pt, ∀ y ∈ adj x, y ∈ v0 ∨ y ∈ pt

theorem newQ_mem (seen : List Int) : ∀ (l q : List Int) (x : Int), x ∈ newQ seen l q ↔ x ∈ q ∨ (x ∈ l ∧ x ∉ seen) := by
  intro l
  induction l with
  | nil => intro q x; simp [newQ]
  | cons v l ih =>
    intro q x
    by_cases h : v ∈ seen ++ q
    · simp only [newQ, if_pos h, ih]
      constructor
      · rintro (h1 | ⟨h1, h2⟩)
        · exact .inl h1
        · exact .inr ⟨by simp [h1], h2⟩
      · rintro (h1 | ⟨h1, h2⟩)
        · exact .inl h1
        · rcases List.mem_cons.1 h1 with rfl | h1
          · rcases List.mem_append.1 h with h | h
            · exact absurd h h2
            · exact .inl h
          · exact .inr ⟨h1, h2⟩
    · simp only [newQ, if_neg h, ih]
      constructor
      · rintro (h1 | ⟨h1, h2⟩)
        · rcases List.mem_append.1 h1 with h1 | h1
          · exact .inl h1
          · have : x = v := by simpa using h1
            subst this
            exact .inr ⟨by simp, fun e => h (by simp [e])⟩
        · exact .inr ⟨by simp [h1], h2⟩
      · rintro (h1 | ⟨h1, h2⟩)
        · exact .inl (by simp [h1])
        · rcases List.mem_cons.1 h1 with rfl | h1
          · exact .inl (by simp)
          · exact .inr ⟨h1, h2⟩
theorem newQ_nodup (seen : List Int) : ∀ (l q : List Int), (seen ++ q).Nodup → (seen ++ newQ seen l q).Nodup := by
  intro l
  induction l with
  | nil => intro q h; exact h
  | cons v l ih =>
    intro q h
    by_cases hv : v ∈ seen ++ q
    · simp only [newQ, if_pos hv]; exact ih q h
    · simp only [newQ, if_neg hv]
      refine ih _ ?_
      rw [← List.append_assoc, List.nodup_append]
      refine ⟨h, by simp, ?_⟩
      intro a ha b hb
      have : b = v := by simpa using hb
      subst this
      intro e
      exact hv (e ▸ ha)

theorem bfsV_ok (adj : Int → List Int) (v0 : List Int) (u : Int) : ∀ (k : Nat) (q pt r : List Int), (v0 ++ pt ++ q).Nodup → (∃ l, pt ++ q = u :: l) → (∀ x ∈ pt ++ q, RchW adj u x) →
    (∀ x ∈ pt, ∀ y ∈ adj x, y ∈ v0 ∨ y ∈ pt ∨ y ∈ q) → bfsV adj v0 k q pt = some r → PartOk adj v0 u r := by
  intro k
  induction k with
  | zero => intro q pt r _ _ _ _ h; simp [bfsV] at h
  | succ k ih =>
    intro q pt r hnd hf hr hc h
    cases q with
    | nil =>
      simp only [bfsV, Option.some.injEq] at h
      subst h
      simp only [List.append_nil] at hnd hf hr
      exact ⟨hf, hnd, hr, fun a ha b hb => by rcases hc a ha b hb with h | h | h; exact .inl h; exact .inr h; cases h⟩
    | cons x q =>
      simp only [bfsV] at h
      have hxr : RchW adj u x := hr x (by simp)
      have e1 : v0 ++ pt ++ x :: q = v0 ++ (pt ++ [x]) ++ q := by simp
      refine ih _ _ r ?_ ?_ ?_ ?_ h
      · exact newQ_nodup _ _ _ (e1 ▸ hnd)
      · obtain ⟨l, hl⟩ := hf
        cases pt with
        | nil => 
          simp only [List.nil_append, List.cons.injEq] at hl ⊢
          exact ⟨_, by rw [hl.1]; rfl⟩
        | cons y pt =>
          simp only [List.cons_append, List.cons.injEq] at hl ⊢
          exact ⟨_, hl.1, rfl⟩
      · intro y hy
        rcases List.mem_append.1 hy with h | h
        · exact hr y (by rcases List.mem_append.1 h with h | h; simp [h]; simp at h; simp [h])
        · rcases (newQ_mem _ _ _ _).1 h with h | ⟨h, _⟩
          · exact hr y (by simp [h])
          · exact hxr.step h
      · intro a ha b hb
        have hq : ∀ z, z ∈ q → z ∈ newQ (v0 ++ (pt ++ [x])) (adj x) q := fun z hz => (newQ_mem _ _ _ _).2 (.inl hz)
        rcases List.mem_append.1 ha with h | h
        · rcases hc a h b hb with h | h | h
          · exact .inl h
          · exact .inr (.inl (by simp [h]))
          · rcases List.mem_cons.1 h with rfl | h
            · exact .inr (.inl (by simp))
            · exact .inr (.inr (hq b h))
        · have : a = x := by simpa using h
          subst this
          by_cases hb2 : b ∈ v0 ++ (pt ++ [a])
          · rcases List.mem_append.1 hb2 with h | h
            · exact .inl h
            · exact .inr (.inl h)
          · exact .inr (.inr ((newQ_mem _ _ _ _).2 (.inr ⟨hb, hb2⟩)))

theorem newQ_left (seen nodes : List Int) : ∀ (l q : List Int), (∀ x ∈ l, x ∈ nodes) → (newQ seen l q).length + lefts (fun _ => 1) (seen ++ newQ seen l q) nodes ≤ q.length + lefts (fun _ => 1) (seen ++ q) nodes := by
  intro l
  induction l with
  | nil => intro q _; exact Nat.le_refl _
  | cons v l ih =>
    intro q hl
    by_cases hv : v ∈ seen ++ q
    · simp only [newQ, if_pos hv]; exact ih q (fun x hx => hl x (by simp [hx]))
    · simp only [newQ, if_neg hv]
      have h1 := ih (q ++ [v]) (fun x hx => hl x (by simp [hx]))
      have h2 := lefts_put (fun _ => 1) (seen ++ q) v hv nodes (hl v (by simp))
      rw [List.length_append, ← List.append_assoc] at h1
      simp only [List.length_cons, List.length_nil] at h1
      omega
theorem bfsV_ends (adj : Int → List Int) (v0 nodes : List Int) (hadj : ∀ u, ∀ v ∈ adj u, v ∈ nodes) : ∀ (k : Nat) (q pt : List Int), q.length + lefts (fun _ => 1) (v0 ++ pt ++ q) nodes < k → ∃ r, bfsV adj v0 k q pt = some r := by
  intro k
  induction k with
  | zero => intro _ _ h; omega
  | succ k ih =>
    intro q pt hk
    cases q with
    | nil => exact ⟨_, rfl⟩
    | cons u q =>
      simp only [bfsV]
      refine ih _ _ ?_
      have h1 := newQ_left (v0 ++ (pt ++ [u])) nodes (adj u) q (hadj u)
      have e1 : v0 ++ pt ++ u :: q = v0 ++ (pt ++ [u]) ++ q := by simp
      rw [e1] at hk
      simp only [List.length_cons] at hk
      omega
end Go.Proofs.YtolbfjjgdheikaaGreat.R

/- The parts of a graph whose edges go both ways: what they are, in plain lists. -/
namespace Go.Proofs.YtolbfjjgdheikaaGreat.R

theorem RchW.trans {adj : Int → List Int} {a b c : Int} (h : RchW adj a b) (h2 : RchW adj b c) : RchW adj a c := fun S h0 hs => h2 S (h S h0 hs) hs
theorem RchW.symm {adj : Int → List Int} (hsy : ∀ u v, v ∈ adj u → u ∈ adj v) {a b : Int} (h : RchW adj a b) : RchW adj b a :=
  h (fun x => RchW adj x a) RchW.here (fun u hu x hx => (RchW.here.step (hsy u x hx)).trans hu)

/-- what the parts are -/
structure Comps (adj : Int → List Int) (ns : List Int) (out : List (List Int)) : Prop where
  parts : ∀ pt ∈ out, ∃ u ∈ ns, ∃ l, pt = u :: l ∧ (∀ v, v ∈ pt ↔ RchW adj u v) ∧ pt.Nodup ∧ ∀ w ∈ ns, RchW adj u w → u ≤ w
  all : ∀ w ∈ ns, ∃ pt ∈ out, w ∈ pt
  heads : out.Pairwise fun a b => a.headD 0 < b.headD 0

open Classical in
/-- the parts as they are told: ascending, by their least nodes -/
noncomputable def canonC (R : Int → Int → Prop) (ns : List Int) : List (List Int) :=
  (ns.filter fun u => decide (∀ w ∈ ns, R u w → u ≤ w)).map fun u => ns.filter fun v => decide (R u v)

theorem asc_ext : ∀ {a b : List Int}, a.Pairwise (· < ·) → b.Pairwise (· < ·) → (∀ x, x ∈ a ↔ x ∈ b) → a = b := by
  intro a
  induction a with
  | nil =>
    intro b _ _ h
    cases b with
    | nil => rfl
    | cons y b => exact absurd ((h y).2 (by simp)) (by simp)
  | cons x a ih =>
    intro b ha hb h
    cases b with
    | nil => exact absurd ((h x).1 (by simp)) (by simp)
    | cons y b =>
      have ha' := List.pairwise_cons.1 ha
      have hb' := List.pairwise_cons.1 hb
      have hxy : x = y := by
        rcases List.mem_cons.1 ((h x).1 (by simp)) with e | e
        · exact e
        · rcases List.mem_cons.1 ((h y).2 (by simp)) with e2 | e2
          · exact e2.symm
          · have h1 := ha'.1 y e2
            have h2 := hb'.1 x e
            omega
      subst hxy
      congr 1
      refine ih ha'.2 hb'.2 fun z => ?_
      constructor
      · intro hz
        rcases List.mem_cons.1 ((h z).1 (by simp [hz])) with e | e
        · have := ha'.1 z hz; omega
        · exact e
      · intro hz
        rcases List.mem_cons.1 ((h z).2 (by simp [hz])) with e | e
        · have := hb'.1 z hz; omega
        · exact e

open Classical in
theorem Comps.canon {adj : Int → List Int} {ns : List Int} {out : List (List Int)} (hns : ns.Pairwise (· < ·)) (hsy : ∀ u v, v ∈ adj u → u ∈ adj v) (h : Comps adj ns out) :
    out.map (fun pt => ns.filter fun v => decide (v ∈ pt)) = canonC (RchW adj) ns := by
  have hheads : out.map (·.headD 0) = ns.filter fun u => decide (∀ w ∈ ns, RchW adj u w → u ≤ w) := by
    refine asc_ext ?_ (hns.filter _) ?_
    · rw [List.pairwise_map]; exact h.heads
    · intro x
      rw [List.mem_map, List.mem_filter]
      constructor
      · rintro ⟨pt, hpt, rfl⟩
        obtain ⟨u, hu, l, rfl, _, _, hmin⟩ := h.parts pt hpt
        exact ⟨hu, by simpa using hmin⟩
      · rintro ⟨hx, hmin⟩
        have hmin' := of_decide_eq_true hmin
        obtain ⟨pt, hpt, hxp⟩ := h.all x hx
        obtain ⟨u, hu, l, e, hm, _, hmn⟩ := h.parts pt hpt
        refine ⟨pt, hpt, ?_⟩
        have hr := (hm x).1 hxp
        have h1 := hmn x hx hr
        have h2 := hmin' u hu (RchW.symm hsy hr)
        rw [e]
        show u = x
        omega
  unfold canonC
  rw [← hheads, List.map_map]
  apply List.map_congr_left
  intro pt hpt
  obtain ⟨u, hu, l, e, hm, _, _⟩ := h.parts pt hpt
  simp only [Function.comp]
  apply List.filter_congr
  intro v _
  rw [e] at hm ⊢
  exact decide_eq_decide.2 (hm v)
end Go.Proofs.YtolbfjjgdheikaaGreat.R

/- One more edge: what becomes of the parts, in plain lists. -/
namespace Go.Proofs.YtolbfjjgdheikaaGreat.R

/-- one list stands ahead of another one -/
def lexB : List Int → List Int → Bool
  | [], b => !b.isEmpty
  | _ :: _, [] => false
  | x :: a, y :: b => if x = y then lexB a b else decide (x < y)
theorem lexB_asymm : ∀ {a b : List Int}, lexB a b = true → lexB b a = false := by
  intro a
  induction a with
  | nil =>
    intro b h
    cases b with
    | nil => simp [lexB] at h
    | cons y b => rfl
  | cons x a ih =>
    intro b h
    cases b with
    | nil => simp [lexB] at h
    | cons y b =>
      unfold lexB at h ⊢
      by_cases e : x = y
      · rw [if_pos e] at h
        rw [if_pos e.symm]
        exact ih h
      · rw [if_neg e] at h
        rw [if_neg (fun e2 => e e2.symm)]
        simp at h ⊢
        omega
theorem lexB_total : ∀ {a b : List Int}, lexB a b = false → lexB b a = false → a = b := by
  intro a
  induction a with
  | nil =>
    intro b h _
    cases b with
    | nil => rfl
    | cons y b => simp [lexB] at h
  | cons x a ih =>
    intro b h h2
    cases b with
    | nil => simp [lexB] at h2
    | cons y b =>
      unfold lexB at h h2
      by_cases e : x = y
      · rw [if_pos e] at h
        rw [if_pos e.symm] at h2
        rw [e, ih h h2]
      · rw [if_neg e] at h
        rw [if_neg (fun e2 => e e2.symm)] at h2
        simp at h h2
        omega
theorem lexB_trans : ∀ {a b c : List Int}, lexB a b = true → lexB b c = true → lexB a c = true := by
  intro a
  induction a with
  | nil =>
    intro b c h h2
    cases c with
    | nil => cases b <;> simp [lexB] at h h2
    | cons z c => rfl
  | cons x a ih =>
    intro b c h h2
    cases b with
    | nil => simp [lexB] at h
    | cons y b =>
      cases c with
      | nil => simp [lexB] at h2
      | cons z c =>
        unfold lexB at h h2 ⊢
        by_cases e : x = y
        · subst e
          rw [if_pos rfl] at h
          by_cases e2 : x = z
          · rw [if_pos e2] at h2 ⊢
            exact ih h h2
          · rw [if_neg e2] at h2 ⊢
            exact h2
        · rw [if_neg e] at h
          by_cases e2 : y = z
          · subst e2
            rw [if_neg e]; exact h
          · rw [if_neg e2] at h2
            simp at h h2
            rw [if_neg (by omega)]
            simp; omega
/-- lists in a strict order with the same members are the same -/
theorem ord_ext {α : Type} (r : α → α → Prop) (has : ∀ x y, r x y → ¬ r y x) : ∀ {a b : List α}, a.Pairwise r → b.Pairwise r → (∀ x, x ∈ a ↔ x ∈ b) → a = b := by
  have hir : ∀ x, ¬ r x x := fun x h => has x x h h
  intro a
  induction a with
  | nil =>
    intro b _ _ h
    cases b with
    | nil => rfl
    | cons y b => exact absurd ((h y).2 (by simp)) (by simp)
  | cons x a ih =>
    intro b ha hb h
    cases b with
    | nil => exact absurd ((h x).1 (by simp)) (by simp)
    | cons y b =>
      have ha' := List.pairwise_cons.1 ha
      have hb' := List.pairwise_cons.1 hb
      have hxy : x = y := by
        rcases List.mem_cons.1 ((h x).1 (by simp)) with e | e
        · exact e
        · rcases List.mem_cons.1 ((h y).2 (by simp)) with e2 | e2
          · exact e2.symm
          · exact absurd (hb'.1 x e) (has _ _ (ha'.1 y e2))
      subst hxy
      congr 1
      refine ih ha'.2 hb'.2 fun z => ?_
      constructor
      · intro hz
        rcases List.mem_cons.1 ((h z).1 (by simp [hz])) with e | e
        · subst e; exact absurd (ha'.1 z hz) (hir z)
        · exact e
      · intro hz
        rcases List.mem_cons.1 ((h z).2 (by simp [hz])) with e | e
        · subst e; exact absurd (hb'.1 z hz) (hir z)
        · exact e

section
open Classical
variable {adj adj' : Int → List Int} {ns : List Int} {u v : Int}

theorem least_of (R : Int → Int → Prop) (hns : ns.Pairwise (· < ·)) {w : Int} (hw : w ∈ ns) (hr : R w w) : ∃ m ∈ ns, R w m ∧ ∀ x ∈ ns, R w x → m ≤ x := by
  cases e : ns.filter (fun x => decide (R w x)) with
  | nil =>
    have : w ∈ ns.filter (fun x => decide (R w x)) := List.mem_filter.2 ⟨hw, by simpa using hr⟩
    rw [e] at this; cases this
  | cons m l =>
    have hm : m ∈ ns.filter (fun x => decide (R w x)) := by rw [e]; simp
    have hm2 := List.mem_filter.1 hm
    refine ⟨m, hm2.1, by simpa using hm2.2, fun x hx hrx => ?_⟩
    have hx2 : x ∈ ns.filter (fun x => decide (R w x)) := List.mem_filter.2 ⟨hx, by simpa using hrx⟩
    have hp := hns.filter (fun x => decide (R w x))
    rw [e] at hx2 hp
    rcases List.mem_cons.1 hx2 with rfl | h
    · exact Int.le_refl _
    · exact Int.le_of_lt ((List.pairwise_cons.1 hp).1 x h)

/-- a way among the parts: R is an equivalence -/
structure Eqv (R : Int → Int → Prop) : Prop where
  refl : ∀ a, R a a
  symm : ∀ a b, R a b → R b a
  trans : ∀ a b c, R a b → R b c → R a c
theorem rch_eqv (hsy : ∀ u v, v ∈ adj u → u ∈ adj v) : Eqv (RchW adj) := ⟨fun _ => RchW.here, fun _ _ h => h.symm hsy, fun _ _ _ h h2 => h.trans h2⟩
theorem Eqv.same {R : Int → Int → Prop} (h : Eqv R) {a b : Int} (hab : R a b) : (fun x => decide (R a x)) = (fun x => decide (R b x)) := by
  funext x
  exact decide_eq_decide.2 ⟨fun h1 => h.trans _ _ _ (h.symm _ _ hab) h1, fun h1 => h.trans _ _ _ hab h1⟩

theorem canonC_mem {R : Int → Int → Prop} (h : Eqv R) (hns : ns.Pairwise (· < ·)) (l : List Int) : l ∈ canonC R ns ↔ ∃ w ∈ ns, l = ns.filter fun x => decide (R w x) := by
  unfold canonC
  rw [List.mem_map]
  constructor
  · rintro ⟨w, hw, rfl⟩
    exact ⟨w, (List.mem_filter.1 hw).1, rfl⟩
  · rintro ⟨w, hw, rfl⟩
    obtain ⟨m, hm, hr, hmin⟩ := least_of R hns hw (h.refl w)
    refine ⟨m, List.mem_filter.2 ⟨hm, decide_eq_true fun x hx hrx => hmin x hx (h.trans _ _ _ hr hrx)⟩, ?_⟩
    rw [h.same (h.symm _ _ hr)]

theorem canonC_head {R : Int → Int → Prop} (h : Eqv R) (hns : ns.Pairwise (· < ·)) {m : Int} (hm : m ∈ ns) (hmin : ∀ x ∈ ns, R m x → m ≤ x) : ∃ l, (ns.filter fun x => decide (R m x)) = m :: l := by
  have hmem : m ∈ ns.filter (fun x => decide (R m x)) := List.mem_filter.2 ⟨hm, decide_eq_true (h.refl m)⟩
  cases e : ns.filter (fun x => decide (R m x)) with
  | nil => rw [e] at hmem; cases hmem
  | cons y l =>
    have hy : y ∈ ns.filter (fun x => decide (R m x)) := by rw [e]; simp
    have hy2 := List.mem_filter.1 hy
    have h1 := hmin y hy2.1 (of_decide_eq_true hy2.2)
    have hp := hns.filter (fun x => decide (R m x))
    rw [e] at hmem hp
    rcases List.mem_cons.1 hmem with rfl | h2
    · exact ⟨l, rfl⟩
    · have := (List.pairwise_cons.1 hp).1 m h2
      omega

theorem canonC_lex {R : Int → Int → Prop} (h : Eqv R) (hns : ns.Pairwise (· < ·)) : (canonC R ns).Pairwise fun x y => lexB x y = true := by
  unfold canonC
  rw [List.pairwise_map]
  refine (List.Pairwise.and_mem.1 (hns.filter _)).imp ?_
  rintro a b ⟨ha, hb, hab⟩
  have ha2 := List.mem_filter.1 ha
  have hb2 := List.mem_filter.1 hb
  obtain ⟨l1, e1⟩ := canonC_head h hns ha2.1 (of_decide_eq_true ha2.2)
  obtain ⟨l2, e2⟩ := canonC_head h hns hb2.1 (of_decide_eq_true hb2.2)
  rw [e1, e2]
  unfold lexB
  rw [if_neg (by omega)]
  simpa using hab
end
end Go.Proofs.YtolbfjjgdheikaaGreat.R
