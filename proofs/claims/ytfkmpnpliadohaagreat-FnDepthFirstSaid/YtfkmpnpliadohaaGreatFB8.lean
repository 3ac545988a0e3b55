import Derived.KernelRfl
import Derived.Test.YtfkmpnpliadohaaGreatFB7
import Derived.BigRegion
import Derived.BigQuiet
import Derived.Deep.QuietTactic
import Derived.Laws.OwnMore
set_option linter.unusedVariables false
set_option linter.unusedSimpArgs false
/- A walk depth first, in plain lists. -/
namespace Go.Proofs.YtfkmpnpliadohaaGreat.R

/-- a walk depth first, round by round: the stack's top is its end -/
def dfsF (adj : Int → List Int) (t : Int) : Nat → List Int → List Int → Option (List Int × Option Int)
  | 0, _, _ => none
  | k + 1, stk, vis =>
    match stk.getLast? with
    | none => some (vis, none)
    | some u => if u ∈ vis then dfsF adj t k stk.dropLast vis else if u = t then some (vis ++ [u], some u) else dfsF adj t k (stk.dropLast ++ adj u) (vis ++ [u])
theorem dfsF_nil (adj : Int → List Int) (t : Int) (k : Nat) (vis : List Int) : dfsF adj t (k + 1) [] vis = some (vis, none) := rfl
theorem dfsF_snoc (adj : Int → List Int) (t : Int) (k : Nat) (s : List Int) (u : Int) (vis : List Int) : dfsF adj t (k + 1) (s ++ [u]) vis = if u ∈ vis then dfsF adj t k s vis else if u = t then some (vis ++ [u], some u) else dfsF adj t k (s ++ adj u) (vis ++ [u]) := by
  simp [dfsF]
theorem nil_or_snoc (l : List Int) : l = [] ∨ ∃ s u, l = s ++ [u] := by
  rcases List.eq_nil_or_concat l with h | ⟨s, u, h⟩
  · exact .inl h
  · exact .inr ⟨s, u, by rw [h, List.concat_eq_append]⟩

/-- what is still to be pushed by the nodes that were not visited -/
def lefts (f : Int → Nat) (vis : List Int) : List Int → Nat
  | [] => 0
  | x :: l => (if x ∈ vis then 0 else f x) + lefts f vis l
theorem lefts_le (f : Int → Nat) (vis : List Int) (u : Int) (l : List Int) : lefts f (vis ++ [u]) l ≤ lefts f vis l := by
  induction l with
  | nil => exact Nat.le_refl _
  | cons x l ih =>
    unfold lefts
    by_cases h : x ∈ vis
    · rw [if_pos h, if_pos (by simp [h])]; omega
    · rw [if_neg h]
      split <;> omega
theorem lefts_put (f : Int → Nat) (vis : List Int) (u : Int) (hu : u ∉ vis) (l : List Int) (hl : u ∈ l) : lefts f (vis ++ [u]) l + f u ≤ lefts f vis l := by
  induction l with
  | nil => cases hl
  | cons x l ih =>
    unfold lefts
    by_cases hx : x = u
    · subst hx
      rw [if_neg hu, if_pos (by simp)]
      have := lefts_le f vis x l
      omega
    · have hl' : u ∈ l := by
        rcases List.mem_cons.1 hl with h | h
        · exact absurd h.symm hx
        · exact h
      have := ih hl'
      by_cases h : x ∈ vis
      · rw [if_pos h, if_pos (by simp [h])]; omega
      · rw [if_neg h, if_neg (by simp [h, hx])]; omega
theorem lefts_bound (f : Int → Nat) (b : Nat) (hb : ∀ u, f u ≤ b) (vis : List Int) (l : List Int) : lefts f vis l ≤ l.length * b := by
  induction l with
  | nil => simp [lefts]
  | cons x l ih =>
    unfold lefts
    have := hb x
    rw [List.length_cons, Nat.succ_mul]
    split <;> omega

/-- there are rounds enough -/
theorem dfsF_ends (adj : Int → List Int) (t : Int) (nodes : List Int) (hadj : ∀ u, ∀ v ∈ adj u, v ∈ nodes) : ∀ (k : Nat) (stk vis : List Int), (∀ x ∈ stk, x ∈ nodes) → stk.length + lefts (fun u => (adj u).length) vis nodes < k → ∃ r, dfsF adj t k stk vis = some r := by
  intro k
  induction k with
  | zero => intro _ _ _ h; omega
  | succ k ih =>
    intro stk vis hs hk
    rcases nil_or_snoc stk with rfl | ⟨s, u, rfl⟩
    · exact ⟨_, dfsF_nil _ _ _ _⟩
    · rw [dfsF_snoc]
      have hlen : (s ++ [u]).length = s.length + 1 := by simp
      rw [hlen] at hk
      by_cases hu : u ∈ vis
      · rw [if_pos hu]
        exact ih s vis (fun x hx => hs x (by simp [hx])) (by omega)
      · rw [if_neg hu]
        by_cases ht : u = t
        · rw [if_pos ht]; exact ⟨_, rfl⟩
        · rw [if_neg ht]
          have hp : lefts (fun u => (adj u).length) (vis ++ [u]) nodes + (adj u).length ≤ lefts (fun u => (adj u).length) vis nodes := lefts_put (fun u => (adj u).length) vis u hu nodes (hs u (by simp))
          refine ih _ _ (fun x hx => ?_) (by rw [List.length_append]; omega)
          rcases List.mem_append.1 hx with h | h
          · exact hs x (by simp [h])
          · exact hadj u x h

/-- each node but the first one is come to from one ahead of it, and stands once -/
def OrdW (adj : Int → List Int) (s0 : Int) (vis : List Int) : Prop :=
  ∀ pre v post, vis = pre ++ v :: post → v ∉ pre ∧ ((pre = [] ∧ v = s0) ∨ ∃ u ∈ pre, v ∈ adj u)
theorem OrdW.nil (adj : Int → List Int) (s0 : Int) : OrdW adj s0 [] := by
  intro pre v post h
  cases pre <;> simp at h
theorem split_snoc {vis : List Int} {u : Int} {pre : List Int} {v : Int} {post : List Int} (h : vis ++ [u] = pre ++ v :: post) : (pre = vis ∧ v = u ∧ post = []) ∨ ∃ p', vis = pre ++ v :: p' ∧ post = p' ++ [u] := by
  rcases nil_or_snoc post with rfl | ⟨p, x, rfl⟩
  · left
    have := List.append_inj' h (by simp)
    exact ⟨this.1.symm, by simpa using this.2.symm, rfl⟩
  · right
    have h2 : vis ++ [u] = (pre ++ v :: p) ++ [x] := by rw [h]; simp
    have := List.append_inj' h2 (by simp)
    exact ⟨p, this.1, by rw [show u = x by simpa using this.2]⟩
theorem OrdW.snoc {adj : Int → List Int} {s0 : Int} {vis : List Int} {u : Int} (h : OrdW adj s0 vis) (hn : u ∉ vis) (hu : (vis = [] ∧ u = s0) ∨ ∃ w ∈ vis, u ∈ adj w) : OrdW adj s0 (vis ++ [u]) := by
  intro pre v post e
  rcases split_snoc e with ⟨rfl, rfl, rfl⟩ | ⟨p', e', rfl⟩
  · exact ⟨hn, hu⟩
  · exact h pre v p' e'

/-- what a walk depth first answers -/
structure DfsOk (adj : Int → List Int) (t s0 : Int) (r : List Int × Option Int) : Prop where
  ord : OrdW adj s0 r.1
  first : ∃ l, r.1 = s0 :: l
  fin : (r.2 = none ∧ t ∉ r.1 ∧ ∀ u ∈ r.1, ∀ v ∈ adj u, v ∈ r.1) ∨ (r.2 = some t ∧ ∃ l, r.1 = l ++ [t])

theorem dfsF_ok (adj : Int → List Int) (t s0 : Int) : ∀ (k : Nat) (stk vis : List Int) (r : List Int × Option Int), OrdW adj s0 vis → ((vis = [] ∧ stk = [s0]) ∨ ((∃ l, vis = s0 :: l) ∧ ∀ x ∈ stk, ∃ u ∈ vis, x ∈ adj u)) →
    t ∉ vis → (∀ u ∈ vis, ∀ v ∈ adj u, v ∈ vis ∨ v ∈ stk) → dfsF adj t k stk vis = some r → DfsOk adj t s0 r := by
  intro k
  induction k with
  | zero => intro stk vis r _ _ _ _ h; simp [dfsF] at h
  | succ k ih =>
    intro stk vis r ho hs ht hc h
    rcases nil_or_snoc stk with rfl | ⟨s, u, rfl⟩
    · rw [dfsF_nil] at h
      obtain rfl := Option.some.inj h
      rcases hs with ⟨_, h2⟩ | ⟨h1, _⟩
      · cases h2
      · refine ⟨ho, h1, .inl ⟨rfl, ht, fun u hu v hv => ?_⟩⟩
        rcases hc u hu v hv with h | h
        · exact h
        · cases h
    · rw [dfsF_snoc] at h
      by_cases hu : u ∈ vis
      · rw [if_pos hu] at h
        refine ih s vis r ho ?_ ht ?_ h
        · rcases hs with ⟨h1, _⟩ | ⟨h1, h2⟩
          · subst h1; cases hu
          · exact .inr ⟨h1, fun x hx => h2 x (by simp [hx])⟩
        · intro a ha v hv
          rcases hc a ha v hv with h | h
          · exact .inl h
          · rcases List.mem_append.1 h with h | h
            · exact .inr h
            · rw [List.mem_singleton] at h; subst h; exact .inl hu
      · rw [if_neg hu] at h
        have hpre : (vis = [] ∧ u = s0) ∨ ∃ w ∈ vis, u ∈ adj w := by
          rcases hs with ⟨h1, h2⟩ | ⟨_, h2⟩
          · left
            refine ⟨h1, ?_⟩
            have := List.append_inj' (show s ++ [u] = [] ++ [s0] from h2) (by simp)
            simpa using this.2
          · exact .inr (h2 u (by simp))
        have hfirst : ∃ l, vis ++ [u] = s0 :: l := by
          rcases hs with ⟨h1, h2⟩ | ⟨⟨l, h1⟩, _⟩
          · subst h1
            have := List.append_inj' (show s ++ [u] = [] ++ [s0] from h2) (by simp)
            exact ⟨[], by simpa using this.2⟩
          · exact ⟨l ++ [u], by rw [h1]; rfl⟩
        by_cases hut : u = t
        · rw [if_pos hut] at h
          obtain rfl := Option.some.inj h
          subst hut
          exact ⟨ho.snoc hu hpre, hfirst, .inr ⟨rfl, vis, rfl⟩⟩
        · rw [if_neg hut] at h
          refine ih _ _ r (ho.snoc hu hpre) (.inr ⟨hfirst, fun x hx => ?_⟩) ?_ ?_ h
          · rcases List.mem_append.1 hx with hx | hx
            · rcases hs with ⟨_, h2⟩ | ⟨_, h2⟩
              · have := List.append_inj' (show s ++ [u] = [] ++ [s0] from h2) (by simp)
                rw [this.1] at hx; cases hx
              · obtain ⟨w, hw, hx'⟩ := h2 x (by simp [hx])
                exact ⟨w, by simp [hw], hx'⟩
            · exact ⟨u, by simp, hx⟩
          · intro hm
            rcases List.mem_append.1 hm with hm | hm
            · exact ht hm
            · rw [List.mem_singleton] at hm; exact hut hm.symm
          · intro a ha v hv
            rcases List.mem_append.1 ha with ha | ha
            · rcases hc a ha v hv with h | h
              · exact .inl (by simp [h])
              · rcases List.mem_append.1 h with h | h
                · exact .inr (by simp [h])
                · rw [List.mem_singleton] at h; subst h; exact .inl (by simp)
            · rw [List.mem_singleton] at ha; subst ha; exact .inr (by simp [hv])
theorem dfs_ok {adj : Int → List Int} {t s0 : Int} {k : Nat} {r : List Int × Option Int} (h : dfsF adj t k [s0] [] = some r) : DfsOk adj t s0 r :=
  dfsF_ok adj t s0 k [s0] [] r (OrdW.nil _ _) (.inl ⟨rfl, rfl⟩) (by simp) (fun u hu => by cases hu) h

/-- what can be come to -/
def RchW (adj : Int → List Int) (s0 v : Int) : Prop := ∀ S : Int → Prop, S s0 → (∀ u, S u → ∀ x ∈ adj u, S x) → S v
theorem RchW.here {adj : Int → List Int} {s0 : Int} : RchW adj s0 s0 := fun _ h _ => h
theorem RchW.step {adj : Int → List Int} {s0 u v : Int} (h : RchW adj s0 u) (hv : v ∈ adj u) : RchW adj s0 v := fun S h0 hs => hs u (h S h0 hs) v hv
theorem OrdW.rch {adj : Int → List Int} {s0 : Int} {vis : List Int} (h : OrdW adj s0 vis) : ∀ n pre v post, pre.length ≤ n → vis = pre ++ v :: post → RchW adj s0 v := by
  intro n
  induction n with
  | zero =>
    intro pre v post hn e
    have : pre = [] := List.eq_nil_of_length_eq_zero (by omega)
    subst this
    rcases (h _ _ _ e).2 with ⟨_, rfl⟩ | ⟨u, hu, _⟩
    · exact .here
    · cases hu
  | succ n ih =>
    intro pre v post hn e
    rcases (h _ _ _ e).2 with ⟨_, rfl⟩ | ⟨u, hu, hv⟩
    · exact .here
    · obtain ⟨p1, p2, rfl⟩ := List.append_of_mem hu
      refine .step (ih p1 u (p2 ++ v :: post) ?_ (by rw [e]; simp)) hv
      rw [List.length_append, List.length_cons] at hn
      omega
theorem OrdW.rch' {adj : Int → List Int} {s0 : Int} {vis : List Int} (h : OrdW adj s0 vis) {v : Int} (hv : v ∈ vis) : RchW adj s0 v := by
  obtain ⟨p1, p2, e⟩ := List.append_of_mem hv
  exact h.rch p1.length p1 v p2 (Nat.le_refl _) e
theorem OrdW.nodup {adj : Int → List Int} {s0 : Int} : ∀ {vis : List Int}, OrdW adj s0 vis → vis.Nodup := by
  intro vis
  suffices h : ∀ n (vis : List Int), vis.length = n → OrdW adj s0 vis → vis.Nodup from h _ vis rfl
  intro n
  induction n with
  | zero => intro vis hl _; rw [List.eq_nil_of_length_eq_zero hl]; exact List.nodup_nil
  | succ n ih =>
    intro vis hl h
    rcases nil_or_snoc vis with rfl | ⟨s, u, rfl⟩
    · exact List.nodup_nil
    · have hs : OrdW adj s0 s := fun pre v post e => h pre v (post ++ [u]) (by rw [e]; simp)
      have hu := (h s u [] rfl).1
      rw [List.nodup_append]
      refine ⟨ih s (by simp at hl; omega) hs, by simp, fun a ha b hb => ?_⟩
      rw [List.mem_singleton] at hb
      subst hb
      exact fun e => hu (e ▸ ha)
theorem closed_rch {adj : Int → List Int} {s0 : Int} {l : List Int} (h0 : s0 ∈ l) (h : ∀ u ∈ l, ∀ v ∈ adj u, v ∈ l) {v : Int} (hr : RchW adj s0 v) : v ∈ l := by
  exact hr (fun x => x ∈ l) h0 h
end Go.Proofs.YtfkmpnpliadohaaGreat.R

set_option linter.unusedVariables false
set_option linter.unusedSimpArgs false
/- A walk breadth first, in plain lists. -/
namespace Go.Proofs.YtfkmpnpliadohaaGreat.R

/-- the depth of a node is told -/
def putD (u d : Int) (vs : List (Int × Int)) : List (Int × Int) := vs.map fun p => if p.1 = u then (p.1, d) else p
theorem putD_fst (u d : Int) (vs : List (Int × Int)) : (putD u d vs).map Prod.fst = vs.map Prod.fst := by
  unfold putD
  rw [List.map_map]
  apply List.map_congr_left
  intro p _
  simp only [Function.comp]
  split <;> rfl
theorem putD_len (u d : Int) (vs : List (Int × Int)) : (putD u d vs).length = vs.length := by simp [putD]
/-- the neighbours are gone through -/
def bfsIn : List Int → List (Int × Int) → List Int → Int → List (Int × Int) × List Int × Int
  | [], vs, q, c => (vs, q, c)
  | v :: l, vs, q, c => if v ∈ vs.map Prod.fst then bfsIn l vs q c else bfsIn l (vs ++ [(v, -1)]) (q ++ [v]) (c + 1)
theorem bfsIn_snoc (v : Int) : ∀ (l : List Int) (vs : List (Int × Int)) (q : List Int) (c : Int),
    bfsIn (l ++ [v]) vs q c = (if v ∈ (bfsIn l vs q c).1.map Prod.fst then bfsIn l vs q c else ((bfsIn l vs q c).1 ++ [(v, -1)], (bfsIn l vs q c).2.1 ++ [v], (bfsIn l vs q c).2.2 + 1)) := by
  intro l
  induction l with
  | nil =>
    intro vs q c
    by_cases h : v ∈ vs.map Prod.fst
    · rw [if_pos (show v ∈ (bfsIn [] vs q c).1.map Prod.fst from h)]
      show (if v ∈ vs.map Prod.fst then bfsIn [] vs q c else _) = _
      rw [if_pos h]
    · rw [if_neg (show ¬ v ∈ (bfsIn [] vs q c).1.map Prod.fst from h)]
      show (if v ∈ vs.map Prod.fst then bfsIn [] vs q c else bfsIn [] (vs ++ [(v, -1)]) (q ++ [v]) (c + 1)) = _
      rw [if_neg h]; rfl
  | cons x l ih =>
    intro vs q c
    rw [List.cons_append]
    unfold bfsIn
    split
    · exact ih _ _ _
    · exact ih _ _ _
/-- a walk breadth first, round by round -/
def bfsF (adj : Int → List Int) (t : Int) : Nat → List Int → List (Int × Int) → Int → Int → Int → Option (List (Int × Int) × Option Int)
  | 0, _, _, _, _, _ => none
  | _ + 1, [], vs, _, _, _ => some (vs, none)
  | k + 1, u :: q, vs, d, c, n =>
    if u = t then some (putD u d vs, some u) else
    if n - 1 = 0 then bfsF adj t k (bfsIn (adj u) (putD u d vs) q c).2.1 (bfsIn (adj u) (putD u d vs) q c).1 (d + 1) 0 (bfsIn (adj u) (putD u d vs) q c).2.2
    else bfsF adj t k (bfsIn (adj u) (putD u d vs) q c).2.1 (bfsIn (adj u) (putD u d vs) q c).1 d (bfsIn (adj u) (putD u d vs) q c).2.2 (n - 1)

/-- what a round adds -/
theorem bfsIn_size : ∀ (l : List Int) (vs : List (Int × Int)) (q : List Int) (c : Int),
    ∃ k : Nat, k ≤ l.length ∧ (bfsIn l vs q c).1.length = vs.length + k ∧ (bfsIn l vs q c).2.1.length = q.length + k ∧ (bfsIn l vs q c).2.2 = c + k := by
  intro l
  induction l with
  | nil => intro vs q c; exact ⟨0, Nat.le_refl _, rfl, rfl, by simp [bfsIn]⟩
  | cons x l ih =>
    intro vs q c
    unfold bfsIn
    split
    · obtain ⟨k, h1, h2⟩ := ih vs q c
      exact ⟨k, by rw [List.length_cons]; omega, h2⟩
    · obtain ⟨k, h1, h2, h3, h4⟩ := ih (vs ++ [(x, -1)]) (q ++ [x]) (c + 1)
      refine ⟨k + 1, by rw [List.length_cons]; omega, ?_, ?_, ?_⟩
      · rw [h2, List.length_append, List.length_singleton]; omega
      · rw [h3, List.length_append, List.length_singleton]; omega
      · rw [h4]; omega
theorem bfsIn_memq : ∀ (l : List Int) (vs : List (Int × Int)) (q : List Int) (c : Int) (S : Int → Prop), (∀ x ∈ l, S x) → (∀ x ∈ q, S x) → ∀ x ∈ (bfsIn l vs q c).2.1, S x := by
  intro l
  induction l with
  | nil => intro vs q c S _ h1; exact h1
  | cons x l ih =>
    intro vs q c S h0 h1
    unfold bfsIn
    split
    · exact ih vs q c S (fun y hy => h0 y (by simp [hy])) h1
    · refine ih _ _ _ S (fun y hy => h0 y (by simp [hy])) (fun y hy => ?_)
      rcases List.mem_append.1 hy with h | h
      · exact h1 y h
      · rw [List.mem_singleton] at h; subst h; exact h0 y (by simp)
end Go.Proofs.YtfkmpnpliadohaaGreat.R

set_option linter.unusedVariables false
set_option linter.unusedSimpArgs false
/- A queue of nodes. -/
namespace Go.Proofs.YtfkmpnpliadohaaGreat.R
open Go.RowKit Go.Lab Go.Maps Go.Proofs.YtfkmpnpliadohaaGreatW.PrintWords Go.Proofs.YtfkmpnpliadohaaGreatW.PrintLast Go.Proofs.YtfkmpnpliadohaaGreatW.PrintMore PL

/-- a walk's object in block gd with its queue -/
structure Que (lo : Nat) (w : World) (gd : Nat) (vf tf mp st : Value) (jk : List Value) (xs : List Int) : Prop where
  blk : w.heap[gd]? = some (.cells #[vf, tf, .int .i64 (jk.length : Int), st, mp] 116 (0, 0))
  own : w.ownsRow lo 105 1 st (jk.length + xs.length) (jk ++ nodeVs xs)
  ne : xs = [] → jk = []
theorem Que.apart {lo : Nat} {w : World} {gd : Nat} {vf tf mp st : Value} {jk : List Value} {xs : List Int} (h : Que lo w gd vf tf mp st jk xs) : st.ownBlock ≠ some gd := fun e => by
  obtain ⟨c, hc⟩ := own_block h.own e
  exact absurd (blk_type h.blk hc) (by decide)
theorem Que.stay {lo : Nat} {w w1 : World} {gd : Nat} {vf tf mp st : Value} {jk : List Value} {xs : List Int} (h : Que lo w gd vf tf mp st jk xs) (h1 : w1.heap[gd]? = w.heap[gd]?) (h2 : ∀ k, st.ownBlock = some k → w1.heap[k]? = w.heap[k]?) : Que lo w1 gd vf tf mp st jk xs :=
  ⟨h1.trans h.blk, own_of_heap h.own h2, h.ne⟩
/-- which blocks a step of the queue turns -/
def QM (gd : Nat) (st : Value) (k : Nat) : Prop := k = gd ∨ st.ownBlock = some k

set_option maxHeartbeats 1000000 in
theorem qlen0_any (lo gd : Nat) (vf tf mp st : Value) (jk : List Value) (xs : List Int) (w : World) (hb : w.heap[gd]? = some (.cells #[vf, tf, .int .i64 (jk.length : Int), st, mp] 116 (0, 0))) (ho : w.ownsRow lo 105 1 st (jk.length + xs.length) (jk ++ nodeVs xs)) (hn : jk.length + xs.length ≤ 10000000) :
    Calls Tryz.prog 115 #[.pointer (some ⟨gd, 2, none⟩)] w fun e w' => e = .returned (.int .i64 xs.length) ∧ Below w.heap.size w w' := by
  obtain ⟨A, c, rfl⟩ := own_slice ho
  have h3 : w.cell? ⟨gd, 3, none⟩ = some (.slice A (jk.length + xs.length) c) := (blk_cell hb 3).trans rfl
  have h2 : w.cell? ⟨gd, 2, none⟩ = some (.int .i64 (jk.length : Int)) := (blk_cell hb 2).trans rfl
  clear hb ho
  have HE := Aside0.mk (show (jk.length : Int) + (xs.length : Int) - (jk.length : Int) = (xs.length : Int) by omega)
  go_enter Tryz.func115, Tryz.ntmps115
  go_wp2
  go_region
  all_goals
    go_wp2
    go_ret
    exact ⟨by show Ending.returned (.int .i64 ((jk.length : Int) + (xs.length : Int) - (jk.length : Int))) = _; rw [HE.out], by repeat (first | exact Below.refl _ _ | apply below_drew1 | apply pw_below_drewN)⟩
theorem qlen_any (lo gd : Nat) (vf tf mp st : Value) (jk : List Value) (xs : List Int) (w : World) (h : Que lo w gd vf tf mp st jk xs) (hn : jk.length + xs.length ≤ 10000000) :
    Calls Tryz.prog 115 #[.pointer (some ⟨gd, 2, none⟩)] w fun e w' => e = .returned (.int .i64 xs.length) ∧ Below w.heap.size w w' :=
  qlen0_any lo gd vf tf mp st jk xs w h.blk h.own hn

theorem Que.put {lo : Nat} {w : World} {gd : Nat} {vf tf mp hd st st' : Value} {jk : List Value} {ys : List Int} (h : w.heap[gd]? = some (.cells #[vf, tf, hd, st, mp] 116 (0, 0))) (hh : hd = .int .i64 (jk.length : Int)) (ho : w.ownsRow lo 105 1 st' (jk.length + ys.length) (jk ++ nodeVs ys)) (hne : st'.ownBlock ≠ some gd) (he : ys = [] → jk = []) : Que lo (w.setCell ⟨gd, 3, none⟩ st') gd vf tf mp st' jk ys := by
  subst hh
  exact ⟨blk_put (cs := #[vf, tf, .int .i64 (jk.length : Int), st, mp]) h 3 _ rfl, own_of_heap ho fun k hk => Below.heap_setCell _ _ _ _ (fun e => hne (by rw [hk, e])), he⟩

/-- the queue's row, its end moved to its beginning -/
theorem own_moved {w w1 : World} {lo g n c : Nat} {cur : List Value} {jk : List Value} {xs : List Int} (h : w.ownsRow lo 105 1 (.slice (some ⟨g, 0, none⟩) n c) n (jk ++ nodeVs xs)) (hcur : w.heap[g]? = some (.cells cur.toArray 105 (0, 0)))
    (h1 : w1.heap[g]? = some (.cells (splice cur 0 (nodeVs xs)).toArray 105 (0, 0))) : w1.ownsRow lo 105 1 (.slice (some ⟨g, 0, none⟩) xs.length c) xs.length (nodeVs xs) := by
  have hl := h.1
  rw [List.length_append, nodeVs_len] at hl
  rcases h.2 with ⟨hv, _⟩ | ⟨g', cap, cu, hv, hb, hg, hn, hc, hs, ht⟩
  · cases hv
  · simp only [Value.slice.injEq, Option.some.injEq, Addr.mk.injEq] at hv
    obtain ⟨⟨rfl, _⟩, _, rfl⟩ := hv
    rw [hcur] at hg
    simp only [Option.some.injEq, Obj.cells.injEq] at hg
    obtain ⟨rfl, _⟩ := hg
    simp only [List.size_toArray] at hs
    refine ⟨by rw [nodeVs_len]; omega, .inr ⟨g, c, _, rfl, hb, h1, by omega, hc, ?_, ?_⟩⟩
    · simp only [splice, List.size_toArray, List.length_append, List.length_take, List.length_drop, nodeVs_len]; omega
    · simp only [splice, List.take_zero, List.nil_append]
      rw [show xs.length * 1 = (nodeVs xs).length by rw [nodeVs_len]; omega]
      exact List.take_left

theorem grown_drewN (w : World) (n : Nat) (row : Option Nat) : w.grownBy (w.drewN n) row := ⟨rfl, rfl, rfl, Nat.le_refl _, fun _ _ _ => rfl⟩
theorem own_drewN {w : World} {base : Nat} {e : TypeId} {size n : Nat} {v : Value} {xs : List Value} (h : w.ownsRow base e size v n xs) (k : Nat) : (w.drewN k).ownsRow base e size v n xs := h

set_option maxHeartbeats 2000000 in
set_option maxRecDepth 100000 in
theorem enq_plain (lo gd : Nat) (vf tf mp : Value) (A : Option Addr) (c : Nat) (jk : List Value) (xs : List Int) (x : Int) (b1 b2 : Bool) (w : World) (h : Que lo w gd vf tf mp (.slice A (jk.length + xs.length) c) jk xs) (hn : jk.length + xs.length ≤ 10000000) (hlo : lo ≤ w.heap.size)
    (hb1 : ((jk.length : Int) + (xs.length : Int) == (c : Int)) = b1) (hb2 : decide (0 < jk.length) = b2) (hb : (b1 && b2) = false) (hj : jk ≠ [] → xs ≠ []) :
    Calls Tryz.prog 112 #[.pointer (some ⟨gd, 2, none⟩), .iface 118 (.int .i64 x)] w fun e w' => e = .returned (.tuple #[]) ∧ ∃ st' jk', Que lo w' gd vf tf mp st' jk' (xs ++ [x]) ∧ jk'.length ≤ jk.length ∧ KeepF (QM gd (.slice A (jk.length + xs.length) c)) w w' ∧ (st'.ownBlock = (Value.slice A (jk.length + xs.length) c).ownBlock ∨ ∃ q, st'.ownBlock = some q ∧ w.heap.size ≤ q) := by
  have h3 : w.cell? ⟨gd, 3, none⟩ = some (.slice A (jk.length + xs.length) c) := (blk_cell h.blk 3).trans rfl
  have h2 : w.cell? ⟨gd, 2, none⟩ = some (.int .i64 (jk.length : Int)) := (blk_cell h.blk 2).trans rfl
  have hf := blk_frozen h.blk 3
  have HB := Aside0.mk h
  have hgl := blk_lt h.blk
  obtain ⟨i0, hi, hz0, hz1, hz2⟩ := info_parts Tryz.info105
  have HI := Aside0.mk (And.intro hi (And.intro hz0 (And.intro hz1 hz2)))
  have HL := Aside0.mk (show (jk ++ nodeVs xs).length = jk.length + xs.length by rw [List.length_append, nodeVs_len])
  clear h hi hz0 hz1 hz2
  cases b1 <;> cases b2 <;> first | (exact absurd hb (by decide)) | skip
  all_goals
    clear hb
    go_enter Tryz.func112, Tryz.ntmps112
    go_wp2
    go_quiet (fail)
    go_wp2_with (at_builtin; refine wpList_append_own_at _ rfl _ _ 110 rfl lo 105 i0 .nilIface 1 16 Tryz.underlying110 HI.out.1 HI.out.2.1 HI.out.2.2.1 HI.out.2.2.2 rfl (by decide) _ (jk.length + xs.length) (jk ++ nodeVs xs) rfl (World.ownsRow.alloc (own_drewN HB.out.own nq) _) ⟨w.heap.size, 0, none⟩ 1 1 [.iface 118 (.int .i64 x)] rfl rfl (cell_one_new (w.drewN nq) _ _) (by intro u hu; simp at hu; subst hu; rfl) (by unfold maxLen; omega) (by omega) (by simp; omega) ?_; intro v' w1 hown hgr _ hat; have HOW := Aside0.mk (And.intro hown (And.intro hgr hat)); clear hown hgr hat; obtain ⟨A', c', hv'⟩ := own_slice HOW.out.1; subst hv'; have hg0 := ((grown_drewN w nq (Value.slice A (jk.length + xs.length) c).ownBlock).trans (World.grownBy_alloc (w.drewN nq) (.cells #[.iface 118 (.int .i64 x)] 105) (Value.slice A (jk.length + xs.length) c).ownBlock)).trans HOW.out.2.1; have HG := Aside0.mk hg0; have hblk := (hg0.block gd hgl (fun e => HB.out.apart e.symm)).trans HB.out.blk; have hc2 : w1.cell? ⟨gd, 3, none⟩ = some (.slice A (jk.length + xs.length) c) := (blk_cell hblk 3).trans rfl; have hf2 := blk_frozen hblk 3; have HBL := Aside0.mk hblk; clear hg0 hblk)
    go_end0
    have hne : (Value.slice A' (jk.length + xs.length + 1) c').ownBlock ≠ some gd := fun e => by
      obtain ⟨cc, hcc⟩ := own_block HOW.out.1 e
      exact absurd (blk_type HBL.out hcc) (by decide)
    refine ⟨rfl, _, jk, Que.put HBL.out rfl ?_ hne (fun e => by simp at e), Nat.le_refl _, ?_, ?_⟩
    · rw [nodeVs_append, ← List.append_assoc, List.length_append]; exact HOW.out.1
    · exact (KeepF.of_grown HG.out (fun k hk => .inr hk)).trans (KeepF.of_grown (grown_set _ _ _ _) (fun k hk => .inl (Option.some.inj hk).symm))
    · exact HOW.out.2.2.imp id (fun h => ⟨_, h, by simp⟩)

theorem Que.facts {lo : Nat} {w : World} {gd : Nat} {vf tf mp st : Value} {jk : List Value} {u : Int} {q : List Int} (h : Que lo w gd vf tf mp st jk (u :: q)) :
    ∃ g c, st = .slice (some ⟨g, 0, none⟩) (jk.length + (q.length + 1)) c ∧ jk.length + (q.length + 1) ≤ c ∧ w.cell? ⟨gd, 2, none⟩ = some (.int .i64 (jk.length : Int)) ∧ w.cell? ⟨gd, 3, none⟩ = some (.slice (some ⟨g, 0, none⟩) (jk.length + (q.length + 1)) c) ∧
      w.frozen? ⟨gd, 2, none⟩ = false ∧ w.frozen? ⟨gd, 3, none⟩ = false ∧ w.cell? ⟨g, jk.length, none⟩ = some (.iface 118 (.int .i64 u)) ∧ w.frozen? ⟨g, jk.length, none⟩ = false ∧ g ≠ gd := by
  have hl : (u :: q).length = q.length + 1 := rfl
  obtain ⟨g, c, rfl, hc, hcell, cur, hcur⟩ := own_cells h.own (by rw [hl]; omega)
  have hne := h.apart
  refine ⟨g, c, by rw [hl], by rw [hl] at hc; exact hc, (blk_cell h.blk 2).trans rfl, (blk_cell h.blk 3).trans (by rw [hl]; rfl), blk_frozen h.blk 2, blk_frozen h.blk 3, hcell jk.length _ ?_, blk_frozen hcur _, fun e => hne (by rw [← e]; rfl)⟩
  rw [List.getElem?_append_right (Nat.le_refl _), Nat.sub_self]; rfl

theorem Que.deq {lo : Nat} {w : World} {gd g c : Nat} {vf tf mp st : Value} {jk : List Value} {u : Int} {q : List Int} (h : Que lo w gd vf tf mp st jk (u :: q)) (hst : st = .slice (some ⟨g, 0, none⟩) (jk.length + (q.length + 1)) c) (hne : g ≠ gd) :
    ((w.setCell ⟨g, jk.length, none⟩ .nilIface).setCell ⟨gd, 2, none⟩ (.int .i64 ((jk.length : Int) + 1))).drew.heap[gd]? = some (.cells #[vf, tf, .int .i64 ((jk ++ [Value.nilIface]).length : Int), st, mp] 116 (0, 0)) ∧
    ((w.setCell ⟨g, jk.length, none⟩ .nilIface).setCell ⟨gd, 2, none⟩ (.int .i64 ((jk.length : Int) + 1))).drew.ownsRow lo 105 1 st ((jk ++ [Value.nilIface]).length + q.length) ((jk ++ [Value.nilIface]) ++ nodeVs q) ∧
    KeepF (QM gd st) w ((w.setCell ⟨g, jk.length, none⟩ .nilIface).setCell ⟨gd, 2, none⟩ (.int .i64 ((jk.length : Int) + 1))).drew := by
  have hb1 : (w.setCell ⟨g, jk.length, none⟩ .nilIface).heap[gd]? = some (.cells #[vf, tf, .int .i64 (jk.length : Int), st, mp] 116 (0, 0)) := (Below.heap_setCell _ _ _ _ (fun e => hne e.symm)).trans h.blk
  refine ⟨?_, ?_, ?_⟩
  · have := blk_put (cs := #[vf, tf, .int .i64 (jk.length : Int), st, mp]) hb1 2 (.int .i64 ((jk.length : Int) + 1)) rfl
    rw [List.length_append, List.length_singleton]
    exact this
  · have ho := h.own
    subst hst
    have hl : (jk ++ [Value.nilIface]).length + q.length = jk.length + (u :: q).length := by simp; omega
    rw [hl]
    have hs := (World.ownsRow.stored ho jk.length .nilIface).1
    have e : (jk ++ nodeVs (u :: q)).set jk.length .nilIface = (jk ++ [Value.nilIface]) ++ nodeVs q := by
      rw [List.set_append_right _ _ (Nat.le_refl _), Nat.sub_self]
      show jk ++ (nodeV u :: nodeVs q).set 0 .nilIface = _
      rw [List.set_cons_zero, List.append_assoc]; rfl
    rw [e] at hs
    exact own_of_heap hs fun k hk => Below.heap_setCell _ _ _ _ (fun e => by
      have := Option.some.inj hk
      exact hne (this.trans e))
  · refine (KeepF.of_grown (grown_set w g jk.length .nilIface) (fun k hk => .inr ?_)).trans ((KeepF.of_grown (grown_set _ gd 2 _) (fun k hk => .inl (Option.some.inj hk).symm)).trans (KeepF.of_grown (grownBy_drew _ none) (fun k hk => by cases hk)))
    rw [hst, ← Option.some.inj hk]; rfl

set_option maxHeartbeats 4000000 in
set_option maxRecDepth 100000 in
theorem deq_any (lo gd : Nat) (vf tf mp st : Value) (jk : List Value) (q : List Int) (u : Int) (w : World) (h : Que lo w gd vf tf mp st jk (u :: q)) (hn : jk.length + (u :: q).length ≤ 10000000) :
    Calls Tryz.prog 116 #[.pointer (some ⟨gd, 2, none⟩)] w fun e w' => e = .returned (.iface 118 (.int .i64 u)) ∧ ∃ st' jk', Que lo w' gd vf tf mp st' jk' q ∧ jk'.length ≤ jk.length + 1 ∧ st'.ownBlock = st.ownBlock ∧ KeepF (QM gd st) w w' := by
  have HQ := Aside0.mk h
  have hlen : ((u :: q).length : Int) = (q.length : Int) + 1 := by simp
  have HN := Aside0.mk hlen
  have HK := Aside0.mk hn
  have hn' : jk.length + (q.length + 1) ≤ 10000000 := hn
  have HK2 := Aside0.mk (show (jk ++ [Value.nilIface]).length + q.length ≤ 10000000 by simp; omega)
  clear h hlen hn
  have hcase : q = [] ∨ ((q.length : Int) == 0) = false := by
    cases q with
    | nil => exact .inl rfl
    | cons a q => right; rw [beq_eq_false_iff_ne]; simp; omega
  go_enter Tryz.func116, Tryz.ntmps116
  go_wp2_with (go_at_call 115; refine (qlen_any lo gd vf tf mp st jk (u :: q) _ HQ.out HK.out).mono ?_; rintro e w1 ⟨rfl, hb1⟩; rw [HN.out]; have HB1 := Aside0.mk hb1; have HQ1 := Aside0.mk (HQ.out.stay (hb1.block _ (blk_lt HQ.out.blk)) (fun k hk => hb1.block k (by obtain ⟨c, hc⟩ := own_block HQ.out.own hk; exact blk_lt hc))); clear hb1)
  obtain ⟨g, c, hst, hc, h2, h3, f2, f3, hu, fu, hne⟩ := HQ1.out.facts
  have HDQ := Aside0.mk (HQ1.out.deq hst hne)
  have HST := Aside0.mk hst
  clear hst
  have b1 : (0 : Int) ≤ (jk.length : Int) := by omega
  have b2 : (jk.length : Int) < ((jk.length + (q.length + 1) : Nat) : Int) := by omega
  have b3 : (jk.length : Int) < (jk.length : Int) + ((q.length : Int) + 1) := by omega
  have HCA := Aside0.mk hcase
  clear hcase
  go_region
  all_goals
    go_wp2_with fail
    refine (qlen0_any lo gd vf tf mp st (jk ++ [.nilIface]) q _ HDQ.out.1 HDQ.out.2.1 HK2.out).mono ?_
    rintro e w2 ⟨rfl, hb2⟩
    have HB2 := Aside0.mk hb2
    have hblk := (hb2.block _ (blk_lt HDQ.out.1)).trans HDQ.out.1
    have HBL := Aside0.mk hblk
    have HOW := Aside0.mk (own_of_heap HDQ.out.2.1 (fun k hk => hb2.block k (by obtain ⟨c, hc⟩ := own_block HDQ.out.2.1 hk; exact blk_lt hc)))
    have HKP := Aside0.mk ((KeepF.of_below (M := QM gd st) HB1.out).trans (HDQ.out.2.2.trans (KeepF.of_below hb2)))
    have h3' : w2.cell? ⟨gd, 3, none⟩ = some (.slice (some ⟨g, 0, none⟩) (jk.length + (q.length + 1)) c) := by rw [← HST.out]; exact (blk_cell hblk 3).trans rfl
    have h2' : w2.cell? ⟨gd, 2, none⟩ = some (.int .i64 ((jk ++ [Value.nilIface]).length : Int)) := (blk_cell hblk 2).trans rfl
    have f2' := blk_frozen hblk 2
    have f3' := blk_frozen hblk 3
    have HNE := Aside0.mk hne
    clear hb2 hblk h2 h3 f2 f3 hu fu b1 b2 b3 hne
    rcases HCA.out with hq | hq
    · subst hq
      rw [show (([] : List Int).length : Int) = 0 from rfl]
      go_wp2
      go_ret
      refine ⟨rfl, .slice (some ⟨g, 0, none⟩) 0 c, [], ?_, by simp, by rw [HST.out]; rfl, ?_⟩
      · have hcut := own_cut (m := 0) (by have := HOW.out; rw [HST.out, show (jk ++ [Value.nilIface]).length + ([] : List Int).length = jk.length + (([] : List Int).length + 1) by simp] at this; exact this) (by omega)
        refine Que.put (st := st) (jk := []) (hd := .int .i64 0) (blk_put (cs := #[vf, tf, .int .i64 ((jk ++ [Value.nilIface]).length : Int), st, mp]) HBL.out 2 _ rfl) rfl ?_ (fun e => HNE.out (Option.some.inj e)) (fun _ => rfl)
        exact own_of_heap hcut fun k hk => Below.heap_setCell _ _ _ _ (fun e => HNE.out ((Option.some.inj hk).trans e))
      · exact (HKP.out.trans (KeepF.of_grown (grown_set _ gd 2 _) (fun k hk => .inl (Option.some.inj hk).symm))).trans (KeepF.of_grown (grown_set _ gd 3 _) (fun k hk => .inl (Option.some.inj hk).symm))
    · have HQN := Aside0.mk (show q ≠ [] from fun e => by subst e; simp at hq)
      go_wp2
      go_ret
      exact ⟨rfl, st, jk ++ [.nilIface], ⟨HBL.out, HOW.out, fun e => absurd e HQN.out⟩, by simp, rfl, HKP.out⟩
end Go.Proofs.YtfkmpnpliadohaaGreat.R

set_option linter.unusedVariables false
set_option linter.unusedSimpArgs false
/- A node is put into a queue. -/
namespace Go.Proofs.YtfkmpnpliadohaaGreat.R
open Go.RowKit Go.Lab Go.Maps Go.Proofs.YtfkmpnpliadohaaGreatW.PrintWords Go.Proofs.YtfkmpnpliadohaaGreatW.PrintLast Go.Proofs.YtfkmpnpliadohaaGreatW.PrintMore PL

theorem info105s : (Tryz.prog.info? 105).map (·.size) = some 1 := by kernel_rfl

set_option maxHeartbeats 4000000 in
set_option maxRecDepth 100000 in
theorem enq_move (lo gd : Nat) (vf tf mp : Value) (A : Option Addr) (jk : List Value) (xs : List Int) (x : Int) (n : Nat) (w : World) (h : Que lo w gd vf tf mp (.slice A n n) jk xs) (hnn : n = jk.length + xs.length) (hn : jk.length + xs.length ≤ 10000000) (hlo : lo ≤ w.heap.size)
    (h1 : 0 < jk.length) (h2 : 0 < xs.length) :
    Calls Tryz.prog 112 #[.pointer (some ⟨gd, 2, none⟩), .iface 118 (.int .i64 x)] w fun e w' => e = .returned (.tuple #[]) ∧ ∃ st' jk', Que lo w' gd vf tf mp st' jk' (xs ++ [x]) ∧ jk'.length ≤ jk.length ∧ KeepF (QM gd (.slice A n n)) w w' ∧ (st'.ownBlock = (Value.slice A n n).ownBlock ∨ ∃ q, st'.ownBlock = some q ∧ w.heap.size ≤ q) := by
  obtain ⟨g, c, hst, hc, _, cu, hcu⟩ := own_cells h.own (by omega)
  simp only [Value.slice.injEq] at hst
  have hA := hst.1
  clear hst
  subst hA
  have h3 : w.cell? ⟨gd, 3, none⟩ = some (.slice (some ⟨g, 0, none⟩) n n) := (blk_cell h.blk 3).trans rfl
  have h2' : w.cell? ⟨gd, 2, none⟩ = some (.int .i64 (jk.length : Int)) := (blk_cell h.blk 2).trans rfl
  have HB := Aside0.mk h
  have hgl := blk_lt h.blk
  have hne : g ≠ gd := fun e => h.apart (by rw [← e]; rfl)
  obtain ⟨i0, hi, hz0, hz1, hz2⟩ := info_parts Tryz.info105
  have HI := Aside0.mk (And.intro hi (And.intro hz0 (And.intro hz1 hz2)))
  have hd : decide (0 < jk.length) = true := decide_eq_true h1
  have hlt1 : (jk.length : Int) ≤ (n : Int) := by omega
  have hlt2 : jk.length ≤ n := by omega
  have hlt3 : ¬ n = jk.length := by omega
  have hlt5 : xs.length ≤ n := by omega
  have HNN := Aside0.mk hnn
  have HNE := Aside0.mk hne
  clear h hi hz0 hz1 hz2 hnn hcu hc hne
  go_enter Tryz.func112, Tryz.ntmps112
  go_wp2
  go_quiet (fail)
  go_wp2_with fail
  refine (qlen_any lo gd vf tf mp (.slice (some ⟨g, 0, none⟩) n n) jk xs (w.drewN nq) ⟨HB.out.blk, HB.out.own, HB.out.ne⟩ hn).mono ?_
  rintro e w1 ⟨rfl, hb1⟩
  have HB1 := Aside0.mk (show Below w.heap.size w w1 from ⟨hb1.os, hb1.tape, hb1.output, hb1.size, hb1.block⟩)
  have HQ1 := Aside0.mk (show Que lo w1 gd vf tf mp (.slice (some ⟨g, 0, none⟩) n n) jk xs from HB.out.stay (hb1.block _ (blk_lt HB.out.blk)) (fun k hk => hb1.block k (by obtain ⟨c, hc⟩ := own_block HB.out.own hk; exact blk_lt hc)))
  clear hb1
  have k3 : w1.cell? ⟨gd, 3, none⟩ = some (.slice (some ⟨g, 0, none⟩) n n) := (blk_cell HQ1.out.blk 3).trans rfl
  have k2 : w1.cell? ⟨gd, 2, none⟩ = some (.int .i64 (jk.length : Int)) := (blk_cell HQ1.out.blk 2).trans rfl
  obtain ⟨cu1, hcu1⟩ : ∃ cu : List Value, w1.heap[g]? = some (.cells cu.toArray 105 (0, 0)) := by
    obtain ⟨_, _, hst, _, _, cu, hcu⟩ := own_cells HQ1.out.own (by omega)
    simp only [Value.slice.injEq, Option.some.injEq, Addr.mk.injEq] at hst
    obtain ⟨⟨rfl, _⟩, _⟩ := hst
    exact ⟨cu.toList, by simpa using hcu⟩
  have HCU := Aside0.mk hcu1
  have hmin : Nat.min (jk.length + xs.length - jk.length) (jk.length + xs.length) = xs.length := by
    show min _ _ = _
    omega
  have HLN := Aside0.mk (show (nodeVs xs).length = Nat.min (n - jk.length) n * 1 by rw [nodeVs_len, HNN.out, hmin, Nat.mul_one])
  clear hmin
  have HSR := Aside0.mk (show ∀ j v, (nodeVs xs)[j]? = some v → w1.drew.cell? ((⟨g, jk.length, none⟩ : Addr).add j) = some v by
    intro j v hv
    obtain ⟨g', c', hst, _, hcell, _⟩ := own_cells HQ1.out.own (by omega)
    simp only [Value.slice.injEq, Option.some.injEq, Addr.mk.injEq] at hst
    obtain ⟨⟨rfl, _⟩, _⟩ := hst
    have ha : (⟨g, jk.length, none⟩ : Addr).add j = ⟨g, jk.length + j, none⟩ := by unfold Addr.add; split <;> simp_all
    rw [ha]
    exact hcell (jk.length + j) v (by rw [List.getElem?_append_right (by omega), Nat.add_sub_cancel_left]; exact hv))
  have HFT := Aside0.mk (show 0 + (nodeVs xs).length ≤ cu1.length by
    have := HQ1.out.own.2
    rcases this with ⟨hv, _⟩ | ⟨g', cap, cur, hv, _, hg, hn', hc', hs, _⟩
    · cases hv
    · simp only [Value.slice.injEq, Option.some.injEq, Addr.mk.injEq] at hv
      obtain ⟨⟨rfl, _⟩, _, rfl⟩ := hv
      rw [hcu1] at hg
      simp only [Option.some.injEq, Obj.cells.injEq] at hg
      obtain ⟨rfl, _⟩ := hg
      simp only [List.size_toArray] at hs
      rw [nodeVs_len]; have := HNN.out; omega)
  have HON := Aside0.mk (show ∀ v ∈ nodeVs xs, v.oneCell' = true by intro v hv; unfold nodeVs at hv; obtain ⟨y, _, rfl⟩ := List.mem_map.1 hv; rfl)
  clear hcu1 h3 h2'
  go_wp2_with fail
  go_region_law
    (refine step_copyk rfl (.tmp 28) (.tmp 37) 110 110 rfl 105 1 Tryz.underlying110 info105s g 0 n n ⟨g, jk.length, none⟩ (n - jk.length) (n - jk.length) (by rfl) (by rfl) cu1 105 (by exact HCU.out) (nodeVs xs) (by exact HLN.out) (by exact HSR.out) (by exact HFT.out) (by exact HON.out) ?_; intro w2 hg2 hgr2; have HG2 := Aside0.mk (And.intro hg2 hgr2); clear hg2 hgr2)
  all_goals
    have hblk := (HG2.out.2.block gd (blk_lt HQ1.out.blk) (fun e => HNE.out (Option.some.inj e).symm)).trans HQ1.out.blk
    have q2 : w2.cell? ⟨gd, 2, none⟩ = some (.int .i64 (jk.length : Int)) := (blk_cell hblk 2).trans rfl
    have q3 : w2.cell? ⟨gd, 3, none⟩ = some (.slice (some ⟨g, 0, none⟩) n n) := (blk_cell hblk 3).trans rfl
    have f2 := blk_frozen hblk 2
    have f3 := blk_frozen hblk 3
    have hb0 := blk_put (cs := #[vf, tf, .int .i64 (jk.length : Int), .slice (some ⟨g, 0, none⟩) n n, mp]) hblk 2 (.int .i64 0) rfl
    have HB0 := Aside0.mk (show (w2.setCell ⟨gd, 2, none⟩ (.int .i64 0)).heap[gd]? = some (.cells #[vf, tf, .int .i64 0, .slice (some ⟨g, 0, none⟩) n n, mp] 116 (0, 0)) from hb0)
    have HGL := Aside0.mk (show gd < (w2.setCell ⟨gd, 2, none⟩ (.int .i64 0)).heap.size from blk_lt hb0)
    have HOM := Aside0.mk (show (w2.setCell ⟨gd, 2, none⟩ (.int .i64 0)).ownsRow lo 105 1 (.slice (some ⟨g, 0, none⟩) xs.length n) xs.length (nodeVs xs) from own_of_heap (own_moved (by have := HQ1.out.own; rw [← HNN.out] at this; exact this) HCU.out HG2.out.1) fun k hk => Below.heap_setCell _ _ _ _ (fun e => HNE.out ((Option.some.inj hk).trans e)))
    have HSZ := Aside0.mk (show lo ≤ w2.heap.size from Nat.le_trans hlo (Nat.le_trans HB1.out.size HG2.out.2.size))
    clear hblk k2 k3 hb0
    go_wp2_with (at_builtin; refine wpList_append_own_at _ rfl _ _ 110 rfl lo 105 i0 .nilIface 1 16 Tryz.underlying110 HI.out.1 HI.out.2.1 HI.out.2.2.1 HI.out.2.2.2 rfl (by decide) _ xs.length (nodeVs xs) rfl (World.ownsRow.alloc HOM.out _) ⟨w2.heap.size, 0, none⟩ 1 1 [.iface 118 (.int .i64 x)] rfl rfl (by have := cell_one_new (w2.setCell ⟨gd, 2, none⟩ (.int .i64 0)) (.iface 118 (.int .i64 x)) 105; simpa using this) (by intro u hu; simp at hu; subst hu; rfl) (by unfold maxLen; omega) (by omega) (by have := HSZ.out; simp; omega) ?_; intro v' w3 hown hgr _ hat; have HOW := Aside0.mk (And.intro hown (And.intro hgr hat)); clear hown hgr hat; obtain ⟨A', c', hv'⟩ := own_slice HOW.out.1; subst hv'; have hg0 := (World.grownBy_alloc (w2.setCell ⟨gd, 2, none⟩ (.int .i64 0)) (.cells #[.iface 118 (.int .i64 x)] 105) (some g)).trans HOW.out.2.1; have HG := Aside0.mk hg0; have hblk := (hg0.block gd HGL.out (fun e => HNE.out (Option.some.inj e).symm)).trans HB0.out; have hc2 : w3.cell? ⟨gd, 3, none⟩ = some (.slice (some ⟨g, 0, none⟩) n n) := (blk_cell hblk 3).trans rfl; have hf2 := blk_frozen hblk 3; have HBL := Aside0.mk hblk; clear hg0 hblk)
    go_end0
    have hne : (Value.slice A' (xs.length + 1) c').ownBlock ≠ some gd := fun e => by
      obtain ⟨cc, hcc⟩ := own_block HOW.out.1 e
      exact absurd (blk_type HBL.out hcc) (by decide)
    refine ⟨rfl, _, [], Que.put (jk := []) HBL.out rfl ?_ hne (fun e => by simp at e), Nat.zero_le _, ?_, ?_⟩
    · rw [nodeVs_append, List.nil_append, List.length_append]
      have := HOW.out.1
      rw [show ([] : List Value).length + (xs.length + [x].length) = xs.length + 1 by simp]
      exact this
    · have k1 : KeepF (QM gd (.slice (some ⟨g, 0, none⟩) n n)) w w1 := KeepF.of_below HB1.out
      have k2 : KeepF (QM gd (.slice (some ⟨g, 0, none⟩) n n)) w1 w2 := (KeepF.of_grown (grownBy_drew w1 none) (fun k hk => by cases hk)).trans (KeepF.of_grown HG2.out.2 (fun k hk => .inr hk))
      exact (k1.trans k2).trans ((KeepF.of_grown (grown_set w2 gd 2 _) (fun k hk => .inl (Option.some.inj hk).symm)).trans ((KeepF.of_grown HG.out (fun k hk => .inr hk)).trans (KeepF.of_grown (grown_set w3 gd 3 _) (fun k hk => .inl (Option.some.inj hk).symm))))
    · refine HOW.out.2.2.imp id (fun h => ⟨_, h, ?_⟩)
      have := HB1.out.size
      have h2 := HG2.out.2.size
      simp at h2 ⊢
      omega

theorem enq_any (lo gd : Nat) (vf tf mp st : Value) (jk : List Value) (xs : List Int) (x : Int) (w : World) (h : Que lo w gd vf tf mp st jk xs) (hn : jk.length + xs.length ≤ 9999999) (hlo : lo ≤ w.heap.size) :
    Calls Tryz.prog 112 #[.pointer (some ⟨gd, 2, none⟩), .iface 118 (.int .i64 x)] w fun e w' => e = .returned (.tuple #[]) ∧ ∃ st' jk', Que lo w' gd vf tf mp st' jk' (xs ++ [x]) ∧ jk'.length ≤ jk.length ∧ KeepF (QM gd st) w w' ∧ (st'.ownBlock = st.ownBlock ∨ ∃ q, st'.ownBlock = some q ∧ w.heap.size ≤ q) := by
  obtain ⟨A, c, rfl⟩ := own_slice h.own
  have hj : jk ≠ [] → xs ≠ [] := fun h1 h2 => h1 (h.ne h2)
  by_cases hc : jk.length + xs.length = c ∧ 0 < jk.length
  · obtain ⟨h1, h2⟩ := hc
    have h3 : 0 < xs.length := List.length_pos_iff.2 (hj (List.length_pos_iff.1 h2))
    rw [h1] at h
    have := enq_move lo gd vf tf mp A jk xs x c w h h1.symm (by omega) hlo h2 h3
    rw [h1]
    exact this
  · refine enq_plain lo gd vf tf mp A c jk xs x _ _ w h (by omega) hlo rfl rfl ?_ hj
    rw [Bool.and_eq_false_iff]
    by_cases h1 : jk.length + xs.length = c
    · right; exact decide_eq_false (fun h2 => hc ⟨h1, h2⟩)
    · left; rw [beq_eq_false_iff_ne]; omega
end Go.Proofs.YtfkmpnpliadohaaGreat.R

set_option linter.unusedVariables false
set_option linter.unusedSimpArgs false
/- What a walk breadth first is told at its nodes. -/
namespace Go.Proofs.YtfkmpnpliadohaaGreat.R
open Go.RowKit Go.Lab Go.Maps Go.Proofs.YtfkmpnpliadohaaGreatW.PrintWords Go.Proofs.YtfkmpnpliadohaaGreatW.PrintLast Go.Proofs.YtfkmpnpliadohaaGreatW.PrintMore PL

theorem Tryz.info99 : (Tryz.prog.info? 99).map (fun i => (i.zero, i.size, i.bytes)) = some (some (.agg #[.int .i64 0, .int .i64 0]), 2, 16) := by kernel_rfl
/-- visits as cells -/
def visVs (vs : List (Int × Int)) : List Value := vs.flatMap fun p => [.int .i64 p.1, .int .i64 p.2]
theorem visVs_len (vs : List (Int × Int)) : (visVs vs).length = vs.length * 2 := by
  induction vs with
  | nil => rfl
  | cons p vs ih => show ([Value.int .i64 p.1, Value.int .i64 p.2] ++ visVs vs).length = _; rw [List.length_append, ih, List.length_cons]; simp; omega
theorem visVs_append (a b : List (Int × Int)) : visVs (a ++ b) = visVs a ++ visVs b := by unfold visVs; rw [List.flatMap_append]
theorem visVs_at (vs : List (Int × Int)) (k : Nat) (hk : k < vs.length) : (visVs vs)[2 * k]? = some (.int .i64 vs[k].1) ∧ (visVs vs)[2 * k + 1]? = some (.int .i64 vs[k].2) := by
  have e : vs = vs.take k ++ (vs[k] :: vs.drop (k + 1)) := by rw [List.getElem_cons_drop, List.take_append_drop]
  have hl : (visVs (vs.take k)).length = 2 * k := by rw [visVs_len, List.length_take]; omega
  have hv : visVs vs = visVs (vs.take k) ++ (Value.int .i64 vs[k].1 :: Value.int .i64 vs[k].2 :: visVs (vs.drop (k + 1))) := by
    conv => lhs; rw [e]
    rw [visVs_append]; rfl
  rw [hv]
  constructor
  · rw [List.getElem?_append_right (by omega), hl, show 2 * k - 2 * k = 0 by omega]; rfl
  · rw [List.getElem?_append_right (by omega), hl, show 2 * k + 1 - 2 * k = 1 by omega]; rfl
theorem visVs_set (vs : List (Int × Int)) (k : Nat) (hk : k < vs.length) (d : Int) : (visVs vs).set (2 * k + 1) (.int .i64 d) = visVs (vs.set k (vs[k].1, d)) := by
  have e : vs = vs.take k ++ (vs[k] :: vs.drop (k + 1)) := by rw [List.getElem_cons_drop, List.take_append_drop]
  have hl : (visVs (vs.take k)).length = 2 * k := by rw [visVs_len, List.length_take]; omega
  have hv : visVs vs = visVs (vs.take k) ++ (Value.int .i64 vs[k].1 :: Value.int .i64 vs[k].2 :: visVs (vs.drop (k + 1))) := by
    conv => lhs; rw [e]
    rw [visVs_append]; rfl
  have hs : vs.set k (vs[k].1, d) = vs.take k ++ ((vs[k].1, d) :: vs.drop (k + 1)) := by
    rw [List.set_eq_take_append_cons_drop, if_pos hk]
  rw [hv, hs, visVs_append, List.set_append_right _ _ (by omega), hl, show 2 * k + 1 - 2 * k = 1 by omega]
  rfl

/-- the nodes that were visited, with their depths, in a variable -/
structure VisB (lo : Nat) (w : World) (gv : Nat) (vv : Value) (vs : List (Int × Int)) : Prop where
  blk : w.heap[gv]? = some (.cells #[vv] 44 (0, 0))
  own : w.ownsRow lo 99 2 vv vs.length (visVs vs)
theorem VisB.ne {lo : Nat} {w : World} {gv : Nat} {vv : Value} {vs : List (Int × Int)} (h : VisB lo w gv vv vs) : vv.ownBlock ≠ some gv := fun e => by
  obtain ⟨c, hc⟩ := own_block h.own e
  exact absurd (blk_type h.blk hc) (by decide)
theorem VisB.put {lo : Nat} {w : World} {gv : Nat} {vv vv' : Value} {ys : List (Int × Int)} (h : w.heap[gv]? = some (.cells #[vv] 44 (0, 0))) (ho : w.ownsRow lo 99 2 vv' ys.length (visVs ys)) (hne : vv'.ownBlock ≠ some gv) : VisB lo (w.setCell ⟨gv, 0, none⟩ vv') gv vv' ys :=
  ⟨blk_put (cs := #[vv]) h 0 _ rfl, own_of_heap ho fun k hk => Below.heap_setCell _ _ _ _ (fun e => hne (by rw [hk, e]))⟩
theorem VisB.stay {lo : Nat} {w w1 : World} {gv : Nat} {vv : Value} {vs : List (Int × Int)} (h : VisB lo w gv vv vs) (h1 : w1.heap[gv]? = w.heap[gv]?) (h2 : ∀ k, vv.ownBlock = some k → w1.heap[k]? = w.heap[k]?) : VisB lo w1 gv vv vs :=
  ⟨h1.trans h.blk, own_of_heap h.own h2⟩

theorem news_two (w : World) (x y : Int) : 0 < 1 → ∃ ad, some (⟨w.heap.size, 0, none⟩ : Addr) = some ad ∧ ∀ j u, ([Value.int .i64 x, Value.int .i64 y] : List Value)[j]? = some u → ((w.drew.alloc (.cells #[.int .i64 x, .int .i64 y] 99))).cell? (ad.add j) = some u := by
  intro _
  refine ⟨_, rfl, fun j u hj => ?_⟩
  have hb : (w.drew.alloc (.cells #[.int .i64 x, .int .i64 y] 99)).heap[w.heap.size]? = some (.cells #[.int .i64 x, .int .i64 y] 99 (0, 0)) := heap_alloc_new w.drew _
  have ha : (⟨w.heap.size, 0, none⟩ : Addr).add j = ⟨w.heap.size, j, none⟩ := by unfold Addr.add; split <;> simp_all
  rw [ha, blk_cell hb j]
  match j, hj with
  | 0, hj => simpa using hj
  | 1, hj => simpa using hj
theorem two_one (x y : Int) : ∀ u ∈ [Value.int .i64 x, Value.int .i64 y], u.oneCell' = true := by
  intro u hu; simp at hu; rcases hu with rfl | rfl <;> rfl

set_option maxHeartbeats 2000000 in
set_option maxRecDepth 100000 in
theorem bvisit_any (lo gv : Nat) (vv : Value) (vs : List (Int × Int)) (x : Int) (w : World) (h : VisB lo w gv vv vs) (hn : vs.length ≤ 10000000) (hlo : lo ≤ w.heap.size) :
    Calls Tryz.prog 65 #[.iface 118 (.int .i64 x), .pointer (some ⟨gv, 0, none⟩)] w fun e w' => e = .returned (.tuple #[]) ∧ ∃ vv' w1, VisB lo w' gv vv' (vs ++ [(x, -1)]) ∧ w.grownBy w1 vv.ownBlock ∧ w1.grownBy w' (some gv) ∧ (vv'.ownBlock = vv.ownBlock ∨ ∃ q, vv'.ownBlock = some q ∧ w.heap.size ≤ q) := by
  obtain ⟨A, c, rfl⟩ := own_slice h.own
  have h2 : w.cell? ⟨gv, 0, none⟩ = some (.slice A vs.length c) := (blk_cell h.blk 0).trans rfl
  have hf := blk_frozen h.blk 0
  have HB := Aside0.mk h
  have hgl := blk_lt h.blk
  obtain ⟨i0, hi, hz0, hz1, hz2⟩ := info_parts Tryz.info99
  have HI := Aside0.mk (And.intro hi (And.intro hz0 (And.intro hz1 hz2)))
  clear h hi hz0 hz1 hz2
  go_enter Tryz.func65, Tryz.ntmps65
  go_region_law
    (first
      | (go_simp; go_at_call 66; refine (number_any _ _).mono ?_; rintro e w1 ⟨rfl, rfl⟩; try go_simp)
      | (refine step_append_src (by rfl) _ _ _ (by rfl) lo 99 i0 _ 2 16 Tryz.underlying44 HI.out.1 HI.out.2.1 HI.out.2.2.1 HI.out.2.2.2 rfl (by omega) (.slice A vs.length c) vs.length (visVs vs) (by rfl) (by exact World.ownsRow.alloc (World.ownsRow.drew HB.out.own) _) (some ⟨w.heap.size, 0, none⟩) 1 1 [.int .i64 x, .int .i64 (-1)] (by rfl) (by rfl) (by exact news_two w x (-1)) (by exact two_one x (-1)) (by unfold maxLen; omega) (by omega) (by simp; omega) ?_; intro v1 w1 hown hgr hat; obtain ⟨A', c', rfl⟩ := own_slice hown; have hg0 := ((grownBy_drew w (Value.slice A vs.length c).ownBlock).trans (World.grownBy_alloc w.drew (.cells #[.int .i64 x, .int .i64 (-1)] 99) (Value.slice A vs.length c).ownBlock)).trans hgr; have hblk := (hg0.block gv hgl (fun e => HB.out.ne e.symm)).trans HB.out.blk; have hc2 : w1.cell? ⟨gv, 0, none⟩ = some (.slice A vs.length c) := (blk_cell hblk 0).trans rfl; have hf2 := blk_frozen hblk 0; have hne : (Value.slice A' (vs.length + 1) c').ownBlock ≠ some gv := fun e => (by obtain ⟨cc, hcc⟩ := own_block hown e; exact absurd (blk_type hblk hcc) (by decide)); have HS := Aside0.mk (show VisB lo (w1.setCell ⟨gv, 0, none⟩ (Value.slice A' (vs.length + 1) c')) gv (Value.slice A' (vs.length + 1) c') (vs ++ [(x, -1)]) from VisB.put hblk (by rw [visVs_append, List.length_append]; exact hown) hne); have HG := Aside0.mk (And.intro hg0 hat)))
  all_goals
    go_end0
    exact ⟨rfl, _, w1, HS.out, HG.out.1, grown_set _ _ _ _, HG.out.2.imp id (fun h => ⟨_, h, by simp⟩)⟩

/-- the depths told so far -/
def putK (u d : Int) (k : Nat) (vs : List (Int × Int)) : List (Int × Int) := putD u d (vs.take k) ++ vs.drop k
theorem putK_len (u d : Int) (k : Nat) (vs : List (Int × Int)) : (putK u d k vs).length = vs.length := by
  unfold putK; rw [List.length_append, putD_len, List.length_take, List.length_drop]; omega
theorem putK_zero (u d : Int) (vs : List (Int × Int)) : putK u d 0 vs = vs := by simp [putK, putD]
theorem putK_all (u d : Int) (vs : List (Int × Int)) : putK u d vs.length vs = putD u d vs := by simp [putK]
theorem putK_at (u d : Int) (k : Nat) (vs : List (Int × Int)) (hk : k < vs.length) : (putK u d k vs)[k]'(by rw [putK_len]; exact hk) = vs[k] := by
  unfold putK
  have hl : (putD u d (vs.take k)).length = k := by rw [putD_len, List.length_take]; omega
  rw [List.getElem_append_right (by omega)]
  simp [hl]
theorem putK_succ (u d : Int) (k : Nat) (vs : List (Int × Int)) (hk : k < vs.length) : putK u d (k + 1) vs = (putK u d k vs).set k (if vs[k].1 = u then (vs[k].1, d) else vs[k]) := by
  have hl : (putD u d (vs.take k)).length = k := by rw [putD_len, List.length_take]; omega
  have e : vs.drop k = vs[k] :: vs.drop (k + 1) := (List.getElem_cons_drop hk).symm
  unfold putK
  rw [List.take_succ_eq_append_getElem hk, e, List.set_append_right _ _ (by omega), hl, Nat.sub_self, List.set_cons_zero]
  unfold putD
  rw [List.map_append, List.map_singleton, List.append_assoc]
  rfl
theorem putK_stay (u d : Int) (k : Nat) (vs : List (Int × Int)) (hk : k < vs.length) (h : vs[k].1 ≠ u) : putK u d (k + 1) vs = putK u d k vs := by
  rw [putK_succ u d k vs hk, if_neg h]
  have := putK_at u d k vs hk
  conv => lhs; rw [← this]
  exact List.set_getElem_self _
theorem putK_turn (u d : Int) (k : Nat) (vs : List (Int × Int)) (hk : k < vs.length) (h : vs[k].1 = u) : visVs (putK u d (k + 1) vs) = (visVs (putK u d k vs)).set (2 * k + 1) (.int .i64 d) := by
  rw [putK_succ u d k vs hk, if_pos h, visVs_set _ k (by rw [putK_len]; exact hk), putK_at u d k vs hk]

set_option maxHeartbeats 4000000 in
set_option maxRecDepth 100000 in
theorem buntil_any (lo gv gu : Nat) (vv : Value) (vs : List (Int × Int)) (t x d : Int) (w : World) (h : VisB lo w gv vv vs) (hn : vs.length ≤ 10000000) (hu : w.cell? ⟨gu, 0, none⟩ = some (.int .i64 t)) (hgu : vv.ownBlock ≠ some gu) :
    Calls Tryz.prog 69 #[.iface 118 (.int .i64 x), .int .i64 d, .pointer (some ⟨gv, 0, none⟩), .pointer (some ⟨gu, 0, none⟩)] w fun e w' => e = .returned (.bool (decide (x = t))) ∧ VisB lo w' gv vv (putD x d vs) ∧ w.grownBy w' vv.ownBlock := by
  obtain ⟨A, c, rfl⟩ := own_slice h.own
  have h2 : w.cell? ⟨gv, 0, none⟩ = some (.slice A vs.length c) := (blk_cell h.blk 0).trans rfl
  have HB := Aside0.mk h
  have HU := Aside0.mk (And.intro hu hgu)
  clear h hu hgu
  go_enter Tryz.func69, Tryz.ntmps69
  go_wp2
  go_loopw [7, 10] (fun v7 i wr => ∃ k : Nat, k ≤ vs.length ∧ i = .int .i64 k ∧ Aside0 (VisB lo wr gv (.slice A vs.length c) (putK x d k vs) ∧ w.grownBy wr (Value.slice A vs.length c).ownBlock)) (fun _ i _ => vs.length - (intOf i).toNat)
  case atStart => exact ⟨0, Nat.zero_le _, rfl, ⟨by rw [putK_zero]; exact HB.out, World.grownBy.refl _ _⟩⟩
  case round =>
    obtain ⟨k, hk, rfl, hR⟩ := hrel
    have HR := Aside0.mk hR.out
    clear hR
    have c2 : wr.cell? ⟨gv, 0, none⟩ = some (.slice A vs.length c) := (blk_cell HR.out.1.blk 0).trans rfl
    by_cases hlt : k < vs.length
    · have hpl : k < (putK x d k vs).length := by rw [putK_len]; exact hlt
      have hat := visVs_at (putK x d k vs) k hpl
      rw [putK_at x d k vs hlt] at hat
      have hown := HR.out.1.own
      obtain ⟨g, hA⟩ : ∃ g, A = some ⟨g, 0, none⟩ := by
        rcases hown.2 with ⟨_, h0⟩ | ⟨g, cap, cur, hv, _⟩
        · rw [putK_len] at h0; omega
        · simp only [Value.slice.injEq] at hv
          exact ⟨g, hv.1⟩
      subst hA
      rw [putK_len] at hown
      have hca : wr.cell? ⟨g, 2 * k, none⟩ = some (.int .i64 vs[k].1) := by rw [World.ownsRow.cellAt hown (2 * k) (by omega)]; exact hat.1
      have hcb : ∃ y, wr.cell? ⟨g, 2 * k + 1, none⟩ = some y := ⟨_, by rw [World.ownsRow.cellAt hown (2 * k + 1) (by omega)]; exact hat.2⟩
      obtain ⟨y, hcb⟩ := hcb
      have hfb := World.ownsRow.frozenAt hown (2 * k + 1)
      have HO := Aside0.mk hown
      have e1 : k * 2 = 2 * k := by omega
      obtain ⟨z, hz⟩ : ∃ z, vs[k].1 = z := ⟨_, rfl⟩
      rw [hz] at hca
      have HZ := Aside0.mk hz
      clear hat hown hz
      have hgg : Aside0 (w.grownBy wr (some g)) := ⟨HR.out.2⟩
      have HNE := Aside0.mk HR.out.1.ne
      have HBK := Aside0.mk HR.out.1.blk
      by_cases hx : z = x
      · have hq : (z == x) = true := by simpa using hx
        have HX := Aside0.mk hx
        clear hx
        go_wp2
        go_region_held3 (fun w' => w'.cell? ⟨gv, 0, none⟩ = some (.slice (some ⟨g, 0, none⟩) vs.length c) ∧ w'.cell? ⟨g, 2 * k, none⟩ = some (.int .i64 z)) (go_keep) (first | (go_at_call 66; refine (number_any _ _).mono ?_; rintro e w1 ⟨rfl, rfl⟩))
        go_wp2
        go_roundw
        case rel =>
          refine ⟨k + 1, by omega, by go_num, ⟨⟨?_, ?_⟩, ?_⟩⟩
          · exact (Below.heap_setCell _ _ _ _ (fun e => HNE.out (by rw [e]; rfl))).trans HBK.out
          · rw [putK_len, putK_turn x d k vs hlt (by rw [HZ.out, HX.out])]
            exact (World.ownsRow.stored HO.out (2 * k + 1) (.int .i64 d)).1
          · exact hgg.out.trans ((grownBy_drew wr (some g)).trans (grown_set _ _ _ _))
        case measure => simp [intOf]; omega
      · have hq : (z == x) = false := by simpa using hx
        have HX := Aside0.mk hx
        clear hx
        go_wp2
        go_region_held3 (fun w' => w'.cell? ⟨gv, 0, none⟩ = some (.slice (some ⟨g, 0, none⟩) vs.length c) ∧ w'.cell? ⟨g, 2 * k, none⟩ = some (.int .i64 z)) (go_keep) (first | (go_at_call 66; refine (number_any _ _).mono ?_; rintro e w1 ⟨rfl, rfl⟩))
        go_wp2
        go_roundw
        case rel =>
          refine ⟨k + 1, by omega, by go_num, ⟨⟨HBK.out, ?_⟩, hgg.out.trans (grownBy_drew wr (some g))⟩⟩
          rw [putK_len, putK_stay x d k vs hlt (by rw [HZ.out]; exact HX.out)]
          exact HO.out
        case measure => simp [intOf]; omega
    · have hke : k = vs.length := by omega
      have HFIN := Aside0.mk (show VisB lo wr gv (.slice A vs.length c) (putD x d vs) by have := HR.out.1; rw [hke, putK_all] at this; exact this)
      have hgu : wr.cell? ⟨gu, 0, none⟩ = some (.int .i64 t) := by
        rw [World.cell?_of_block (HR.out.2.block gu (World.block_lt_of_cell? w ⟨gu, 0, none⟩ HU.out.1) (fun e => HU.out.2 e.symm))]; exact HU.out.1
      have HKE := Aside0.mk hke
      clear hke
      by_cases hx : x = t
      · have hq : (x == t) = true := by simpa using hx
        have HX := Aside0.mk (show decide (x = t) = true from decide_eq_true hx)
        clear hx
        go_wp2
        go_region_held3 (fun w' => w'.cell? ⟨gu, 0, none⟩ = some (.int .i64 t)) (go_keep) (first | (go_at_call 66; refine (number_any _ _).mono ?_; rintro e w1 ⟨rfl, rfl⟩))
        go_wp2
        go_ret
        exact ⟨by rw [HX.out]; rfl, ⟨HFIN.out.blk, HFIN.out.own⟩, HR.out.2.trans (grownBy_drew wr _)⟩
      · have hq : (x == t) = false := by simpa using hx
        have HX := Aside0.mk (show decide (x = t) = false from decide_eq_false hx)
        clear hx
        go_wp2
        go_region_held3 (fun w' => w'.cell? ⟨gu, 0, none⟩ = some (.int .i64 t)) (go_keep) (first | (go_at_call 66; refine (number_any _ _).mono ?_; rintro e w1 ⟨rfl, rfl⟩))
        go_wp2
        go_ret
        exact ⟨by rw [HX.out]; rfl, ⟨HFIN.out.blk, HFIN.out.own⟩, HR.out.2.trans (grownBy_drew wr _)⟩
end Go.Proofs.YtfkmpnpliadohaaGreat.R

set_option linter.unusedVariables false
set_option linter.unusedSimpArgs false
/- The state of a walk breadth first, and how it goes on. -/
namespace Go.Proofs.YtfkmpnpliadohaaGreat.R
open Go.RowKit Go.Lab Go.Maps Go.Proofs.YtfkmpnpliadohaaGreatW.PrintWords Go.Proofs.YtfkmpnpliadohaaGreatW.PrintLast Go.Proofs.YtfkmpnpliadohaaGreatW.PrintMore PL

theorem KeepF.imp {M M' : Nat → Prop} {w w' : World} (h : KeepF M w w') (hm : ∀ k, M k → M' k) : KeepF M' w w' :=
  ⟨h.os, h.tape, h.output, h.size, fun k hk hn => h.block k hk (fun hM => hn (hm k hM))⟩

/-- the state of a walk: its object in block gd, the visited nodes in the variable gv -/
structure BW (w0 w : World) (gd gv gm : Nat) (vf tf st vv : Value) (jk : List Value) (q sl : List Int) (vs : List (Int × Int)) : Prop where
  que : Que w0.heap.size w gd vf tf (.map (some gm)) st jk q
  set : SetOk w gm sl
  gmL : w0.heap.size ≤ gm
  vis : VisB w0.heap.size w gv vv vs
  gv0 : gv < w0.heap.size
  gd0 : gd < w0.heap.size
  kp : KeepF (WM gd gv w0.heap.size) w0 w

section
variable {w0 w wa w1 : World} {gd gv gm : Nat} {vf tf st vv : Value} {jk : List Value} {q sl : List Int} {vs : List (Int × Int)}

theorem BW.L (h : BW w0 w gd gv gm vf tf st vv jk q sl vs) : w0.heap.size ≤ w.heap.size := h.kp.size
theorem BW.stLt (h : BW w0 w gd gv gm vf tf st vv jk q sl vs) {k : Nat} (hk : st.ownBlock = some k) : k < w.heap.size := by
  obtain ⟨c, hc⟩ := own_block h.que.own hk; exact blk_lt hc
theorem BW.vvLt (h : BW w0 w gd gv gm vf tf st vv jk q sl vs) {k : Nat} (hk : vv.ownBlock = some k) : k < w.heap.size := by
  obtain ⟨c, hc⟩ := own_block h.vis.own hk; exact blk_lt hc
theorem BW.apart (h : BW w0 w gd gv gm vf tf st vv jk q sl vs) {k : Nat} (hk : st.ownBlock = some k) : k ≠ gd ∧ k ≠ gv ∧ k ≠ gm ∧ vv.ownBlock ≠ some k := by
  obtain ⟨c, hc⟩ := own_block h.que.own hk
  refine ⟨fun e => ?_, fun e => ?_, h.set.cells_ne hc, fun e => ?_⟩
  · subst e; exact absurd (blk_type h.que.blk hc) (by decide)
  · subst e; exact absurd (blk_type h.vis.blk hc) (by decide)
  · obtain ⟨c', hc'⟩ := own_block h.vis.own e; exact absurd (blk_type hc hc') (by decide)
theorem BW.apartV (h : BW w0 w gd gv gm vf tf st vv jk q sl vs) {k : Nat} (hk : vv.ownBlock = some k) : k ≠ gd ∧ k ≠ gv ∧ k ≠ gm ∧ st.ownBlock ≠ some k := by
  obtain ⟨c, hc⟩ := own_block h.vis.own hk
  refine ⟨fun e => ?_, fun e => ?_, h.set.cells_ne hc, fun e => ?_⟩
  · subst e; exact absurd (blk_type h.que.blk hc) (by decide)
  · subst e; exact absurd (blk_type h.vis.blk hc) (by decide)
  · obtain ⟨c', hc'⟩ := own_block h.que.own e; exact absurd (blk_type hc hc') (by decide)
theorem BW.gdm (h : BW w0 w gd gv gm vf tf st vv jk q sl vs) : gd ≠ gm ∧ gv ≠ gm ∧ gd ≠ gv :=
  ⟨h.set.cells_ne h.que.blk, h.set.cells_ne h.vis.blk, fun e => by subst e; exact absurd (blk_type h.que.blk h.vis.blk) (by decide)⟩
theorem BW.stBase (h : BW w0 w gd gv gm vf tf st vv jk q sl vs) {k : Nat} (hk : st.ownBlock = some k) : w0.heap.size ≤ k := own_base h.que.own k hk
theorem BW.vvBase (h : BW w0 w gd gv gm vf tf st vv jk q sl vs) {k : Nat} (hk : vv.ownBlock = some k) : w0.heap.size ≤ k := own_base h.vis.own k hk

/-- nothing of it is turned -/
theorem BW.stay (h : BW w0 w gd gv gm vf tf st vv jk q sl vs) (hk : KeepF (WM gd gv w0.heap.size) w w1) (hd : w1.heap[gd]? = w.heap[gd]?) (hv : w1.heap[gv]? = w.heap[gv]?) (hm : w1.heap[gm]? = w.heap[gm]?)
    (hs : ∀ k, st.ownBlock = some k → w1.heap[k]? = w.heap[k]?) (hvv : ∀ k, vv.ownBlock = some k → w1.heap[k]? = w.heap[k]?) : BW w0 w1 gd gv gm vf tf st vv jk q sl vs :=
  ⟨h.que.stay hd hs, h.set.stay hm, h.gmL, h.vis.stay hv hvv, h.gv0, h.gd0, h.kp.trans hk⟩
theorem BW.below (h : BW w0 w gd gv gm vf tf st vv jk q sl vs) (hb : Below w.heap.size w w1) : BW w0 w1 gd gv gm vf tf st vv jk q sl vs :=
  h.stay (KeepF.of_below hb) (hb.block _ (blk_lt h.que.blk)) (hb.block _ (blk_lt h.vis.blk)) (hb.block _ h.set.lt) (fun k hk => hb.block k (h.stLt hk)) (fun k hk => hb.block k (h.vvLt hk))
/-- the iterator goes on -/
theorem BW.mid (h : BW w0 w gd gv gm vf tf st vv jk q sl vs) {lo B : Nat} (hm : Mid lo B w w1) (hlo : w0.heap.size ≤ lo) (hgm : gm < lo) (hst : ∀ k, st.ownBlock = some k → k < lo ∨ B ≤ k) (hvv : ∀ k, vv.ownBlock = some k → k < lo ∨ B ≤ k) : BW w0 w1 gd gv gm vf tf st vv jk q sl vs := by
  have hd := blk_lt h.que.blk
  have hv := blk_lt h.vis.blk
  have h1 := h.gv0
  have h2 := h.gd0
  refine h.stay ⟨hm.os, hm.tape, hm.output, hm.size, fun k hk hn => hm.block k hk (.inl ?_)⟩ (hm.block _ hd (.inl (by omega))) (hm.block _ hv (.inl (by omega))) (hm.block _ h.set.lt (.inl hgm)) (fun k hk => hm.block k (h.stLt hk) (hst k hk)) (fun k hk => hm.block k (h.vvLt hk) (hvv k hk))
  unfold WM at hn
  omega
/-- the queue goes on -/
theorem BW.queS (h : BW w0 w gd gv gm vf tf st vv jk q sl vs) {st' : Value} {jk' : List Value} {q' : List Int} (hq : Que w0.heap.size w1 gd vf tf (.map (some gm)) st' jk' q') (hk : KeepF (QM gd st) w w1) : BW w0 w1 gd gv gm vf tf st' vv jk' q' sl vs := by
  have hne := h.gdm
  have hno : ∀ {k}, k ≠ gd → st.ownBlock ≠ some k → ¬ QM gd st k := fun {k} h1 h2 hm => by
    rcases hm with hm | hm
    · exact h1 hm
    · exact h2 hm
  refine ⟨hq, h.set.stay (hk.block _ h.set.lt (hno (fun e => hne.1 e.symm) (fun e => (h.apart e).2.2.1 rfl))), h.gmL, h.vis.stay (hk.block _ (blk_lt h.vis.blk) (hno (fun e => hne.2.2 e.symm) (fun e => (h.apart e).2.1 rfl))) (fun k hv => hk.block k (h.vvLt hv) (hno (h.apartV hv).1 (h.apartV hv).2.2.2)), h.gv0, h.gd0, h.kp.trans (hk.imp fun k hm => ?_)⟩
  rcases hm with hm | hm
  · exact .inl hm
  · exact .inr (.inr (h.stBase hm))
/-- a node is marked -/
theorem BW.setS (h : BW w0 w gd gv gm vf tf st vv jk q sl vs) {sl' : List Int} (hs : SetOk w1 gm sl') (hg : w.grownBy w1 (some gm)) : BW w0 w1 gd gv gm vf tf st vv jk q sl' vs := by
  have hne := h.gdm
  exact ⟨h.que.stay (hg.block _ (blk_lt h.que.blk) (fun e => hne.1 (Option.some.inj e))) (fun k hk => hg.block k (h.stLt hk) (fun e => (h.apart hk).2.2.1 (Option.some.inj e))), hs, h.gmL, h.vis.stay (hg.block _ (blk_lt h.vis.blk) (fun e => hne.2.1 (Option.some.inj e))) (fun k hk => hg.block k (h.vvLt hk) (fun e => (h.apartV hk).2.2.1 (Option.some.inj e))), h.gv0, h.gd0,
    h.kp.trans (KeepF.of_grown hg (fun k hk => .inr (.inr (by have := h.gmL; have := Option.some.inj hk; omega))))⟩
/-- a node is visited -/
theorem BW.visS (h : BW w0 w gd gv gm vf tf st vv jk q sl vs) {vv' : Value} {vs' : List (Int × Int)} (hv : VisB w0.heap.size w1 gv vv' vs') (h1 : w.grownBy wa vv.ownBlock) (h2 : wa.grownBy w1 (some gv)) : BW w0 w1 gd gv gm vf tf st vv' jk q sl vs' := by
  have hne := h.gdm
  refine ⟨h.que.stay (two_turns h1 h2 (blk_lt h.que.blk) (fun e => (h.apartV e).1 rfl) hne.2.2) (fun k hk => two_turns h1 h2 (h.stLt hk) (h.apart hk).2.2.2 (h.apart hk).2.1), h.set.stay (two_turns h1 h2 h.set.lt (fun e => (h.apartV e).2.2.1 rfl) (fun e => hne.2.1 e.symm)), h.gmL, hv, h.gv0, h.gd0, ?_⟩
  exact (h.kp.trans (KeepF.of_grown h1 (fun k hk => .inr (.inr (h.vvBase hk))))).trans (KeepF.of_grown h2 (fun k hk => .inr (.inl (Option.some.inj hk).symm)))
/-- a depth is told -/
theorem BW.depS (h : BW w0 w gd gv gm vf tf st vv jk q sl vs) {vs' : List (Int × Int)} (hv : VisB w0.heap.size w1 gv vv vs') (hg : w.grownBy w1 vv.ownBlock) : BW w0 w1 gd gv gm vf tf st vv jk q sl vs' :=
  ⟨h.que.stay (hg.block _ (blk_lt h.que.blk) (fun e => (h.apartV e.symm).1 rfl)) (fun k hk => hg.block k (h.stLt hk) (fun e => (h.apart hk).2.2.2 e.symm)), h.set.stay (hg.block _ h.set.lt (fun e => (h.apartV e.symm).2.2.1 rfl)), h.gmL, hv, h.gv0, h.gd0, h.kp.trans (KeepF.of_grown hg (fun k hk => .inr (.inr (h.vvBase hk))))⟩
theorem BW.cells (h : BW w0 w gd gv gm vf tf st vv jk q sl vs) : w.cell? ⟨gd, 0, none⟩ = some vf ∧ w.cell? ⟨gd, 1, none⟩ = some tf ∧ w.cell? ⟨gd, 4, none⟩ = some (.map (some gm)) :=
  ⟨(blk_cell h.que.blk 0).trans rfl, (blk_cell h.que.blk 1).trans rfl, (blk_cell h.que.blk 4).trans rfl⟩
end
end Go.Proofs.YtfkmpnpliadohaaGreat.R
