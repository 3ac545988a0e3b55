import Derived.Test.YtfkmpnpliadohaaGreatFV3
import Derived.Test.YtfkmpnpliadohaaGreatFPW1
import Derived.Test.YtfkmpnpliadohaaGreatFL1
set_option linter.unusedVariables false
set_option linter.unusedSimpArgs false
/- The plain law of FnDepthFirst: hops, reached. -/
namespace Go.Proofs.YtfkmpnpliadohaaGreat.R
open Go.RowKit Go.Lab Go.Proofs.YtfkmpnpliadohaaGreatW.PrintWords PL Q

/-! hops -/
def matchE (d : Bool) (u v : Int) (f : S38) : Bool := (decide (f.f0 = u) && decide (f.f1 = v)) || (!d && (decide (f.f0 = v) && decide (f.f1 = u)))
def hopsL (d : Bool) : List S38 → List S54
  | [] => []
  | e :: r => (if r.any (matchE d e.f0 e.f1) = true then [] else (⟨e.f0, e.f1, e.f2⟩ : S54) :: (if d = true then [] else [⟨e.f1, e.f0, e.f2⟩])) ++ hopsL d r
theorem match_if {α : Type} (d : Bool) (u v : Int) (e : S38) (X Y : α) : (if e.f0 = u then (if e.f1 = v then X else (if d = true then Y else (if e.f0 = v then (if e.f1 = u then X else Y) else Y))) else (if d = true then Y else (if e.f0 = v then (if e.f1 = u then X else Y) else Y))) = if matchE d u v e = true then X else Y := by
  have key : ∀ (p q r s : Prop) [Decidable p] [Decidable q] [Decidable r] [Decidable s] (d : Bool), (if p then (if q then X else (if d = true then Y else (if r then (if s then X else Y) else Y))) else (if d = true then Y else (if r then (if s then X else Y) else Y))) = if ((decide p && decide q) || (!d && (decide r && decide s))) = true then X else Y := by
    intro p q r s _ _ _ _ d
    by_cases p <;> by_cases q <;> by_cases r <;> by_cases s <;> cases d <;> simp [*]
  exact key _ _ _ _ d
theorem hopsL_len (d : Bool) (es : List S38) : (hopsL d es).length ≤ 2 * es.length := by
  induction es with
  | nil => exact Nat.le_refl _
  | cons e r ih =>
    unfold hopsL
    rw [List.length_append, List.length_cons]
    split
    · simp; omega
    · rw [List.length_cons]
      split <;> simp <;> omega
theorem hops_l1 (d : Bool) (zs : List Int) (es : List S38) (he : es.length ≤ 100000) (acc : List S54) (i u v x : Int) (r : List S54) : ∀ m j, es.length - j ≤ m → j ≤ es.length → ∀ b : Bool,
    Ev (fun k => laws_hops.l1 k acc i (b && !(es.drop j).any (matchE d u v)) (es.length : Int) d zs es u v x) r → Ev (fun k => laws_hops.l1 k acc i b (j : Int) d zs es u v x) r
  | 0, j, hm, hj, b, h => by
    have hje : j = es.length := by omega
    subst hje
    rw [List.drop_length] at h
    simpa using h
  | m + 1, j, hm, hj, b, h => by
    by_cases hlt : j < es.length
    · have w2 : wrap64 ((j : Int) + 1) = ((j + 1 : Nat) : Int) := by unfold wrap64; omega
      rw [List.drop_eq_getElem_cons hlt, List.any_cons] at h
      have hr := rdE es j hlt
      generalize es[j] = e at hr h
      have ih := fun b' => hops_l1 d zs es he acc i u v x r m (j + 1) (by omega) (by omega) b'
      cases hmt : matchE d u v e with
      | true =>
        rw [hmt, Bool.true_or, Bool.not_true, Bool.and_false] at h
        refine Ev.step (fun k => ?_) (ih false (by rw [Bool.false_and]; exact h))
        simp only [laws_hops.l1]
        rw [if_pos (by omega), if_pos (by omega), hr, w2]
        rw [match_if, hmt, if_pos rfl]
      | false =>
        rw [hmt, Bool.false_or] at h
        refine Ev.step (fun k => ?_) (ih b h)
        simp only [laws_hops.l1]
        rw [if_pos (by omega), if_pos (by omega), hr, w2]
        rw [match_if, hmt, if_neg (by simp)]
    · have hje : j = es.length := by omega
      subst hje
      rw [List.drop_length] at h
      simpa using h
theorem hops_l0 (d : Bool) (zs : List Int) (es : List S38) (he : es.length ≤ 100000) : ∀ m i, es.length - i ≤ m → i ≤ es.length → ∀ acc : List S54, acc.length ≤ 2 * i → Ev (fun k => laws_hops.l0 k acc (i : Int) d zs es) (acc ++ hopsL d (es.drop i))
  | 0, i, hm, hi, acc, ha => by
    refine Ev.step (fun k => ?_) (Ev.now _)
    simp only [laws_hops.l0]
    rw [if_neg (by omega), List.drop_eq_nil_of_le (by omega)]
    simp [hopsL]
  | m + 1, i, hm, hi, acc, ha => by
    by_cases hlt : i < es.length
    · have w2 : wrap64 ((i : Int) + 1) = ((i + 1 : Nat) : Int) := by unfold wrap64; omega
      have hr := rdE es i hlt
      have hd : es.drop i = es[i] :: es.drop (i + 1) := List.drop_eq_getElem_cons hlt
      rw [hd]
      generalize es[i] = e at hr
      refine Ev.step (f := fun k => laws_hops.l1 k acc (i : Int) true (((i + 1 : Nat) : Int)) d zs es e.f0 e.f1 e.f2) (fun k => ?_) ?_
      · simp only [laws_hops.l0]
        rw [if_pos (by omega), if_pos (by omega), w2, hr]
      · refine hops_l1 d zs es he acc i e.f0 e.f1 e.f2 _ es.length (i + 1) (by omega) (by omega) true ?_
        rw [Bool.true_and]
        unfold hopsL
        cases hany : (es.drop (i + 1)).any (matchE d e.f0 e.f1) with
        | true =>
          rw [if_pos rfl, List.nil_append]
          refine Ev.step (fun k => ?_) (hops_l0 d zs es he m (i + 1) (by omega) (by omega) acc (by omega))
          simp only [laws_hops.l1]
          rw [if_neg (by omega), if_neg (by simp), w2]
        | false =>
          rw [if_neg (by simp)]
          cases d with
          | true =>
            have h := hops_l0 true zs es he m (i + 1) (by omega) (by omega) (acc ++ [⟨e.f0, e.f1, e.f2⟩]) (by simp; omega)
            rw [List.append_assoc] at h
            rw [if_pos rfl]
            refine Ev.step (fun k => ?_) h
            simp only [laws_hops.l1]
            rw [if_neg (by omega), if_pos (by simp), if_pos (by omega), Option.bind_some, if_pos trivial, w2]
          | false =>
            have h := hops_l0 false zs es he m (i + 1) (by omega) (by omega) (acc ++ [⟨e.f0, e.f1, e.f2⟩] ++ [⟨e.f1, e.f0, e.f2⟩]) (by simp; omega)
            rw [if_neg (by simp)]
            have h2 : acc ++ [⟨e.f0, e.f1, e.f2⟩] ++ [⟨e.f1, e.f0, e.f2⟩] ++ hopsL false (es.drop (i + 1)) = acc ++ ((⟨e.f0, e.f1, e.f2⟩ : S54) :: [⟨e.f1, e.f0, e.f2⟩] ++ hopsL false (es.drop (i + 1))) := by simp
            rw [h2] at h
            refine Ev.step (fun k => ?_) h
            simp only [laws_hops.l1]
            rw [if_neg (by omega), if_pos (by simp), if_pos (by omega), Option.bind_some, if_neg (by simp), if_pos (by simp; omega), w2]
    · refine Ev.step (fun k => ?_) (Ev.now _)
      simp only [laws_hops.l0]
      rw [if_neg (by omega), List.drop_eq_nil_of_le (by omega)]
      simp [hopsL]
theorem hops_ev (d : Bool) (zs : List Int) (es : List S38) (he : es.length ≤ 100000) : Ev (fun k => laws_hops.f k d zs es) (hopsL d es) := by
  have := hops_l0 d zs es he es.length 0 (by omega) (Nat.zero_le _) [] (by simp)
  rw [List.drop_zero, List.nil_append] at this
  exact this
/-- the ends of hops are those of edges -/
theorem hops_mem (d : Bool) (es : List S38) (u v : Int) : (∃ h ∈ hopsL d es, h.f0 = u ∧ h.f1 = v) ↔ ∃ e ∈ dbl d es, e.f0 = u ∧ e.f1 = v := by
  have hdb : (∃ e ∈ dbl d es, e.f0 = u ∧ e.f1 = v) ↔ ∃ e ∈ es, (e.f0 = u ∧ e.f1 = v) ∨ (d = false ∧ e.f0 = v ∧ e.f1 = u) := by
    unfold dbl
    cases d with
    | true => simp
    | false =>
      rw [if_neg (by simp)]
      constructor
      · rintro ⟨e, he, h⟩
        obtain ⟨a, ha, hm⟩ := List.mem_flatMap.1 he
        rcases List.mem_cons.1 hm with rfl | hm
        · exact ⟨_, ha, .inl h⟩
        · rw [List.mem_singleton] at hm
          subst hm
          exact ⟨a, ha, .inr ⟨rfl, h.2, h.1⟩⟩
      · rintro ⟨e, he, h | ⟨_, h⟩⟩
        · exact ⟨e, List.mem_flatMap.2 ⟨e, he, by simp⟩, h⟩
        · exact ⟨⟨e.f1, e.f0, e.f2⟩, List.mem_flatMap.2 ⟨e, he, by simp⟩, h.2, h.1⟩
  rw [hdb]
  clear hdb
  induction es with
  | nil => simp [hopsL]
  | cons e r ih =>
    unfold hopsL
    cases hany : r.any (matchE d e.f0 e.f1) with
    | true =>
      rw [if_pos rfl, List.nil_append]
      constructor
      · intro hh
        obtain ⟨x, hx, h⟩ := ih.1 hh
        exact ⟨x, by simp [hx], h⟩
      · rintro ⟨x, hx, h⟩
        refine ih.2 ?_
        rcases List.mem_cons.1 hx with rfl | hx
        · obtain ⟨y, hy, hm⟩ := List.any_eq_true.1 hany
          refine ⟨y, hy, ?_⟩
          unfold matchE at hm
          simp only [Bool.or_eq_true, Bool.and_eq_true, decide_eq_true_eq, Bool.not_eq_true'] at hm
          rcases hm with ⟨m1, m2⟩ | ⟨md, m1, m2⟩ <;> rcases h with ⟨h1, h2⟩ | ⟨hd, h1, h2⟩ <;> simp_all
        · exact ⟨x, hx, h⟩
    | false =>
      rw [if_neg (by simp)]
      constructor
      · rintro ⟨x, hx, h1, h2⟩
        rcases List.mem_append.1 hx with hx | hx
        · rcases List.mem_cons.1 hx with rfl | hx
          · exact ⟨e, by simp, .inl ⟨h1, h2⟩⟩
          · cases d with
            | true => simp at hx
            | false =>
              simp at hx
              subst hx
              exact ⟨e, by simp, .inr ⟨rfl, h2, h1⟩⟩
        · obtain ⟨y, hy, h⟩ := ih.1 ⟨x, hx, h1, h2⟩
          exact ⟨y, by simp [hy], h⟩
      · rintro ⟨x, hx, h⟩
        rcases List.mem_cons.1 hx with rfl | hx
        · rcases h with ⟨h1, h2⟩ | ⟨rfl, h1, h2⟩
          · exact ⟨⟨x.f0, x.f1, x.f2⟩, by simp, h1, h2⟩
          · exact ⟨⟨x.f1, x.f0, x.f2⟩, by simp, h2, h1⟩
        · obtain ⟨y, hy, h'⟩ := ih.2 ⟨x, hx, h⟩
          exact ⟨y, by simp [hy], h'⟩

/-! reached -/
def rIn (u : Int) : List S54 → List Int → List Int
  | [], o => o
  | h :: r, o => rIn u r (if h.f0 = u ∧ h.f1 ∉ o then o ++ [h.f1] else o)
theorem rIn_pre (u : Int) : ∀ (l : List S54) (o : List Int), ∃ p, rIn u l o = o ++ p
  | [], o => ⟨[], by simp [rIn]⟩
  | h :: r, o => by
    unfold rIn
    split
    · obtain ⟨p, hp⟩ := rIn_pre u r (o ++ [h.f1])
      exact ⟨[h.f1] ++ p, by rw [hp, List.append_assoc]⟩
    · exact rIn_pre u r o
theorem rIn_nodup (u : Int) : ∀ (l : List S54) (o : List Int), o.Nodup → (rIn u l o).Nodup
  | [], o, h => h
  | h :: r, o, hn => by
    unfold rIn
    split
    · rename_i hc
      refine rIn_nodup u r _ ?_
      rw [List.nodup_append]
      exact ⟨hn, by simp, fun a ha b hb => by rw [List.mem_singleton] at hb; subst hb; exact fun e => hc.2 (e ▸ ha)⟩
    · exact rIn_nodup u r o hn
theorem rIn_from (u : Int) : ∀ (l : List S54) (o : List Int) (x : Int), x ∈ rIn u l o → x ∈ o ∨ ∃ h ∈ l, h.f0 = u ∧ h.f1 = x
  | [], o, x, h => .inl h
  | h :: r, o, x, hx => by
    unfold rIn at hx
    split at hx
    · rename_i hc
      rcases rIn_from u r _ x hx with h1 | ⟨g, hg, h2⟩
      · rcases List.mem_append.1 h1 with h1 | h1
        · exact .inl h1
        · rw [List.mem_singleton] at h1
          exact .inr ⟨h, by simp, hc.1, h1.symm⟩
      · exact .inr ⟨g, by simp [hg], h2⟩
    · rcases rIn_from u r _ x hx with h1 | ⟨g, hg, h2⟩
      · exact .inl h1
      · exact .inr ⟨g, by simp [hg], h2⟩
theorem rIn_sub (u : Int) (l : List S54) (o : List Int) {x : Int} (hx : x ∈ o) : x ∈ rIn u l o := by
  obtain ⟨p, hp⟩ := rIn_pre u l o
  rw [hp]; simp [hx]
theorem rIn_all (u : Int) : ∀ (l : List S54) (o : List Int), ∀ h ∈ l, h.f0 = u → h.f1 ∈ rIn u l o
  | [], o, h, hh, _ => by cases hh
  | g :: r, o, h, hh, hu => by
    unfold rIn
    rcases List.mem_cons.1 hh with rfl | hh
    · split
      · exact rIn_sub u r _ (by simp)
      · rename_i hc
        refine rIn_sub u r _ ?_
        rcases Classical.em (h.f1 ∈ o) with h1 | h1
        · exact h1
        · exact absurd ⟨hu, h1⟩ hc
    · exact rIn_all u r _ h hh hu
theorem rdH (xs : List S54) (i : Nat) (h : i < xs.length) : rd_T54 xs (i : Int) = xs[i] := by unfold rd_T54; simp [List.getD_eq_getElem?_getD, h]
theorem nodup_le {a b : List Int} (ha : a.Nodup) (h : ∀ x ∈ a, x ∈ b) : a.length ≤ b.length := by
  induction a generalizing b with
  | nil => exact Nat.zero_le _
  | cons x a ih =>
    rw [List.nodup_cons] at ha
    have h1 := ih (b := b.erase x) ha.2 (fun y hy => (List.mem_erase_of_ne (fun (e : y = x) => ha.1 (by rw [← e]; exact hy))).2 (h y (by simp [hy])))
    rw [List.length_erase_of_mem (h x (by simp))] at h1
    have h2 : 0 < b.length := List.length_pos_of_mem (h x (by simp))
    rw [List.length_cons]; omega
theorem reached_l1 (xs : List S54) (hx : xs.length ≤ 100000) (i : Nat) (u : Int) (r : List Int) : ∀ m j, xs.length - j ≤ m → j ≤ xs.length → ∀ o : List Int, (h : i < o.length) → o[i] = u → o.length + (xs.length - j) ≤ 100000 →
    Ev (fun k => laws_reached.l0 k xs (rIn u (xs.drop j) o) (((i + 1 : Nat) : Int))) r → Ev (fun k => laws_reached.l1 k xs o (i : Int) (j : Int)) r
  | 0, j, hm, hj, o, h, hu, hb, hr => by
    have w2 : wrap64 ((i : Int) + 1) = ((i + 1 : Nat) : Int) := by unfold wrap64; omega
    rw [List.drop_eq_nil_of_le (by omega)] at hr
    refine Ev.step (fun k => ?_) hr
    simp only [laws_reached.l1, rIn]
    rw [if_neg (by omega), w2]
  | m + 1, j, hm, hj, o, h, hu, hb, hr => by
    have w2 : wrap64 ((i : Int) + 1) = ((i + 1 : Nat) : Int) := by unfold wrap64; omega
    by_cases hlt : j < xs.length
    · have w3 : wrap64 ((j : Int) + 1) = ((j + 1 : Nat) : Int) := by unfold wrap64; omega
      rw [List.drop_eq_getElem_cons hlt] at hr
      have hrd := rdH xs j hlt
      have hro : rd o (i : Int) = u := by rw [rdI o i h]; exact hu
      generalize xs[j] = e at hrd hr
      by_cases g1 : e.f0 = u
      · refine Ev.step (f := fun k => (slices_Contains_int_int.f k o e.f1).bind fun t317 => (if t317 = true then (laws_reached.l1 k xs o (i : Int) (((j + 1 : Nat) : Int))) else (if o.length < 17592186044416 then (laws_reached.l1 k xs (o ++ [e.f1]) (i : Int) (((j + 1 : Nat) : Int))) else (none)))) (fun k => ?_) ?_
        · simp only [laws_reached.l1]
          rw [if_pos (by omega), if_pos (by omega), if_pos (by omega), if_pos (by omega), hrd, hro, if_pos g1, w3]
        · refine Ev.bind (contains_ev o e.f1 (by omega)) ?_
          by_cases g2 : e.f1 ∈ o
          · refine Ev.congr (fun k => if_pos (decide_eq_true g2)) (reached_l1 xs hx i u r m (j + 1) (by omega) (by omega) o h hu (by omega) ?_)
            unfold rIn at hr
            rw [if_neg (fun hc => hc.2 g2)] at hr
            exact hr
          · refine Ev.congr (fun k => by rw [if_neg (by simp [g2]), if_pos (by omega)]) (reached_l1 xs hx i u r m (j + 1) (by omega) (by omega) (o ++ [e.f1]) (by simp; omega) (by rw [List.getElem_append_left h]; exact hu) (by simp; omega) ?_)
            unfold rIn at hr
            rw [if_pos ⟨g1, g2⟩] at hr
            exact hr
      · refine Ev.step (fun k => ?_) (reached_l1 xs hx i u r m (j + 1) (by omega) (by omega) o h hu (by omega) (by unfold rIn at hr; rw [if_neg (fun hc => g1 hc.1)] at hr; exact hr))
        simp only [laws_reached.l1]
        rw [if_pos (by omega), if_pos (by omega), if_pos (by omega), if_pos (by omega), hrd, hro, if_neg g1, w3]
    · rw [List.drop_eq_nil_of_le (by omega)] at hr
      refine Ev.step (fun k => ?_) hr
      simp only [laws_reached.l1, rIn]
      rw [if_neg (by omega), w2]
/-- what is reached from a node over hops -/
structure AllR (xs : List S54) (s0 : Int) (all : List Int) : Prop where
  nodup : all.Nodup
  first : s0 ∈ all
  rch : ∀ x ∈ all, RchW (fun u => (xs.filter fun h => decide (h.f0 = u)).map fun h => h.f1) s0 x
  closed : ∀ u ∈ all, ∀ h ∈ xs, h.f0 = u → h.f1 ∈ all
theorem reached_l0 (xs : List S54) (hx : xs.length ≤ 10000) (s0 : Int) (nodes : List Int) (hno : nodes.length ≤ 1000) (h0 : s0 ∈ nodes) (hn : ∀ h ∈ xs, h.f1 ∈ nodes) : ∀ m i, nodes.length - i ≤ m → ∀ o : List Int, i ≤ o.length → o.Nodup → s0 ∈ o → (∀ x ∈ o, x ∈ nodes) →
    (∀ x ∈ o, RchW (fun u => (xs.filter fun h => decide (h.f0 = u)).map fun h => h.f1) s0 x) → (∀ u ∈ o.take i, ∀ h ∈ xs, h.f0 = u → h.f1 ∈ o) → ∃ all, Ev (fun k => laws_reached.l0 k xs o (i : Int)) all ∧ AllR xs s0 all ∧ ∀ x ∈ all, x ∈ nodes
  | 0, i, hm, o, hi, h1, h2, h3, h4, h5 => by
    have hle := nodup_le h1 h3
    refine ⟨o, Ev.step (fun k => ?_) (Ev.now _), ⟨h1, h2, h4, ?_⟩, h3⟩
    · simp only [laws_reached.l0]
      rw [if_neg (by omega)]
    · rw [List.take_of_length_le (by omega)] at h5
      exact h5
  | m + 1, i, hm, o, hi, h1, h2, h3, h4, h5 => by
    have hle := nodup_le h1 h3
    by_cases hlt : i < o.length
    · obtain ⟨p, hp⟩ := rIn_pre o[i] xs o
      have q3 : ∀ x ∈ rIn o[i] xs o, x ∈ nodes := fun x hxx => by
        rcases rIn_from _ _ _ _ hxx with h | ⟨h, hh, _, rfl⟩
        · exact h3 x h
        · exact hn h hh
      have q4 : ∀ x ∈ rIn o[i] xs o, RchW (fun u => (xs.filter fun h => decide (h.f0 = u)).map fun h => h.f1) s0 x := fun x hxx => by
        rcases rIn_from _ _ _ _ hxx with h | ⟨h, hh, he, rfl⟩
        · exact h4 x h
        · exact (h4 o[i] (List.getElem_mem _)).step (List.mem_map.2 ⟨h, List.mem_filter.2 ⟨hh, decide_eq_true he⟩, rfl⟩)
      obtain ⟨all, e1, e2, e3⟩ := reached_l0 xs hx s0 nodes hno h0 hn m (i + 1) (by omega) (rIn o[i] xs o) (by rw [hp, List.length_append]; omega) (rIn_nodup _ _ _ h1) (rIn_sub _ _ _ h2) q3 q4 (fun u hu h hh he => by
        rw [hp, List.take_append_of_le_length (by omega), List.take_succ_eq_append_getElem hlt] at hu
        rcases List.mem_append.1 hu with hu | hu
        · exact rIn_sub _ _ _ (h5 u hu h hh he)
        · rw [List.mem_singleton] at hu
          exact rIn_all _ _ _ h hh (he.trans hu))
      refine ⟨all, Ev.step (f := fun k => laws_reached.l1 k xs o (i : Int) ((0 : Nat) : Int)) (fun k => ?_) (reached_l1 xs (by omega) i o[i] all xs.length 0 (by omega) (Nat.zero_le _) o hlt rfl (by omega) (by rw [List.drop_zero]; exact e1)), e2, e3⟩
      simp only [laws_reached.l0]
      rw [if_pos (by omega)]; rfl
    · refine ⟨o, Ev.step (fun k => ?_) (Ev.now _), ⟨h1, h2, h4, ?_⟩, h3⟩
      · simp only [laws_reached.l0]
        rw [if_neg (by omega)]
      · rw [List.take_of_length_le (by omega)] at h5
        exact h5
theorem reached_ev (xs : List S54) (hx : xs.length ≤ 10000) (s0 : Int) (nodes : List Int) (hno : nodes.length ≤ 1000) (h0 : s0 ∈ nodes) (hn : ∀ h ∈ xs, h.f1 ∈ nodes) : ∃ all, Ev (fun k => laws_reached.f k xs s0) all ∧ AllR xs s0 all ∧ ∀ x ∈ all, x ∈ nodes :=
  reached_l0 xs hx s0 nodes hno h0 hn nodes.length 0 (by omega) [s0] (by simp) (by simp) (by simp) (fun x hxx => by rw [List.mem_singleton] at hxx; rw [hxx]; exact h0) (fun x hxx => by rw [List.mem_singleton] at hxx; rw [hxx]; exact RchW.here) (fun u hu => by simp at hu)
end Go.Proofs.YtfkmpnpliadohaaGreat.R

set_option linter.unusedVariables false
set_option linter.unusedSimpArgs false
/- FnDepthFirst answers true. -/
namespace Go.Proofs.YtfkmpnpliadohaaGreat.R
open Go.RowKit Go.Lab Go.Proofs.YtfkmpnpliadohaaGreatW.PrintWords PL Q

theorem bar_free (d : Bool) (h : S54) (b : S38) : barB d h b = (decide ((ordE d h.f0 h.f1).1 = (ordE d b.f0 b.f1).1) && decide ((ordE d h.f0 h.f1).2 = (ordE d b.f0 b.f1).2)) := by
  rw [Bool.eq_iff_iff]
  unfold barB ordE
  generalize h.f0 = u
  generalize h.f1 = v
  generalize b.f0 = x
  generalize b.f1 = y
  cases d with
  | true =>
    simp only [if_true, Bool.not_true, Bool.false_and, Bool.or_false, Bool.and_eq_true, beq_iff_eq, decide_eq_true_eq]
    constructor <;> (rintro ⟨h1, h2⟩; exact ⟨h1.symm, h2.symm⟩)
  | false =>
    simp only [Bool.not_false, Bool.true_and, Bool.or_eq_true, Bool.and_eq_true, beq_iff_eq, decide_eq_true_eq, Bool.false_eq_true, if_false]
    by_cases g1 : u > v <;> by_cases g2 : x > y <;> simp only [g1, g2, if_true, if_false] <;> omega
theorem shut_free (d : Bool) (bs : List S38) (h : S54) : shutB d bs h = !freeB d bs h.f0 h.f1 := by
  unfold shutB freeB
  rw [Bool.not_not]
  congr 1
  funext b
  exact bar_free d h b
theorem open_mem (d : Bool) (es bs : List S38) (u v : Int) : (∃ h ∈ openB d bs (hopsL d es), h.f0 = u ∧ h.f1 = v) ↔ (∃ e ∈ dbl d es, e.f0 = u ∧ e.f1 = v) ∧ freeB d bs u v = true := by
  rw [← hops_mem]
  unfold openB
  constructor
  · rintro ⟨h, hh, rfl, rfl⟩
    obtain ⟨h1, h2⟩ := List.mem_filter.1 hh
    rw [shut_free, Bool.not_not] at h2
    exact ⟨⟨h, h1, rfl, rfl⟩, h2⟩
  · rintro ⟨⟨h, h1, rfl, rfl⟩, h2⟩
    exact ⟨h, List.mem_filter.2 ⟨h1, by rw [shut_free, Bool.not_not]; exact h2⟩, rfl, rfl⟩
theorem dbl_ends {d : Bool} {zs : List Int} {es : List S38} (hro : readOk zs es = true) {e : S38} (he : e ∈ dbl d es) : e.f0 ∈ zs ∧ e.f1 ∈ zs := by
  unfold readOk at hro
  rw [Bool.and_eq_true] at hro
  have h1 := List.all_eq_true.1 (dbl_good d hro.2) e he
  unfold goodE at h1
  simp only [Bool.and_eq_true, decide_eq_true_eq] at h1
  exact ⟨h1.1.1.1.1, h1.1.1.1.2⟩
theorem adj_mem {d : Bool} {zs : List Int} {es bs : List S38} (hro : readOk zs es = true) (u v : Int) : v ∈ adjF d zs (dbl d es) bs u ↔ ∃ h ∈ openB d bs (hopsL d es), h.f0 = u ∧ h.f1 = v := by
  rw [open_mem]
  unfold adjF outN
  rw [List.mem_filter, List.mem_filter, arcW_some, mem_srt]
  constructor
  · rintro ⟨⟨_, h1⟩, h2⟩; exact ⟨h1, h2⟩
  · rintro ⟨⟨e, he, h1, h2⟩, h3⟩
    exact ⟨⟨by rw [← h2]; exact (dbl_ends hro he).2, e, he, h1, h2⟩, h3⟩
theorem RchW.imp {a1 a2 : Int → List Int} {s0 x : Int} (h : RchW a1 s0 x) (hs : ∀ u, ∀ v ∈ a1 u, v ∈ a2 u) : RchW a2 s0 x := fun S h0 hS => h S h0 (fun u hu y hy => hS u hu y (hs u y hy))

theorem dfl_all (d : Bool) (A1 A2 A : Option Addr) (c1 c2 c : Nat) (zs : List Int) (es bs : List S38) (a t : Int) (w : World)
    (hN : Kd.C (Kd.int .i64) w A1 zs.length zs) (n1 : zs.length ≤ c1) (hE : Kd.C k38 w A2 es.length es) (n2 : es.length ≤ c2) (hB : Kd.C k38 w A bs.length bs) (n3 : bs.length ≤ c) (hwf : ∀ x ∈ zs, (Lit.int .i64 x).wf = true) (hzl : zs.length ≤ 9223372036854775807) :
    Calls Tryz.prog 6 #[.agg #[.bool d, .slice A1 zs.length c1, .slice A2 es.length c2], .int .i64 a, .int .i64 t, .slice A bs.length c] w fun e w' => e = .returned (.bool true) ∧ Below w.heap.size w w' := by
  obtain ⟨k5, h5⟩ := walksOne_ev.rounds
  by_cases hz : zs.length ≤ 2147483647 ∧ es.length ≤ 2147483647
  · have hfit : laws_zzFits1.f d zs es = some true := by
      unfold laws_zzFits1.f
      rw [if_neg (by omega), if_neg (by omega)]
    by_cases hb0 : bs.length ≤ 2147483647
    · obtain ⟨k1, h1⟩ := (sized_ev d zs es 30).rounds
      cases hs : sizedB 30 zs es with
      | false => rw [hs] at h1; exact dfl_b1 d A1 A2 A c1 c2 c zs es bs a t k1 0 k5 w hN n1 hE n2 hB n3 hzl hfit hb0 h1 h5
      | true =>
        rw [hs] at h1
        unfold sizedB at hs
        simp only [Bool.and_eq_true, decide_eq_true_eq] at hs
        obtain ⟨s1, s2, s3⟩ := hs
        by_cases hb6 : bs.length ≤ 60
        · obtain ⟨k2, h2⟩ := (formed_ev d zs es (by omega) (by omega)).rounds
          have hfr := formed_read (zs := zs) s3
          cases hro : readOk zs es with
          | false => rw [hfr, hro] at h2; exact dfl_b3 d A1 A2 A c1 c2 c zs es bs a t k1 k2 k5 w hN n1 hE n2 hB n3 hzl hfit hb0 h1 h5 hb6 h2
          | true =>
            rw [hfr, hro] at h2
            by_cases ha : a ∈ zs
            · obtain ⟨k3, h3⟩ := (hops_ev d zs es (by omega)).rounds
              have hxl := hopsL_len d es
              have hol : (openB d bs (hopsL d es)).length ≤ (hopsL d es).length := List.length_filter_le _ _
              have hstep : ∀ h ∈ openB d bs (hopsL d es), h.f1 ∈ zs := fun h hh => by
                obtain ⟨⟨e, he, _, h2⟩, _⟩ := (open_mem d es bs h.f0 h.f1).1 ⟨h, hh, rfl, rfl⟩
                rw [← h2]; exact (dbl_ends hro he).2
              obtain ⟨all, hall, hA, hAz⟩ := reached_ev (openB d bs (hopsL d es)) (by omega) a zs (by omega) ha hstep
              obtain ⟨k4, h4⟩ := hall.rounds
              obtain ⟨q, hq⟩ := dfs_some d zs (dbl d es) bs a t ha (by omega)
              have hD := dfs_ok hq
              have hcond : zs.length ≤ 90 ∧ es.length ≤ 1000000 ∧ bs.length ≤ 100000 ∧ (zs.all fun x => (Lit.int .i64 x).wf) = true := ⟨by omega, by omega, by omega, List.all_eq_true.2 hwf⟩
              have hdf : impl_DepthFirst.f d zs es a t bs = some (q.1, q.2.getD 0, q.2.isSome, false) := by
                unfold impl_DepthFirst.f
                rw [if_pos hcond, if_pos (by rw [hro, decide_eq_true ha]; rfl), hq]; rfl
              have hadjz : ∀ {x : Int}, RchW (adjF d zs (dbl d es) bs) a x → x ∈ zs := fun {x} hr => hr (fun y => y ∈ zs) ha (fun u _ y hy => (outN_mem (List.mem_filter.1 hy).1).1)
              obtain ⟨l, hl⟩ := hD.first
              have hnd := hD.ord.nodup
              have hlz := nodup_le hnd (b := zs) (fun x hx => hadjz (hD.ord.rch' hx))
              have hallr : ∀ x, x ∈ all ↔ RchW (adjF d zs (dbl d es) bs) a x := fun x => by
                constructor
                · intro hx
                  refine (hA.rch x hx).imp (fun u v hv => ?_)
                  obtain ⟨h, hh, rfl⟩ := List.mem_map.1 hv
                  obtain ⟨h1, h2⟩ := List.mem_filter.1 hh
                  exact (adj_mem hro u h.f1).2 ⟨h, h1, by simpa using h2, rfl⟩
                · intro hr
                  refine hr (fun y => y ∈ all) hA.first (fun u hu y hy => ?_)
                  obtain ⟨h, hh, h1, h2⟩ := (adj_mem hro u y).1 hy
                  rw [← h2]
                  exact hA.closed u hu h hh h1
              have hpre : ∀ i, 1 ≤ i → i < q.1.length → q.1.getD i 0 ∉ q.1.take i ∧ (openB d bs (hopsL d es)).any (preB q.1 i) = true := fun i hi hlt => by
                have hg : q.1.getD i 0 = q.1[i] := by rw [List.getD_eq_getElem?_getD, List.getElem?_eq_getElem hlt]; rfl
                have hsp : q.1 = q.1.take i ++ q.1[i] :: q.1.drop (i + 1) := by rw [List.getElem_cons_drop, List.take_append_drop]
                obtain ⟨o1, o2⟩ := hD.ord _ _ _ hsp
                rw [hg]
                refine ⟨o1, ?_⟩
                rcases o2 with ⟨o3, _⟩ | ⟨u, hu, hv⟩
                · have := congrArg List.length o3
                  rw [List.length_take, List.length_nil] at this
                  omega
                · obtain ⟨h, hh, e1, e2⟩ := (adj_mem hro u q.1[i]).1 hv
                  refine List.any_eq_true.2 ⟨h, hh, ?_⟩
                  unfold preB
                  rw [hg, decide_eq_true e2, decide_eq_true (by rw [e1]; exact hu)]; rfl
              have hla : q.1.getD 0 0 = a := by rw [hl]; rfl
              have hfin : (t ∈ all ∧ q.2.isSome = true ∧ q.2.getD 0 = t ∧ q.1.getD (q.1.length - 1) 0 = t) ∨ (t ∉ all ∧ q.2.isSome = false ∧ q.1.length = all.length) := by
                rcases hD.fin with ⟨f1, f2, f3⟩ | ⟨f1, l', f2⟩
                · right
                  have hsame : ∀ x, x ∈ q.1 ↔ x ∈ all := fun x => by
                    rw [hallr x]
                    exact ⟨fun hx => hD.ord.rch' hx, fun hr => closed_rch (by rw [hl]; simp) f3 hr⟩
                  refine ⟨fun ht => f2 ((hsame t).2 ht), by rw [f1]; rfl, ?_⟩
                  exact Nat.le_antisymm (nodup_le hnd (fun x hx => (hsame x).1 hx)) (nodup_le hA.nodup (fun x hx => (hsame x).2 hx))
                · left
                  have ht : t ∈ q.1 := by rw [f2]; simp
                  refine ⟨(hallr t).2 (hD.ord.rch' ht), by rw [f1]; rfl, by rw [f1]; rfl, ?_⟩
                  rw [f2]
                  simp [List.getD_eq_getElem?_getD]
              have hall2 := nodup_le hA.nodup (b := zs) hAz
              exact dfl_main d A1 A2 A c1 c2 c zs es bs a t (hopsL d es) q.1 all (q.2.getD 0) q.2.isSome k1 k2 k3 k4 k5 w hN n1 hE n2 hB n3 hfit hb6 (by omega) h1 h2 ha h3 (by omega) hdf (by rw [hl]; simp) (by omega) hla hpre h4 (by omega) h5 hfin
            · exact dfl_b4 d A1 A2 A c1 c2 c zs es bs a t k1 k2 k5 w hN n1 hE n2 hB n3 hzl hfit hb0 h1 h5 hb6 h2 (by omega) (decide_eq_false ha)
        · exact dfl_b2 d A1 A2 A c1 c2 c zs es bs a t k1 0 k5 w hN n1 hE n2 hB n3 hzl hfit hb0 h1 h5 (by omega)
    · exact dfl_a2 d A1 A2 A c1 c2 c zs es bs a t 0 0 k5 w hN n1 hE n2 hB n3 hzl hfit (by omega)
  · have hfit : laws_zzFits1.f d zs es = some false := by
      unfold laws_zzFits1.f
      by_cases h1 : (zs.length : Int) > 2147483647
      · rw [if_pos h1]
      · rw [if_neg h1, if_pos (by omega)]
    exact dfl_a1 d A1 A2 A c1 c2 c zs es bs a t 0 0 k5 w hN n1 hE n2 hB n3 hzl hfit
end Go.Proofs.YtfkmpnpliadohaaGreat.R
