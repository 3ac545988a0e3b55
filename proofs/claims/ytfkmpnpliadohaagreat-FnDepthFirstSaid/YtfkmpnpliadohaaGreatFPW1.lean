import Derived.Test.YtfkmpnpliadohaaGreatFV2
set_option linter.unusedVariables false
set_option linter.unusedSimpArgs false
/- The plain law of FnWalkBad. -/
namespace Go.Proofs.YtfkmpnpliadohaaGreat.R
open Go.RowKit Go.Lab Go.Proofs.YtfkmpnpliadohaaGreatW.PrintWords PL Q

theorem rdE (es : List S38) (i : Nat) (h : i < es.length) : rd_T38 es (i : Int) = es[i] := by unfold rd_T38; simp [List.getD_eq_getElem?_getD, h]
theorem rdI (l : List Int) (i : Nat) (h : i < l.length) : rd l (i : Int) = l[i] := by unfold rd; rw [Int.toNat_natCast, List.getD_eq_getElem?_getD, List.getElem?_eq_getElem h]; rfl

/-! slices.Contains of numbers -/
theorem idx_ev (l : List Int) (x : Int) (hl : l.length ≤ 100000) : ∀ m i, l.length - i ≤ m → i ≤ l.length → ∃ r, Ev (fun k => slices_Index_int_int.l0 k l x (l.length : Int) (i : Int)) r ∧ (r ≥ 0 ↔ x ∈ l.drop i)
  | 0, i, hm, hi => by
    refine ⟨-1, Ev.step (fun k => ?_) (Ev.now _), ?_⟩
    · simp only [slices_Index_int_int.l0]
      rw [if_neg (by omega)]
    · rw [List.drop_eq_nil_of_le (by omega)]; simp
  | m + 1, i, hm, hi => by
    by_cases hlt : i < l.length
    · have w2 : wrap64 ((i : Int) + 1) = ((i + 1 : Nat) : Int) := by unfold wrap64; omega
      by_cases hx : x = l[i]
      · refine ⟨(i : Int), Ev.step (fun k => ?_) (Ev.now _), ?_⟩
        · simp only [slices_Index_int_int.l0]
          rw [if_pos (by omega), if_pos (by omega), if_pos (by omega), rdI l i hlt, if_pos hx]
        · rw [hx]
          exact ⟨fun _ => by rw [List.drop_eq_getElem_cons hlt]; exact List.mem_cons_self, fun _ => by omega⟩
      · obtain ⟨r, h1, h2⟩ := idx_ev l x hl m (i + 1) (by omega) (by omega)
        refine ⟨r, Ev.step (fun k => ?_) h1, ?_⟩
        · simp only [slices_Index_int_int.l0]
          rw [if_pos (by omega), if_pos (by omega), if_pos (by omega), rdI l i hlt, if_neg hx, w2]
        · rw [h2, List.drop_eq_getElem_cons hlt, List.mem_cons]
          constructor
          · exact .inr
          · rintro (h | h)
            · exact absurd h hx
            · exact h
    · refine ⟨-1, Ev.step (fun k => ?_) (Ev.now _), ?_⟩
      · simp only [slices_Index_int_int.l0]
        rw [if_neg (by omega)]
      · rw [List.drop_eq_nil_of_le (by omega)]; simp
theorem contains_ev (l : List Int) (x : Int) (hl : l.length ≤ 100000) : Ev (fun k => slices_Contains_int_int.f k l x) (decide (x ∈ l)) := by
  obtain ⟨r, h1, h2⟩ := idx_ev l x hl l.length 0 (by omega) (Nat.zero_le _)
  have h3 : Ev (fun k => slices_Index_int_int.f k l x) r := Ev.congr (fun k => rfl) h1
  refine Ev.congr (fun k => ?_) (Ev.bind h3 (f := fun _ t => some (decide (t ≥ 0))) ?_)
  · rfl
  · have : decide (r ≥ 0) = decide (x ∈ l) := by rw [decide_eq_decide, h2, List.drop_zero]
    rw [this]; exact Ev.now _

/-! sized -/
def lightB (es : List S38) : Bool := es.all fun e => !decide (1099511627776 < e.f2) && !decide (e.f2 < -1099511627776)
theorem sized_l0 (d : Bool) (zs : List Int) (es : List S38) (he : es.length ≤ 100000) : ∀ m i, es.length - i ≤ m → i ≤ es.length → Ev (fun k => laws_sized.l0 k (i : Int) d zs es) (lightB (es.drop i))
  | 0, i, hm, hi => by
    refine Ev.step (fun k => ?_) (Ev.now _)
    simp only [laws_sized.l0]
    rw [if_neg (by omega), List.drop_eq_nil_of_le (by omega)]; rfl
  | m + 1, i, hm, hi => by
    by_cases hlt : i < es.length
    · have w2 : wrap64 ((i : Int) + 1) = ((i + 1 : Nat) : Int) := by unfold wrap64; omega
      have ih := sized_l0 d zs es he m (i + 1) (by omega) (by omega)
      have hd : lightB (es.drop i) = ((!decide (1099511627776 < es[i].f2) && !decide (es[i].f2 < -1099511627776)) && lightB (es.drop (i + 1))) := by rw [List.drop_eq_getElem_cons hlt]; rfl
      rw [hd]
      have hr := rdE es i hlt
      generalize es[i] = e at hr
      by_cases g1 : 1099511627776 < e.f2
      · refine Ev.step (fun k => ?_) (Ev.now _)
        simp only [laws_sized.l0]
        rw [if_pos (by omega), if_pos (by omega), hr, if_pos g1, decide_eq_true g1]; rfl
      · by_cases g2 : e.f2 < -1099511627776
        · refine Ev.step (fun k => ?_) (Ev.now _)
          simp only [laws_sized.l0]
          rw [if_pos (by omega), if_pos (by omega), hr, if_neg g1, if_pos g2, decide_eq_true g2, decide_eq_false g1]; rfl
        · rw [decide_eq_false g1, decide_eq_false g2]
          refine Ev.step (fun k => ?_) ih
          simp only [laws_sized.l0]
          rw [if_pos (by omega), if_pos (by omega), hr, if_neg g1, if_neg g2, w2]
    · refine Ev.step (fun k => ?_) (Ev.now _)
      simp only [laws_sized.l0]
      rw [if_neg (by omega), List.drop_eq_nil_of_le (by omega)]; rfl
def sizedB (n : Nat) (zs : List Int) (es : List S38) : Bool := decide (zs.length ≤ n) && (decide (es.length ≤ 200) && lightB es)
theorem sized_ev (d : Bool) (zs : List Int) (es : List S38) (n : Nat) : Ev (fun k => laws_sized.f k d zs es (n : Int)) (sizedB n zs es) := by
  unfold laws_sized.f sizedB
  by_cases h1 : zs.length ≤ n
  · refine Ev.congr (fun k => if_neg (by omega)) ?_
    rw [decide_eq_true h1, Bool.true_and]
    by_cases h2 : es.length ≤ 200
    · rw [decide_eq_true h2, decide_eq_false (show ¬ (es.length : Int) > 200 by omega), Bool.true_and]
      refine Ev.step (fun k => ?_) (by have := sized_l0 d zs es (by omega) es.length 0 (by omega) (Nat.zero_le _); rw [List.drop_zero] at this; exact this)
      simp only [laws_sized.j0]
      rfl
    · rw [decide_eq_false h2, decide_eq_true (show (es.length : Int) > 200 by omega), Bool.false_and]
      refine Ev.step (fun k => ?_) (Ev.now _)
      simp only [laws_sized.j0]
      rfl
  · rw [decide_eq_false h1, Bool.false_and]
    refine Ev.congr (fun k => if_pos (by omega)) (Ev.step (fun k => ?_) (Ev.now _))
    simp only [laws_sized.j0]
    rfl

/-! formed -/
def edgeB (zs : List Int) (e : S38) : Bool := !decide (e.f0 = e.f1) && (decide (e.f0 ∈ zs) && decide (e.f1 ∈ zs))
theorem formed_l1 (d : Bool) (zs : List Int) (es : List S38) (hz : zs.length ≤ 100000) (he : es.length ≤ 100000) : ∀ m i, es.length - i ≤ m → i ≤ es.length → Ev (fun k => laws_formed.l1 k (i : Int) d zs es) ((es.drop i).all (edgeB zs))
  | 0, i, hm, hi => by
    refine Ev.step (fun k => ?_) (Ev.now _)
    simp only [laws_formed.l1]
    rw [if_neg (by omega), List.drop_eq_nil_of_le (by omega)]; rfl
  | m + 1, i, hm, hi => by
    by_cases hlt : i < es.length
    · have w2 : wrap64 ((i : Int) + 1) = ((i + 1 : Nat) : Int) := by unfold wrap64; omega
      have ih := formed_l1 d zs es hz he m (i + 1) (by omega) (by omega)
      rw [List.drop_eq_getElem_cons hlt, List.all_cons]
      have hr := rdE es i hlt
      generalize es[i] = e at hr
      by_cases g1 : e.f0 = e.f1
      · have h0 : edgeB zs e = false := by unfold edgeB; rw [decide_eq_true g1]; rfl
        rw [h0]
        refine Ev.step (fun k => ?_) (Ev.now _)
        simp only [laws_formed.l1]
        rw [if_pos (by omega), if_pos (by omega), hr, if_pos g1]; rfl
      · refine Ev.step (f := fun k => (slices_Contains_int_int.f k zs e.f0).bind fun t297 => (if t297 = true then ((slices_Contains_int_int.f k zs e.f1).bind fun t298 => (if t298 = true then (laws_formed.l1 k (((i + 1 : Nat) : Int)) d zs es) else (some false))) else (some false))) (fun k => ?_) ?_
        · simp only [laws_formed.l1]
          rw [if_pos (by omega), if_pos (by omega), hr, if_neg g1, w2]
        · refine Ev.bind (contains_ev zs e.f0 hz) ?_
          by_cases g2 : e.f0 ∈ zs
          · refine Ev.congr (fun k => if_pos (decide_eq_true g2)) (Ev.bind (contains_ev zs e.f1 hz) ?_)
            by_cases g3 : e.f1 ∈ zs
            · have h0 : edgeB zs e = true := by unfold edgeB; rw [decide_eq_false g1, decide_eq_true g2, decide_eq_true g3]; rfl
              rw [h0, Bool.true_and]
              exact Ev.congr (fun k => if_pos (decide_eq_true g3)) ih
            · have h0 : edgeB zs e = false := by unfold edgeB; rw [decide_eq_false g1, decide_eq_true g2, decide_eq_false g3]; rfl
              rw [h0, Bool.false_and]
              exact Ev.congr (fun k => if_neg (by simp [g3])) (Ev.now _)
          · have h0 : edgeB zs e = false := by unfold edgeB; rw [decide_eq_false g1, decide_eq_false g2]; rfl
            rw [h0, Bool.false_and]
            exact Ev.congr (fun k => if_neg (by simp [g2])) (Ev.now _)
    · refine Ev.step (fun k => ?_) (Ev.now _)
      simp only [laws_formed.l1]
      rw [if_neg (by omega), List.drop_eq_nil_of_le (by omega)]; rfl
/-- no number twice from place i on -/
def onceB (zs : List Int) : Nat → Nat → Bool
  | 0, _ => true
  | m + 1, i => !decide (zs.getD i 0 ∈ zs.take i) && onceB zs m (i + 1)
theorem onceB_iff (zs : List Int) : ∀ m i, i + m = zs.length → (zs.take i).Nodup → (onceB zs m i = true ↔ zs.Nodup)
  | 0, i, hm, hn => by
    rw [List.take_of_length_le (by omega)] at hn
    simp [onceB, hn]
  | m + 1, i, hm, hn => by
    have hlt : i < zs.length := by omega
    have hg : zs.getD i 0 = zs[i] := by rw [List.getD_eq_getElem?_getD, List.getElem?_eq_getElem hlt]; rfl
    have ht : zs.take (i + 1) = zs.take i ++ [zs[i]] := List.take_succ_eq_append_getElem hlt
    unfold onceB
    rw [hg, Bool.and_eq_true, Bool.not_eq_true', decide_eq_false_iff_not]
    constructor
    · rintro ⟨h1, h2⟩
      refine (onceB_iff zs m (i + 1) (by omega) ?_).1 h2
      rw [ht, List.nodup_append]
      exact ⟨hn, by simp, fun a ha b hb => by rw [List.mem_singleton] at hb; subst hb; exact fun e => h1 (e ▸ ha)⟩
    · intro h
      have h3 : (zs.take (i + 1)).Nodup := h.sublist (List.take_sublist _ _)
      refine ⟨fun hm' => ?_, (onceB_iff zs m (i + 1) (by omega) h3).2 h⟩
      rw [ht, List.nodup_append] at h3
      exact h3.2.2 _ hm' _ (by simp) rfl
theorem formed_l0 (d : Bool) (zs : List Int) (es : List S38) (hz : zs.length ≤ 100000) (he : es.length ≤ 100000) : ∀ m i, i + m = zs.length → Ev (fun k => laws_formed.l0 k (i : Int) d zs es) (onceB zs m i && es.all (edgeB zs))
  | 0, i, hm => by
    refine Ev.step (f := fun k => laws_formed.l1 k 0 d zs es) (fun k => ?_) ?_
    · simp only [laws_formed.l0]
      rw [if_neg (by omega)]
    · have := formed_l1 d zs es hz he es.length 0 (by omega) (Nat.zero_le _)
      rw [List.drop_zero] at this
      unfold onceB
      rw [Bool.true_and]
      exact this
  | m + 1, i, hm => by
    have hlt : i < zs.length := by omega
    have w2 : wrap64 ((i : Int) + 1) = ((i + 1 : Nat) : Int) := by unfold wrap64; omega
    have ih := formed_l0 d zs es hz he m (i + 1) (by omega)
    have hg : zs.getD i 0 = zs[i] := by rw [List.getD_eq_getElem?_getD, List.getElem?_eq_getElem hlt]; rfl
    unfold onceB
    rw [hg]
    refine Ev.step (f := fun k => (slices_Contains_int_int.f k (zs.take i) zs[i]).bind fun t294 => (if t294 = true then (some false) else (laws_formed.l0 k (((i + 1 : Nat) : Int)) d zs es))) (fun k => ?_) ?_
    · simp only [laws_formed.l0]
      rw [if_pos (by omega), if_pos (by omega), if_pos (by omega), rdI zs i hlt, w2, Int.toNat_natCast]
    · refine Ev.bind (contains_ev (zs.take i) zs[i] (by rw [List.length_take]; omega)) ?_
      by_cases g : zs[i] ∈ zs.take i
      · rw [decide_eq_true g]
        exact Ev.congr (fun k => if_pos rfl) (Ev.now _)
      · rw [decide_eq_false g, Bool.not_false, Bool.true_and]
        exact Ev.congr (fun k => if_neg (by simp)) ih
def formedB (zs : List Int) (es : List S38) : Bool := decide zs.Nodup && es.all (edgeB zs)
theorem formed_ev (d : Bool) (zs : List Int) (es : List S38) (hz : zs.length ≤ 100000) (he : es.length ≤ 100000) : Ev (fun k => laws_formed.f k d zs es) (formedB zs es) := by
  have h := formed_l0 d zs es hz he zs.length 0 (by omega)
  have h2 : onceB zs zs.length 0 = decide zs.Nodup := by
    rw [Bool.eq_iff_iff, decide_eq_true_eq]
    exact onceB_iff zs zs.length 0 (by omega) (by simp)
  rw [h2] at h
  exact h
theorem formed_read {zs : List Int} {es : List S38} (h : lightB es = true) : formedB zs es = readOk zs es := by
  rw [Bool.eq_iff_iff]
  unfold formedB readOk
  rw [Bool.and_eq_true, Bool.and_eq_true, decide_eq_true_eq, decide_eq_true_eq, List.all_eq_true, List.all_eq_true]
  unfold lightB at h
  rw [List.all_eq_true] at h
  refine and_congr ⟨srt_lt, srt_nodup⟩ (forall_congr' fun e => forall_congr' fun he => ?_)
  have h1 := h e he
  unfold edgeB goodE
  simp only [Bool.and_eq_true, Bool.not_eq_true', decide_eq_true_eq, decide_eq_false_iff_not] at h1 ⊢
  exact ⟨fun ⟨a, b, c⟩ => ⟨⟨⟨⟨b, c⟩, a⟩, h1.1⟩, h1.2⟩, fun ⟨⟨⟨⟨b, c⟩, a⟩, _⟩, _⟩ => ⟨a, b, c⟩⟩

/-! rounds enough -/
theorem dfs_some (d : Bool) (zs : List Int) (es bs : List S38) (a t : Int) (ha : a ∈ zs) (hz : zs.length ≤ 90) : ∃ r, dfsF (adjF d zs es bs) t 9000 [a] [] = some r := by
  refine dfsF_ends (adjF d zs es bs) t zs (fun u v hv => (outN_mem (List.mem_filter.1 hv).1).1) 9000 _ _ (fun x hx => by simp at hx; subst hx; exact ha) ?_
  have := lefts_bound (fun u => (adjF d zs es bs u).length) 90 (fun u => by
    unfold adjF
    exact Nat.le_trans (List.length_filter_le _ _) (Nat.le_trans (outN_len zs es u) hz)) [] zs
  simp only [List.length_singleton]
  have h2 : zs.length * 90 ≤ 90 * 90 := Nat.mul_le_mul_right _ hz
  omega

/-! walksOne -/
theorem srt12 : srt [1, 2] = [1, 2] := int_ext (srt_lt (by decide)) (by decide) (fun x => mem_srt _ _)
theorem adj12 : adjF true [1, 2] (dbl true [⟨1, 2, 1⟩]) [] 1 = [2] ∧ adjF true [1, 2] (dbl true [⟨1, 2, 1⟩]) [] 2 = [] := by
  unfold adjF outN
  rw [srt12]
  constructor <;> rfl
theorem read12 : (readOk [1, 2] [⟨1, 2, 1⟩] && decide ((1 : Int) ∈ ([1, 2] : List Int))) = true := by
  unfold readOk
  rw [srt12]
  rfl
theorem bfs12' (adj : Int → List Int) (h1 : adj 1 = [2]) (k : Nat) : bfsF adj 2 (k + 2) [1] [(1, -1)] 0 0 1 = some ([(1, 0), (2, 1)], some 2) := by
  simp [bfsF, putD, bfsIn, h1]
theorem dfs12' (adj : Int → List Int) (h1 : adj 1 = [2]) (k : Nat) : dfsF adj 2 (k + 2) [1] [] = some ([1, 2], some 2) := by
  simp [dfsF, h1]
theorem bfs12 : impl_BreadthFirst.f true [1, 2] [⟨1, 2, 1⟩] 1 2 [] = some ([⟨1, 0⟩, ⟨2, 1⟩], 2, true, false) := by
  unfold impl_BreadthFirst.f
  rw [if_pos (by decide), if_pos read12, bfs12' _ adj12.1 8998]
  rfl
theorem dfs12 : impl_DepthFirst.f true [1, 2] [⟨1, 2, 1⟩] 1 2 [] = some ([1, 2], 2, true, false) := by
  unfold impl_DepthFirst.f
  rw [if_pos (by decide), if_pos read12, dfs12' _ adj12.1 8998]
  rfl
theorem vis12 : impl_Visit.f 10 [⟨1, 0⟩, ⟨2, 1⟩] [⟨1, 0⟩, ⟨2, 1⟩] = some true := by decide +kernel
theorem equ12 : slices_Equal_int_int.f 10 [1, 2] [1, 2] = some true := by decide +kernel
theorem walksOne_ev : Ev (fun k => laws_walksOne.f k) true := by
  refine Ev.of (k := 10) laws_walksOne.mono ?_
  unfold laws_walksOne.f laws_oneEdge.f
  simp only [Option.bind_some, bfs12, dfs12, vis12, equ12]
  simp

end Go.Proofs.YtfkmpnpliadohaaGreat.R
