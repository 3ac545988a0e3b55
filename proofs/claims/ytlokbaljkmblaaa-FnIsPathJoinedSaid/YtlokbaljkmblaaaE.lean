import Derived.Test.YtlokbaljkmblaaaD
namespace Go.Proofs.Ytlokbaljkmblaaa
open Go.RowKit Go.Lab Go.Proofs.YtlokbaljkmblaaaW.PrintWords Go.Proofs.YtlokbaljkmblaaaW.PrintLast Go.Proofs.YtlokbaljkmblaaaW.PrintMore

/-- a list with the arc to 'to' laid -/
def setA (l : List (Int × Nat)) (k : Int) (x : Nat) : List (Int × Nat) :=
  if k ∈ keys l then l.set (rank (keys l) k) (k, x) else insAt l (rank (keys l) k) (k, x)

theorem fl_set (l : List (Int × Nat)) : ∀ (i : Nat) (a : Int × Nat), fl (l.set i a) = ((fl l).set (i * 2) (.int .i64 a.1)).set (i * 2 + 1) (.float .f64 a.2) := by
  induction l with
  | nil => intro i a; simp [fl_nil]
  | cons b l ih =>
    intro i a
    cases i with
    | zero => simp [fl_cons]
    | succ i => rw [List.set_cons_succ, fl_cons, fl_cons, ih, show (i + 1) * 2 = i * 2 + 1 + 1 by omega]; rfl

theorem own_set_w {w : World} {base g cap : Nat} {l : List (Int × Nat)} (h : w.ownsRow base 90 2 (.slice (some ⟨g, 0, none⟩) l.length cap) l.length (fl l)) (i : Nat) (hi : i < l.length) (x : Nat) :
    (w.setCell ⟨g, i * 2 + 1, none⟩ (.float .f64 x)).ownsRow base 90 2 (.slice (some ⟨g, 0, none⟩) l.length cap) (l.set i (l[i].1, x)).length (fl (l.set i (l[i].1, x))) := by
  rcases h.2 with ⟨hn, _⟩ | ⟨g', cap', cur, hv, hb1, hg, hc1, hc2, hcs, htk⟩
  · cases hn
  · injection hv with e1 _ e3
    injection e1 with e1
    injection e1 with e1
    subst e1 e3
    refine ⟨by rw [fl_length], .inr ⟨g, cap, cur.setIfInBounds (i * 2 + 1) (.float .f64 x), by simp, hb1, blk_set hg _ _, by simpa using hc1, hc2, by simpa using hcs, ?_⟩⟩
    rw [Array.toList_setIfInBounds, List.length_set, List.take_set, htk, fl_set]
    have : (fl l)[i * 2]? = some (.int .i64 l[i].1) := by
      have := fl_drop l i
      rw [List.drop_eq_getElem_cons hi, fl_cons] at this
      have h2 : ((fl l).drop (i * 2))[0]? = some (.int .i64 l[i].1) := by rw [this]; rfl
      rw [List.getElem?_drop] at h2
      simpa using h2
    have h3 : (fl l).set (i * 2) (.int .i64 l[i].1) = fl l := by
      apply List.ext_getElem?
      intro j
      rw [List.getElem?_set]
      split
      · rename_i e; subst e
        split
        · rw [this]
        · rename_i hh; rw [List.getElem?_eq_none (by omega)]
      · rfl
    rw [h3]

theorem grownBy_of_below {w w1 : World} (h : Below w.heap.size w w1) (row : Option Nat) : w.grownBy w1 row := grown_of_below h row

set_option maxHeartbeats 2000000 in
set_option maxRecDepth 100000 in
theorem set_has (base : Nat) (v : Value) (l : List (Int × Nat)) (k : Int) (x : Nat) (w : World) (h : w.ownsRow base 90 2 v l.length (fl l)) (hs : (keys l).Pairwise (· < ·)) (hb : l.length ≤ 1000)
    (hk0 : 0 ≤ k) (hk1 : k ≤ 1000) (hkk : ∀ a ∈ l, 0 ≤ a.1 ∧ a.1 ≤ 1000) (hmem : k ∈ keys l) :
    Calls Try.prog 25 #[v, .int .i64 k, .float .f64 x] w fun e w' => ∃ v', e = .returned v' ∧ w'.ownsRow base 90 2 v' (setA l k x).length (fl (setA l k x)) ∧ w.grownBy w' v.ownBlock ∧
      (v'.ownBlock = v.ownBlock ∨ ∃ b, v'.ownBlock = some b ∧ w.heap.size ≤ b) := by
  have HS := Aside0.mk hs
  have HC := Aside0.mk h
  have HK := Aside0.mk hkk
  have HM := Aside0.mk hmem
  obtain ⟨hr, he⟩ := (rank_mem hs k).1 hmem
  rw [keys_length] at hr
  obtain ⟨g, cap, rfl, hgw, hlc, hc1, hc2⟩ := fl_cells h (rank (keys l) k) hr
  have hke : l[rank (keys l) k].1 = k := by simpa [keys] using he
  have hfz : w.frozen? ⟨g, rank (keys l) k * 2 + 1, none⟩ = false := by
    rcases h.2 with ⟨hn, _⟩ | ⟨g', cap', cur, hv, hb1, hg, _⟩
    · cases hn
    · injection hv with e1 _ e3
      injection e1 with e1
      injection e1 with e1
      subst e1
      exact blk_frozen hg _
  have hset : setA l k x = l.set (rank (keys l) k) (l[rank (keys l) k].1, x) := by unfold setA; rw [if_pos hmem, hke]
  have HSET := Aside0.mk hset
  generalize l[rank (keys l) k].2 = y at hc2
  clear hc1 hke hset
  obtain ⟨i, hi⟩ : ∃ i, i = rank (keys l) k := ⟨_, rfl⟩
  rw [← hi] at hr hc2 hfz
  have HI := Aside0.mk hi
  have hd : decide (k ∈ keys l) = true := decide_eq_true hmem
  clear hs h hkk hmem he hi
  go_enter Try.func25, Try.ntmps25
  go_wp2_with (go_at_call 38; refine (bsf39_any base _ l k _ HC.out HS.out hb hk0 hk1 HK.out).mono ?_; rintro e w1 ⟨rfl, hbl⟩; rw [hd, ← HI.out]; rw [← hbl.cell (p := ⟨g, i * 2 + 1, none⟩) hgw] at hc2; rw [← hbl.frozen (p := ⟨g, i * 2 + 1, none⟩) hgw] at hfz; have HBL := Aside0.mk hbl; clear hbl hd)
  go_ret
  refine ⟨_, rfl, ?_, ?_, .inl rfl⟩
  · rw [HSET.out]
    have h1 := own_set_w (World.ownsRow.kept HC.out (grown_of_below HBL.out none) (.inr (by simp [Value.ownBlock]))) i hr x
    have e : l[i] = l[rank (keys l) k]'(by rw [← HI.out]; exact hr) := by simp [HI.out]
    have e2 : l.set (rank (keys l) k) ((l[rank (keys l) k]'(by rw [← HI.out]; exact hr)).1, x) = l.set i (l[i].1, x) := by rw [← e, ← HI.out]
    rw [e2]
    exact h1
  · exact (grown_of_below HBL.out _).trans ⟨rfl, rfl, rfl, by simp [World.setCell], fun k hk hne => Below.heap_setCell _ _ _ _ (fun e => hne (by simp [Value.ownBlock, e]))⟩

set_option maxHeartbeats 2000000 in
set_option maxRecDepth 100000 in
theorem set_new (base : Nat) (v : Value) (l : List (Int × Nat)) (k : Int) (x : Nat) (w : World) (h : w.ownsRow base 90 2 v l.length (fl l)) (hs : (keys l).Pairwise (· < ·)) (hb : l.length ≤ 1000)
    (hk0 : 0 ≤ k) (hk1 : k ≤ 1000) (hkk : ∀ a ∈ l, 0 ≤ a.1 ∧ a.1 ≤ 1000) (hmem : ¬ k ∈ keys l) (hbase : base ≤ w.heap.size) :
    Calls Try.prog 25 #[v, .int .i64 k, .float .f64 x] w fun e w' => ∃ v', e = .returned v' ∧ w'.ownsRow base 90 2 v' (setA l k x).length (fl (setA l k x)) ∧ w.grownBy w' v.ownBlock ∧
      (v'.ownBlock = v.ownBlock ∨ ∃ b, v'.ownBlock = some b ∧ w.heap.size ≤ b) := by
  have HS := Aside0.mk hs
  have HC := Aside0.mk h
  have HK := Aside0.mk hkk
  have hset : setA l k x = insAt l (rank (keys l) k) (k, x) := by unfold setA; rw [if_neg hmem]
  have hil : (insAt l (rank (keys l) k) (k, x)).length = l.length + 1 := by
    have := rank_le (keys l) k
    rw [keys_length] at this
    simp [insAt]; omega
  rw [hset, hil]
  have hrl := rank_le (keys l) k
  rw [keys_length] at hrl
  obtain ⟨i, hi⟩ : ∃ i, i = rank (keys l) k := ⟨_, rfl⟩
  rw [← hi] at hrl ⊢
  have HI := Aside0.mk hi
  have hd : decide (k ∈ keys l) = false := decide_eq_false hmem
  have hvw : ∀ g, v.ownBlock = some g → g < w.heap.size := fun g hg => own_lt h g hg
  have HVW := Aside0.mk hvw
  clear hs h hkk hmem hi hset hil hvw
  go_enter Try.func25, Try.ntmps25
  go_wp2_with (go_at_call 38; refine (bsf39_any base _ l k _ HC.out HS.out hb hk0 hk1 HK.out).mono ?_; rintro e w1 ⟨rfl, hbl⟩; rw [hd, ← HI.out]; have HBL := Aside0.mk hbl; clear hbl hd)
  have hsz := HBL.out.size
  refine (insert_any base v l i hrl (k, x) w1.heap.size _ ((World.ownsRow.kept HC.out (grown_of_below HBL.out none) (by cases v.ownBlock <;> simp)).alloc _) (heap_alloc_new _ _) (fun e => by have := HVW.out _ e; omega) (by simp; omega) hb).mono ?_
  rintro e w2 ⟨v', rfl, hown2, hgr2, hat⟩
  go_wp2
  go_ret
  refine ⟨v', rfl, hown2, ?_, ?_⟩
  · exact (grown_of_below HBL.out _).trans ((World.grownBy_alloc _ _ _).trans hgr2)
  · rcases hat with h | h
    · exact .inl h
    · exact .inr ⟨_, h, by simp; omega⟩

/-- impl.set: the arc to k is laid into a row of arcs. -/
theorem set_any (base : Nat) (v : Value) (l : List (Int × Nat)) (k : Int) (x : Nat) (w : World) (h : w.ownsRow base 90 2 v l.length (fl l)) (hs : (keys l).Pairwise (· < ·)) (hb : l.length ≤ 1000)
    (hk0 : 0 ≤ k) (hk1 : k ≤ 1000) (hkk : ∀ a ∈ l, 0 ≤ a.1 ∧ a.1 ≤ 1000) (hbase : base ≤ w.heap.size) :
    Calls Try.prog 25 #[v, .int .i64 k, .float .f64 x] w fun e w' => ∃ v', e = .returned v' ∧ w'.ownsRow base 90 2 v' (setA l k x).length (fl (setA l k x)) ∧ w.grownBy w' v.ownBlock ∧
      (v'.ownBlock = v.ownBlock ∨ ∃ b, v'.ownBlock = some b ∧ w.heap.size ≤ b) := by
  by_cases hm : k ∈ keys l
  · exact set_has base v l k x w h hs hb hk0 hk1 hkk hm
  · exact set_new base v l k x w h hs hb hk0 hk1 hkk hm hbase
end Go.Proofs.Ytlokbaljkmblaaa
