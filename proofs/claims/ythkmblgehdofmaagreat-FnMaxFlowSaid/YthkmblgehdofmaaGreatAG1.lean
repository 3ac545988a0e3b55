import Derived.Test.YthkmblgehdofmaaGreatAG0
import Derived.Deep.RegionHeld3
import Derived.Deep.RegionLaw
import Derived.Deep.Cut
import Derived.Shelf.Small.Bits
import Derived.Shelf.Small.Wraps
import Derived.Shelf.Strconv.Itoa0
import Derived.Shelf.Sort.Plain
import Derived.Shelf.Slices.Equal
import Derived.Ground.Names2Prog
import Derived.Shelf.Slices.Clone
import Derived.Shelf.Slices.SearchI
import Derived.Shelf.Slices.In.SortNone
import Derived.Shelf.Slices.Empties2
import Derived.Ground.SlgnProg
import Derived.Shelf.SlicesG.Clone
import Derived.Shelf.SlicesG.CompactI
import Derived.Shelf.SlicesG.SearchI
import Derived.Shelf.SlicesG.Cells
import Derived.Shelf.SlicesE.Equal
import Derived.Shelf.SlicesE.Compact
import Derived.Shelf.SlicesE.Clone
import Derived.Ground.SlgcProg
import Derived.Shelf.SlicesG.Cmp
import Derived.Ground.SlgmProg
import Derived.Shelf.SortM.Plain
import Derived.Shelf.SortM.SortNone
import Derived.Test.YthkmblgehdofmaaGreatProg
import Derived.Laws.MakeOwn
import Derived.Laws.Cover2
import Derived.BigRegion
import Derived.Maps.OwnSet
set_option linter.unusedVariables false
set_option linter.unusedSimpArgs false
namespace Go.Proofs.YthkmblgehdofmaaGreat.R
open Go.RowKit Go.Lab Go.Proofs.YthkmblgehdofmaaGreatW.PrintWords Go.Proofs.YthkmblgehdofmaaGreatW.PrintLast Go.Proofs.YthkmblgehdofmaaGreatW.PrintMore

/-- a list with the arc to 'to' laid -/
def setA (l : List (Int × Nat)) (k : Int) (x : Nat) : List (Int × Nat) :=
  if k ∈ keys l then l.set (rank (keys l) k) (k, x) else insAt l (rank (keys l) k) (k, x)

theorem fl_set (l : List (Int × Nat)) : ∀ (i : Nat) (a : Int × Nat), fl (l.set i a) = ((fl l).set (i * 2) (.int .i64 a.1)).set (i * 2 + 1) (.float .f64 a.2) := by
  induction l with
  | nil => intro i a; simp [fl_nil]
  | cons b l ih =>
    intro i a
    cases i with
    | zero => simp [fl_cons]
    | succ i => rw [List.set_cons_succ, fl_cons, fl_cons, ih, show (i + 1) * 2 = i * 2 + 1 + 1 by omega]; rfl

theorem own_set_w {w : World} {base g cap : Nat} {l : List (Int × Nat)} (h : w.ownsRow base 85 2 (.slice (some ⟨g, 0, none⟩) l.length cap) l.length (fl l)) (i : Nat) (hi : i < l.length) (x : Nat) :
    (w.setCell ⟨g, i * 2 + 1, none⟩ (.float .f64 x)).ownsRow base 85 2 (.slice (some ⟨g, 0, none⟩) l.length cap) (l.set i (l[i].1, x)).length (fl (l.set i (l[i].1, x))) := by
  rcases h.2 with ⟨hn, _⟩ | ⟨g', cap', cur, hv, hb1, hg, hc1, hc2, hcs, htk⟩
  · cases hn
  · injection hv with e1 _ e3
    injection e1 with e1
    injection e1 with e1
    subst e1 e3
    refine ⟨by rw [fl_length], .inr ⟨g, cap, cur.setIfInBounds (i * 2 + 1) (.float .f64 x), by simp, hb1, blk_set hg _ _, by simpa using hc1, hc2, by simpa using hcs, ?_⟩⟩
    rw [Array.toList_setIfInBounds, List.length_set, List.take_set, htk, fl_set]
    have : (fl l)[i * 2]? = some (.int .i64 l[i].1) := by
      have := fl_drop l i
      rw [List.drop_eq_getElem_cons hi, fl_cons] at this
      have h2 : ((fl l).drop (i * 2))[0]? = some (.int .i64 l[i].1) := by rw [this]; rfl
      rw [List.getElem?_drop] at h2
      simpa using h2
    have h3 : (fl l).set (i * 2) (.int .i64 l[i].1) = fl l := by
      apply List.ext_getElem?
      intro j
      rw [List.getElem?_set]
      split
      · rename_i e; subst e
        split
        · rw [this]
        · rename_i hh; rw [List.getElem?_eq_none (by omega)]
      · rfl
    rw [h3]

set_option maxHeartbeats 2000000 in
set_option maxRecDepth 100000 in
theorem set_has (base : Nat) (v : Value) (l : List (Int × Nat)) (k : Int) (x : Nat) (w : World) (h : w.ownsRow base 85 2 v l.length (fl l)) (hs : (keys l).Pairwise (· < ·)) (hb : l.length ≤ 1000)
    (hk0 : 0 ≤ k) (hk1 : k ≤ 1000) (hkk : ∀ a ∈ l, 0 ≤ a.1 ∧ a.1 ≤ 1000) (hmem : k ∈ keys l) :
    Calls Tryz.prog 106 #[v, .int .i64 k, .float .f64 x] w fun e w' => ∃ v', e = .returned v' ∧ w'.ownsRow base 85 2 v' (setA l k x).length (fl (setA l k x)) ∧ w.grownBy w' v.ownBlock ∧
      (v'.ownBlock = v.ownBlock ∨ ∃ b, v'.ownBlock = some b ∧ w.heap.size ≤ b) := by
  have HS := Aside0.mk hs
  have HC := Aside0.mk h
  have HK := Aside0.mk hkk
  have HM := Aside0.mk hmem
  obtain ⟨hr, he⟩ := (rank_mem hs k).1 hmem
  rw [keys_length] at hr
  obtain ⟨g, cap, rfl, hgw, hlc, hc1, hc2⟩ := fl_cells h (rank (keys l) k) hr
  have hke : l[rank (keys l) k].1 = k := by simpa [keys] using he
  have hfz : w.frozen? ⟨g, rank (keys l) k * 2 + 1, none⟩ = false := by
    rcases h.2 with ⟨hn, _⟩ | ⟨g', cap', cur, hv, hb1, hg, _⟩
    · cases hn
    · injection hv with e1 _ e3
      injection e1 with e1
      injection e1 with e1
      subst e1
      exact blk_frozen hg _
  have hset : setA l k x = l.set (rank (keys l) k) (l[rank (keys l) k].1, x) := by unfold setA; rw [if_pos hmem, hke]
  have HSET := Aside0.mk hset
  generalize l[rank (keys l) k].2 = y at hc2
  clear hc1 hke hset
  obtain ⟨i, hi⟩ : ∃ i, i = rank (keys l) k := ⟨_, rfl⟩
  rw [← hi] at hr hc2 hfz
  have HI := Aside0.mk hi
  have hd : decide (k ∈ keys l) = true := decide_eq_true hmem
  clear hs h hkk hmem he hi
  go_enter Tryz.func106, Tryz.ntmps106
  go_wp2_with (go_at_call 119; refine (bsf39_any base _ l k _ HC.out HS.out hb hk0 hk1 HK.out).mono ?_; rintro e w1 ⟨rfl, hbl⟩; rw [hd, ← HI.out]; rw [← hbl.cell (p := ⟨g, i * 2 + 1, none⟩) hgw] at hc2; rw [← hbl.frozen (p := ⟨g, i * 2 + 1, none⟩) hgw] at hfz; have HBL := Aside0.mk hbl; clear hbl hd)
  go_ret
  refine ⟨_, rfl, ?_, ?_, .inl rfl⟩
  · rw [HSET.out]
    have h1 := own_set_w (World.ownsRow.kept HC.out (grown_of_below HBL.out none) (.inr (by simp [Value.ownBlock]))) i hr x
    have e : l[i] = l[rank (keys l) k]'(by rw [← HI.out]; exact hr) := by simp [HI.out]
    have e2 : l.set (rank (keys l) k) ((l[rank (keys l) k]'(by rw [← HI.out]; exact hr)).1, x) = l.set i (l[i].1, x) := by rw [← e, ← HI.out]
    rw [e2]
    exact h1
  · exact (grown_of_below HBL.out _).trans ⟨rfl, rfl, rfl, by simp [World.setCell], fun k hk hne => Below.heap_setCell _ _ _ _ (fun e => hne (by simp [Value.ownBlock, e]))⟩

set_option maxHeartbeats 2000000 in
set_option maxRecDepth 100000 in
theorem set_new (base : Nat) (v : Value) (l : List (Int × Nat)) (k : Int) (x : Nat) (w : World) (h : w.ownsRow base 85 2 v l.length (fl l)) (hs : (keys l).Pairwise (· < ·)) (hb : l.length ≤ 1000)
    (hk0 : 0 ≤ k) (hk1 : k ≤ 1000) (hkk : ∀ a ∈ l, 0 ≤ a.1 ∧ a.1 ≤ 1000) (hmem : ¬ k ∈ keys l) (hbase : base ≤ w.heap.size) :
    Calls Tryz.prog 106 #[v, .int .i64 k, .float .f64 x] w fun e w' => ∃ v', e = .returned v' ∧ w'.ownsRow base 85 2 v' (setA l k x).length (fl (setA l k x)) ∧ w.grownBy w' v.ownBlock ∧
      (v'.ownBlock = v.ownBlock ∨ ∃ b, v'.ownBlock = some b ∧ w.heap.size ≤ b) := by
  have HS := Aside0.mk hs
  have HC := Aside0.mk h
  have HK := Aside0.mk hkk
  have hset : setA l k x = insAt l (rank (keys l) k) (k, x) := by unfold setA; rw [if_neg hmem]
  have hil : (insAt l (rank (keys l) k) (k, x)).length = l.length + 1 := by
    have := rank_le (keys l) k
    rw [keys_length] at this
    simp [insAt]; omega
  rw [hset, hil]
  have hrl := rank_le (keys l) k
  rw [keys_length] at hrl
  obtain ⟨i, hi⟩ : ∃ i, i = rank (keys l) k := ⟨_, rfl⟩
  rw [← hi] at hrl ⊢
  have HI := Aside0.mk hi
  have hd : decide (k ∈ keys l) = false := decide_eq_false hmem
  have hvw : ∀ g, v.ownBlock = some g → g < w.heap.size := fun g hg => own_lt h g hg
  have HVW := Aside0.mk hvw
  clear hs h hkk hmem hi hset hil hvw
  go_enter Tryz.func106, Tryz.ntmps106
  go_wp2_with (go_at_call 119; refine (bsf39_any base _ l k _ HC.out HS.out hb hk0 hk1 HK.out).mono ?_; rintro e w1 ⟨rfl, hbl⟩; rw [hd, ← HI.out]; have HBL := Aside0.mk hbl; clear hbl hd)
  have hsz := HBL.out.size
  refine (insert_any base v l i hrl (k, x) w1.heap.size _ ((World.ownsRow.kept HC.out (grown_of_below HBL.out none) (by cases v.ownBlock <;> simp)).alloc _) (heap_alloc_new _ _) (fun e => by have := HVW.out _ e; omega) (by simp; omega) hb).mono ?_
  rintro e w2 ⟨v', rfl, hown2, hgr2, hat⟩
  go_wp2
  go_ret
  refine ⟨v', rfl, hown2, ?_, ?_⟩
  · exact (grown_of_below HBL.out _).trans ((World.grownBy_alloc _ _ _).trans hgr2)
  · rcases hat with h | h
    · exact .inl h
    · exact .inr ⟨_, h, by simp; omega⟩

/-- impl.set: the arc to k is laid into a row of arcs. -/
theorem set_any (base : Nat) (v : Value) (l : List (Int × Nat)) (k : Int) (x : Nat) (w : World) (h : w.ownsRow base 85 2 v l.length (fl l)) (hs : (keys l).Pairwise (· < ·)) (hb : l.length ≤ 1000)
    (hk0 : 0 ≤ k) (hk1 : k ≤ 1000) (hkk : ∀ a ∈ l, 0 ≤ a.1 ∧ a.1 ≤ 1000) (hbase : base ≤ w.heap.size) :
    Calls Tryz.prog 106 #[v, .int .i64 k, .float .f64 x] w fun e w' => ∃ v', e = .returned v' ∧ w'.ownsRow base 85 2 v' (setA l k x).length (fl (setA l k x)) ∧ w.grownBy w' v.ownBlock ∧
      (v'.ownBlock = v.ownBlock ∨ ∃ b, v'.ownBlock = some b ∧ w.heap.size ≤ b) := by
  by_cases hm : k ∈ keys l
  · exact set_has base v l k x w h hs hb hk0 hk1 hkk hm
  · exact set_new base v l k x w h hs hb hk0 hk1 hkk hm hbase
end Go.Proofs.YthkmblgehdofmaaGreat.R


namespace Go.Proofs.YthkmblgehdofmaaGreat.R
open Go.RowKit Go.Lab Go.Proofs.YthkmblgehdofmaaGreatW.PrintWords Go.Proofs.YthkmblgehdofmaaGreatW.PrintLast Go.Proofs.YthkmblgehdofmaaGreatW.PrintMore

/-- a plain graph: ids, and for each the arcs from it and to it -/
structure Pl where
  ids : List Int
  out : List (List (Int × Nat))
  inn : List (List (Int × Nat))

/-- they lie in no block in common -/
def ApartS (a b : Value) : Prop := ∀ k, a.ownBlock = some k → b.ownBlock ≠ some k
theorem ApartS.symm {a b : Value} (h : ApartS a b) : ApartS b a := fun k hb ha => h k ha hb

/-- two tables of rows of arcs, no two rows in one block -/
structure Rows2 (w : World) (base : Nat) (A B : List (List (Int × Nat))) (ra rb : List Value) (va vb : Value) : Prop where
  a : w.ownsRow base 83 1 va ra.length ra
  b : w.ownsRow base 83 1 vb rb.length rb
  la : ra.length = A.length
  lb : rb.length = B.length
  rowA : ∀ i (h : i < ra.length), w.ownsRow base 85 2 ra[i] (A.getD i []).length (fl (A.getD i []))
  rowB : ∀ i (h : i < rb.length), w.ownsRow base 85 2 rb[i] (B.getD i []).length (fl (B.getD i []))
  sepT : ApartS va vb
  sepA : ∀ i j (h : i < ra.length) (h' : j < ra.length), i ≠ j → ApartS ra[i] ra[j]
  sepB : ∀ i j (h : i < rb.length) (h' : j < rb.length), i ≠ j → ApartS rb[i] rb[j]
  sepAB : ∀ i j (h : i < ra.length) (h' : j < rb.length), ApartS ra[i] rb[j]

theorem Rows2.symm {w : World} {base : Nat} {A B : List (List (Int × Nat))} {ra rb : List Value} {va vb : Value} (h : Rows2 w base A B ra rb va vb) : Rows2 w base B A rb ra vb va :=
  ⟨h.b, h.a, h.lb, h.la, h.rowB, h.rowA, h.sepT.symm, h.sepB, h.sepA, fun i j hi hj => (h.sepAB j i hj hi).symm⟩

structure PlAt (w : World) (base bp : Nat) (p : Pl) (ro ri : List Value) (vi vo vn : Value) : Prop where
  blk : w.heap[bp]? = some (.cells #[vi, vo, vn] 66 (0, 0))
  hb : base ≤ bp
  ids : w.ownsRow base 2 1 vi p.ids.length (nums .i64 p.ids)
  rows : Rows2 w base p.out p.inn ro ri vo vn
  po : p.out.length = p.ids.length
  pi : p.inn.length = p.ids.length

theorem own_of_heap {w w1 : World} {base : Nat} {e : TypeId} {size n : Nat} {v : Value} {xs : List Value} (h : w.ownsRow base e size v n xs) (hk : ∀ k, v.ownBlock = some k → w1.heap[k]? = w.heap[k]?) : w1.ownsRow base e size v n xs := own_move h hk

/-- a row of one-cell elements, one element stored -/
theorem own_put {w : World} {base g cap n : Nat} {e : TypeId} {xs : List Value} (h : w.ownsRow base e 1 (.slice (some ⟨g, 0, none⟩) n cap) n xs) (i : Nat) (v : Value) :
    (w.setCell ⟨g, i, none⟩ v).ownsRow base e 1 (.slice (some ⟨g, 0, none⟩) n cap) n (xs.set i v) := by
  rcases h.2 with ⟨hn, _⟩ | ⟨g', cap', cur, hv, hb1, hg, hc1, hc2, hcs, htk⟩
  · cases hn
  · injection hv with e1 _ e3
    injection e1 with e1
    injection e1 with e1
    subst e1 e3
    refine ⟨by simpa using h.1, .inr ⟨g, cap, cur.setIfInBounds i v, rfl, hb1, blk_set hg _ _, hc1, hc2, by simpa using hcs, ?_⟩⟩
    rw [Array.toList_setIfInBounds, List.take_set, htk]

theorem own_block {w : World} {base : Nat} {e : TypeId} {size n : Nat} {v : Value} {xs : List Value} (h : w.ownsRow base e size v n xs) {k : Nat} (hk : v.ownBlock = some k) : ∃ cells, w.heap[k]? = some (.cells cells e (0, 0)) := own_typed h k hk

theorem blk_type {w : World} {k : Nat} {c c' : Array Value} {e e' : TypeId} (h : w.heap[k]? = some (.cells c e (0,0))) (h' : w.heap[k]? = some (.cells c' e' (0,0))) : e = e' := by
  rw [h] at h'
  injection h' with h'
  injection h' with _ h'

/-- what stays when row i of a table is written anew and its header stored -/
theorem put_keep {w w1 : World} {base : Nat} {A B : List (List (Int × Nat))} {ra rb : List Value} {vb : Value} {g cap : Nat} (h : Rows2 w base A B ra rb (.slice (some ⟨g, 0, none⟩) ra.length cap) vb) (i : Nat) (hi : i < ra.length)
    (v' : Value) (hg : w.grownBy w1 ra[i].ownBlock) {k : Nat} {c : Array Value} {e : TypeId} (hk : w.heap[k]? = some (.cells c e (0,0))) (he : e ≠ 85) (he2 : e ≠ 83) : (w1.setCell ⟨g, i, none⟩ v').heap[k]? = w.heap[k]? := by
  obtain ⟨cg, hcg⟩ := own_block h.a (k := g) rfl
  rw [Below.heap_setCell _ _ _ _ (by rintro rfl; exact he2 (blk_type hk hcg))]
  refine hg.block _ (blk_lt hk) (fun hc => ?_)
  obtain ⟨c', hc'⟩ := own_block (h.rowA i hi) hc.symm
  exact he (blk_type hk hc')

theorem Rows2.put {w w1 : World} {base : Nat} {A B : List (List (Int × Nat))} {ra rb : List Value} {vb : Value} {g cap : Nat} (h : Rows2 w base A B ra rb (.slice (some ⟨g, 0, none⟩) ra.length cap) vb) (i : Nat) (hi : i < ra.length)
    (v' : Value) (l' : List (Int × Nat)) (hg : w.grownBy w1 ra[i].ownBlock) (hown : w1.ownsRow base 85 2 v' l'.length (fl l')) (hat : v'.ownBlock = ra[i].ownBlock ∨ ∃ b, v'.ownBlock = some b ∧ w.heap.size ≤ b) :
    Rows2 (w1.setCell ⟨g, i, none⟩ v') base (A.set i l') B (ra.set i v') rb (.slice (some ⟨g, 0, none⟩) (ra.set i v').length cap) vb := by
  obtain ⟨cg, hcg⟩ := own_block h.a (k := g) rfl
  have keep1 : ∀ {k : Nat} {c : Array Value} {e : TypeId}, w.heap[k]? = some (.cells c e (0,0)) → e ≠ 85 → w1.heap[k]? = w.heap[k]? := fun {k c e} hk he => hg.block _ (blk_lt hk) (fun hc => by
    obtain ⟨c', hc'⟩ := own_block (h.rowA i hi) hc.symm
    exact he (blk_type hk hc'))
  have keepR : ∀ {b : Value} {n : Nat} {xs : List Value}, w.ownsRow base 85 2 b n xs → ApartS b ra[i] → (w1.setCell ⟨g, i, none⟩ v').ownsRow base 85 2 b n xs := by
    intro b n xs hb ha
    refine own_of_heap hb (fun k hk => ?_)
    obtain ⟨c, hc⟩ := own_block hb hk
    rw [Below.heap_setCell _ _ _ _ (by rintro rfl; exact absurd (blk_type hc hcg) (by decide))]
    exact hg.block _ (blk_lt hc) (fun e => ha k hk e.symm)
  have hlen : (ra.set i v').length = ra.length := by simp
  have hnew : ∀ {b : Value} {n : Nat} {xs : List Value}, w.ownsRow base 85 2 b n xs → ApartS b ra[i] → ApartS b v' := by
    intro b n xs hb ha k hk e
    rcases hat with h2 | ⟨c, h2, h3⟩
    · exact ha k hk (by rw [← h2, e])
    · have := own_lt hb k hk
      rw [h2] at e
      injection e with e
      omega
  have hT : ∀ k, vb.ownBlock = some k → k ≠ g := by
    rintro k hk rfl
    exact h.sepT k rfl hk
  refine ⟨?_, own_of_heap h.b (fun k hk => ?_), by simpa using h.la, h.lb, ?_, ?_, ?_, ?_, h.sepB, ?_⟩
  · rw [hlen]
    refine own_put (own_of_heap h.a (fun k hk => ?_)) i v'
    obtain ⟨c, hc⟩ := own_block h.a hk; exact keep1 hc (by decide)
  · obtain ⟨c, hc⟩ := own_block h.b hk
    rw [Below.heap_setCell _ _ _ _ (hT k hk)]
    exact keep1 hc (by decide)
  · intro j hj
    rw [hlen] at hj
    rw [List.getD_eq_getElem?_getD, List.getElem?_set]
    by_cases hji : j = i
    · subst hji
      have : j < A.length := by rw [← h.la]; exact hi
      rw [if_pos rfl, if_pos this]
      simp only [List.getElem_set_self, Option.getD_some]
      refine own_of_heap hown (fun k hk => ?_)
      obtain ⟨c, hc⟩ := own_block hown hk
      have hg1 : w1.heap[g]? = some (.cells cg 83 (0,0)) := (keep1 hcg (by decide)).trans hcg
      rw [Below.heap_setCell _ _ _ _ (by rintro rfl; exact absurd (blk_type hc hg1) (by decide))]
    · rw [if_neg (Ne.symm hji), List.getElem_set_ne (Ne.symm hji), ← List.getD_eq_getElem?_getD]
      exact keepR (h.rowA j hj) (h.sepA j i hj hi hji)
  · intro j hj
    exact keepR (h.rowB j hj) (h.sepAB i j hi hj).symm
  · intro k hk e
    exact h.sepT k (by simpa [Value.ownBlock] using hk) e
  · intro j j' hj hj' hne
    rw [hlen] at hj hj'
    rw [List.getElem_set, List.getElem_set]
    by_cases h1 : i = j
    · rw [if_pos h1, if_neg (by omega)]
      exact (hnew (h.rowA j' hj') (h.sepA j' i hj' hi (by omega))).symm
    · rw [if_neg h1]
      by_cases h2 : i = j'
      · rw [if_pos h2]; exact hnew (h.rowA j hj) (h.sepA j i hj hi (by omega))
      · rw [if_neg h2]; exact h.sepA j j' hj hj' hne
  · intro j j' hj hj'
    rw [hlen] at hj
    rw [List.getElem_set]
    by_cases h1 : i = j
    · rw [if_pos h1]; exact (hnew (h.rowB j' hj') (h.sepAB i j' hi hj').symm).symm
    · rw [if_neg h1]; exact h.sepAB j j' hj hj'

theorem PlAt.put_out {w w1 : World} {base bp : Nat} {p : Pl} {ro ri : List Value} {vi vn : Value} {g cap : Nat} (h : PlAt w base bp p ro ri vi (.slice (some ⟨g, 0, none⟩) ro.length cap) vn) (i : Nat) (hi : i < ro.length)
    (v' : Value) (l' : List (Int × Nat)) (hg : w.grownBy w1 ro[i].ownBlock) (hown : w1.ownsRow base 85 2 v' l'.length (fl l')) (hat : v'.ownBlock = ro[i].ownBlock ∨ ∃ b, v'.ownBlock = some b ∧ w.heap.size ≤ b) :
    PlAt (w1.setCell ⟨g, i, none⟩ v') base bp { p with out := p.out.set i l' } (ro.set i v') ri vi (.slice (some ⟨g, 0, none⟩) (ro.set i v').length cap) vn := by
  refine ⟨?_, h.hb, own_of_heap h.ids (fun k hk => ?_), h.rows.put i hi v' l' hg hown hat, by simpa using h.po, h.pi⟩
  · rw [put_keep h.rows i hi v' hg h.blk (by decide) (by decide), List.length_set]; exact h.blk
  · obtain ⟨c, hc⟩ := own_block h.ids hk; exact put_keep h.rows i hi v' hg hc (by decide) (by decide)

theorem PlAt.put_inn {w w1 : World} {base bp : Nat} {p : Pl} {ro ri : List Value} {vi vo : Value} {g cap : Nat} (h : PlAt w base bp p ro ri vi vo (.slice (some ⟨g, 0, none⟩) ri.length cap)) (i : Nat) (hi : i < ri.length)
    (v' : Value) (l' : List (Int × Nat)) (hg : w.grownBy w1 ri[i].ownBlock) (hown : w1.ownsRow base 85 2 v' l'.length (fl l')) (hat : v'.ownBlock = ri[i].ownBlock ∨ ∃ b, v'.ownBlock = some b ∧ w.heap.size ≤ b) :
    PlAt (w1.setCell ⟨g, i, none⟩ v') base bp { p with inn := p.inn.set i l' } ro (ri.set i v') vi vo (.slice (some ⟨g, 0, none⟩) (ri.set i v').length cap) := by
  refine ⟨?_, h.hb, own_of_heap h.ids (fun k hk => ?_), (h.rows.symm.put i hi v' l' hg hown hat).symm, h.po, by simpa using h.pi⟩
  · rw [put_keep h.rows.symm i hi v' hg h.blk (by decide) (by decide), List.length_set]; exact h.blk
  · obtain ⟨c, hc⟩ := own_block h.ids hk; exact put_keep h.rows.symm i hi v' hg hc (by decide) (by decide)
end Go.Proofs.YthkmblgehdofmaaGreat.R


namespace Go.Proofs.YthkmblgehdofmaaGreat.R
open Go.RowKit Go.Lab Go.Proofs.YthkmblgehdofmaaGreatW.PrintWords Go.Proofs.YthkmblgehdofmaaGreatW.PrintLast Go.Proofs.YthkmblgehdofmaaGreatW.PrintMore

/-- a row of arcs: ascending, to places below n -/
def GoodRow (n : Nat) (l : List (Int × Nat)) : Prop := (keys l).Pairwise (· < ·) ∧ ∀ a ∈ l, 0 ≤ a.1 ∧ a.1 < n

theorem pairwise_len : ∀ (l : List Int) (lo hi : Int), l.Pairwise (· < ·) → (∀ x ∈ l, lo ≤ x ∧ x < hi) → lo ≤ hi → (l.length : Int) ≤ hi - lo
  | [], lo, hi, _, _, h => by simp; omega
  | x :: r, lo, hi, hp, hb, h => by
    rw [List.pairwise_cons] at hp
    have hx := hb x (by simp)
    have := pairwise_len r (x + 1) hi hp.2 (fun y hy => ⟨by have := hp.1 y hy; omega, (hb y (by simp [hy])).2⟩) (by omega)
    simp only [List.length_cons]
    omega

theorem GoodRow.len {n : Nat} {l : List (Int × Nat)} (h : GoodRow n l) : l.length ≤ n := by
  have := pairwise_len (keys l) 0 n h.1 (fun x hx => by
    obtain ⟨a, ha, rfl⟩ := List.mem_map.1 hx
    exact h.2 a ha) (by omega)
  rw [keys_length] at this
  omega

theorem keys_insAt (l : List (Int × Nat)) (i : Nat) (a : Int × Nat) : keys (insAt l i a) = (keys l).take i ++ a.1 :: (keys l).drop i := by
  simp [keys, insAt, List.map_take, List.map_drop]

theorem insert_sorted {l : List Int} (h : l.Pairwise (· < ·)) (k : Int) (hk : ¬ k ∈ l) : (l.take (rank l k) ++ k :: l.drop (rank l k)).Pairwise (· < ·) := by
  rw [List.pairwise_append]
  have hr := rank_le l k
  refine ⟨h.take, ?_, ?_⟩
  · rw [List.pairwise_cons]
    refine ⟨fun y hy => ?_, h.drop⟩
    obtain ⟨j, hj, rfl⟩ := List.getElem_of_mem hy
    rw [List.getElem_drop]
    rw [List.length_drop] at hj
    have hj' : rank l k + j < l.length := by omega
    have h1 := rank_lt h k (rank l k + j) hj'
    have h2 : ¬ l[rank l k + j] < k := by rw [h1]; omega
    have h3 : l[rank l k + j] ≠ k := fun e => hk (by rw [← e]; exact List.getElem_mem _)
    omega
  · intro x hx y hy
    obtain ⟨j, hj, rfl⟩ := List.getElem_of_mem hx
    rw [List.getElem_take]
    rw [List.length_take] at hj
    have hj' : j < l.length := by omega
    have h1 := (rank_lt h k j hj').2 (by omega)
    rcases List.mem_cons.1 hy with rfl | hy
    · exact h1
    · obtain ⟨m, hm, rfl⟩ := List.getElem_of_mem hy
      rw [List.getElem_drop]
      rw [List.length_drop] at hm
      exact (List.pairwise_iff_getElem.1 h) j (rank l k + m) hj' (by omega) (by omega)

theorem GoodRow.setA {n : Nat} {l : List (Int × Nat)} (h : GoodRow n l) (k : Nat) (hk : k < n) (x : Nat) : GoodRow n (setA l k x) := by
  unfold R.setA
  by_cases hm : (k : Int) ∈ keys l
  · rw [if_pos hm]
    obtain ⟨hr, he⟩ := (rank_mem h.1 _).1 hm
    have hkeys : keys (l.set (rank (keys l) k) ((k : Int), x)) = keys l := by
      unfold keys
      rw [List.map_set]
      apply List.ext_getElem?
      intro j
      rw [List.getElem?_set]
      split
      · rename_i e; subst e
        split
        · have h2 : (keys l)[rank (keys l) k]? = some (k : Int) := by rw [List.getElem?_eq_getElem hr, he]
          exact h2.symm
        · rename_i hh; rw [List.getElem?_eq_none (by omega)]
      · rfl
    refine ⟨by rw [hkeys]; exact h.1, fun a ha => ?_⟩
    rcases List.mem_or_eq_of_mem_set ha with ha | rfl
    · exact h.2 a ha
    · simp; omega
  · rw [if_neg hm]
    refine ⟨by rw [keys_insAt]; exact insert_sorted h.1 _ hm, fun a ha => ?_⟩
    unfold insAt at ha
    rw [List.mem_append, List.mem_cons] at ha
    rcases ha with ha | rfl | ha
    · exact h.2 a (List.mem_of_mem_take ha)
    · simp; omega
    · exact h.2 a (List.mem_of_mem_drop ha)

/-- every row is good -/
structure Pl.Good (p : Pl) : Prop where
  n : p.ids.length ≤ 1000
  out : ∀ i, GoodRow p.ids.length (p.out.getD i [])
  inn : ∀ i, GoodRow p.ids.length (p.inn.getD i [])

def Pl.outs (p : Pl) (i k : Nat) (x : Nat) : Pl := { p with out := p.out.set i (setA (p.out.getD i []) k x) }
def Pl.inns (p : Pl) (i k : Nat) (x : Nat) : Pl := { p with inn := p.inn.set i (setA (p.inn.getD i []) k x) }
def Pl.lay (p : Pl) (i k : Nat) (x : Nat) (d : Bool) : Pl := if d then (p.outs i k x).inns k i x else (((p.outs i k x).inns k i x).outs k i x).inns i k x

theorem getD_set_row {n : Nat} {L : List (List (Int × Nat))} (h : ∀ i, GoodRow n (L.getD i [])) (i : Nat) (r : List (Int × Nat)) (hr : GoodRow n r) : ∀ j, GoodRow n ((L.set i r).getD j []) := by
  intro j
  rw [List.getD_eq_getElem?_getD, List.getElem?_set]
  split
  · split
    · exact hr
    · exact ⟨List.Pairwise.nil, by simp⟩
  · rw [← List.getD_eq_getElem?_getD]; exact h j

theorem Pl.Good.outs {p : Pl} (h : p.Good) (i k x : Nat) (hk : k < p.ids.length) : (p.outs i k x).Good := ⟨h.n, getD_set_row h.out i _ ((h.out i).setA k hk x), h.inn⟩
theorem Pl.Good.inns {p : Pl} (h : p.Good) (i k x : Nat) (hk : k < p.ids.length) : (p.inns i k x).Good := ⟨h.n, h.out, getD_set_row h.inn i _ ((h.inn i).setA k hk x)⟩
theorem Pl.Good.lay {p : Pl} (h : p.Good) (i k x : Nat) (d : Bool) (hi : i < p.ids.length) (hk : k < p.ids.length) : (p.lay i k x d).Good := by
  unfold Pl.lay
  split
  · exact (h.outs i k x hk).inns k i x hi
  · exact (((h.outs i k x hk).inns k i x hi).outs k i x hi).inns i k x hk

def PlOk (w : World) (base bp : Nat) (p : Pl) : Prop := ∃ ro ri vi vo vn, PlAt w base bp p ro ri vi vo vn

/-- what a row update reads -/
theorem PlOk.open_out {w : World} {base bp : Nat} {p : Pl} (h : PlOk w base bp p) (i : Nat) (hi : i < p.ids.length) :
    ∃ ro ri vi vn g cap, ∃ hi' : i < ro.length, PlAt w base bp p ro ri vi (.slice (some ⟨g, 0, none⟩) ro.length cap) vn ∧ w.cell? ⟨bp, 1, none⟩ = some (.slice (some ⟨g, 0, none⟩) ro.length cap) ∧ w.cell? ⟨g, i, none⟩ = some ro[i] ∧ w.frozen? ⟨g, i, none⟩ = false ∧
      bp < w.heap.size ∧ g < w.heap.size ∧ base ≤ g ∧ ro.length = p.ids.length := by
  obtain ⟨ro, ri, vi, vo, vn, hp⟩ := h
  have hi' : i < ro.length := by rw [hp.rows.la, hp.po]; exact hi
  rcases hp.rows.a.2 with ⟨rfl, h0⟩ | ⟨g, cap, cur, rfl, hb1, hg, hc1, hc2, hcs, htk⟩
  · omega
  · refine ⟨ro, ri, vi, vn, g, cap, hi', hp, ?_, ?_, blk_frozen hg _, blk_lt hp.blk, blk_lt hg, hb1, by rw [hp.rows.la, hp.po]⟩
    · rw [blk_cell hp.blk]; rfl
    · rw [blk_cell hg]
      have : (cur.toList.take (ro.length * 1))[i]? = some ro[i] := by rw [htk]; exact List.getElem?_eq_getElem hi'
      rw [List.getElem?_take] at this
      split at this
      · simpa using this
      · cases this

theorem PlOk.open_inn {w : World} {base bp : Nat} {p : Pl} (h : PlOk w base bp p) (i : Nat) (hi : i < p.ids.length) :
    ∃ ro ri vi vo g cap, ∃ hi' : i < ri.length, PlAt w base bp p ro ri vi vo (.slice (some ⟨g, 0, none⟩) ri.length cap) ∧ w.cell? ⟨bp, 2, none⟩ = some (.slice (some ⟨g, 0, none⟩) ri.length cap) ∧ w.cell? ⟨g, i, none⟩ = some ri[i] ∧ w.frozen? ⟨g, i, none⟩ = false ∧
      bp < w.heap.size ∧ g < w.heap.size ∧ base ≤ g ∧ ri.length = p.ids.length := by
  obtain ⟨ro, ri, vi, vo, vn, hp⟩ := h
  have hi' : i < ri.length := by rw [hp.rows.lb, hp.pi]; exact hi
  rcases hp.rows.b.2 with ⟨rfl, h0⟩ | ⟨g, cap, cur, rfl, hb1, hg, hc1, hc2, hcs, htk⟩
  · omega
  · refine ⟨ro, ri, vi, vo, g, cap, hi', hp, ?_, ?_, blk_frozen hg _, blk_lt hp.blk, blk_lt hg, hb1, by rw [hp.rows.lb, hp.pi]⟩
    · rw [blk_cell hp.blk]; rfl
    · rw [blk_cell hg]
      have : (cur.toList.take (ri.length * 1))[i]? = some ri[i] := by rw [htk]; exact List.getElem?_eq_getElem hi'
      rw [List.getElem?_take] at this
      split at this
      · simpa using this
      · cases this
end Go.Proofs.YthkmblgehdofmaaGreat.R


namespace Go.Proofs.YthkmblgehdofmaaGreat.R
open Go.RowKit Go.Lab Go.Proofs.YthkmblgehdofmaaGreatW.PrintWords Go.Proofs.YthkmblgehdofmaaGreatW.PrintLast Go.Proofs.YthkmblgehdofmaaGreatW.PrintMore

/-- blocks of other types than arcs and rows are as they were -/
def KeepT (w w' : World) : Prop := ∀ (k : Nat) (c : Array Value) (e : TypeId), w.heap[k]? = some (Obj.cells c e (0, 0)) → e ≠ 85 → e ≠ 83 → w'.heap[k]? = w.heap[k]?
theorem KeepT.refl (w : World) : KeepT w w := fun _ _ _ _ _ _ => rfl
theorem KeepT.trans {a b c : World} (h : KeepT a b) (h' : KeepT b c) : KeepT a c := fun k x e hk h1 h2 => (h' k x e ((h k x e hk h1 h2).trans hk) h1 h2).trans (h k x e hk h1 h2)

/-- the bounds of a good row, as set asks for them -/
theorem GoodRow.bounds {n : Nat} {l : List (Int × Nat)} (h : GoodRow n l) (hn : n ≤ 1000) : ∀ a ∈ l, 0 ≤ a.1 ∧ a.1 ≤ 1000 := fun a ha => by have := h.2 a ha; omega

set_option maxHeartbeats 8000000 in
set_option maxRecDepth 100000 in
theorem lay_true (base bp : Nat) (p : Pl) (i k x : Nat) (w : World) (h : PlOk w base bp p) (hg : p.Good) (hi : i < p.ids.length) (hk : k < p.ids.length) (hbase : base ≤ w.heap.size) :
    Calls Tryz.prog 90 #[.pointer (some ⟨bp, 0, none⟩), .int .i64 i, .int .i64 k, .float .f64 x, .bool true] w fun e w' => e = .returned (.tuple #[]) ∧ PlOk w' base bp (p.lay i k x true) ∧ Below base w w' ∧ KeepT w w' := by
  have HG := Aside0.mk hg
  have hn := hg.n
  have HP := Aside0.mk h
  have HB := Aside0.mk (Below.refl base w)
  have HK := Aside0.mk (KeepT.refl w)
  clear h hg
  go_enter Tryz.func90, Tryz.ntmps90
  go_upto_region 0 with fail
  go_cut [] from 10 (fun w' => Aside0 (PlOk w' base bp (p.outs i k x) ∧ Below base w w' ∧ KeepT w w'))
  case first =>
    obtain ⟨ro, ri, vi, vx, g, cap, hi', hp, c1, c2, c3, l1, l2, l3, l4⟩ := HP.out.open_out i hi
    have HPA := Aside0.mk hp
    have hrow := hp.rows.rowA i hi'
    have HROW := Aside0.mk hrow
    have hne1 : some bp ≠ ro[i].ownBlock := fun e => by
      obtain ⟨c, hc⟩ := own_block hrow e.symm
      exact absurd (blk_type hp.blk hc) (by decide)
    have hne2 : some g ≠ ro[i].ownBlock := fun e => by
      obtain ⟨c, hc⟩ := own_block hrow e.symm
      obtain ⟨c', hc'⟩ := own_block hp.rows.a (k := g) rfl
      exact absurd (blk_type hc' hc) (by decide)
    have hbr : ∀ q, ro[i].ownBlock = some q → base ≤ q := fun q hq => own_base hrow q hq
    have HBR := Aside0.mk hbr
    have hx1 : (i : Int) < (ro.length : Int) := by omega
    have hx2 : (0 : Int) ≤ (i : Int) := by omega
    have hx3 : (k : Int) ≤ 1000 := by omega
    clear hp hrow hbr
    obtain ⟨r, hr⟩ : ∃ r, r = ro[i] := ⟨_, rfl⟩
    rw [← hr] at c2 hne1 hne2
    have HR := Aside0.mk hr
    have HL4 := Aside0.mk l4
    have hbw := Nat.le_trans hbase HB.out.size
    clear hr l4
    go_region_law (first | (go_simp; go_at_call 106; refine (set_any base _ (p.out.getD i []) k x _ (by rw [HR.out]; exact HROW.out) (HG.out.out i).1 (Nat.le_trans (HG.out.out i).len hn) (by omega) (by omega) ((HG.out.out i).bounds hn) (by first | exact hbw | simpa using hbw)).mono ?_; rintro e w1 ⟨v', rfl, hown, hgr, hat⟩; obtain ⟨A', c', rfl⟩ := own_slice hown; have d1 := (hgr.cell_far ⟨bp, 1, none⟩ l1 hne1).trans c1; have d2 := (hgr.cell_far ⟨g, i, none⟩ l2 hne2).trans c2; have d3 := (hgr.frozen_far ⟨g, i, none⟩ l2 hne2).trans c3))
    all_goals
      go_wp2
      go_meet
      case rel => exact ⟨⟨_, _, _, _, _, PlAt.put_out HPA.out i hi' _ _ (by rw [← HR.out]; exact (grownBy_drew _ _).trans hgr) hown (by rw [← HR.out]; exact hat)⟩, (HB.out.grown ((grownBy_drew _ _).trans hgr) hbw (fun q hq => HBR.out q (by rw [← HR.out]; exact hq))).setCell l3 _, HK.out.trans (fun q c e hq he1 he2 => put_keep HPA.out.rows i hi' _ (by rw [← HR.out]; exact (grownBy_drew _ _).trans hgr) hq he1 he2)⟩
  case rest =>
    obtain ⟨hpk, hbel, hkeep⟩ := hcut
    obtain ⟨p1, hnp⟩ : ∃ q, q = p.outs i k x := ⟨_, rfl⟩
    rw [← hnp] at hpk
    have HE1 := Aside0.mk hnp
    have HP1 := Aside0.mk hpk
    have HB1 := Aside0.mk hbel
    have HK1 := Aside0.mk hkeep
    have HG1 := Aside0.mk (show p1.Good by rw [hnp]; exact HG.out.outs i k x hk)
    have hn1 := HG1.out.n
    have hi1 : i < p1.ids.length := by rw [hnp]; exact hi
    have hk1 : k < p1.ids.length := by rw [hnp]; exact hk
    clear hpk hbel hkeep hnp
    go_upto_region 1 with fail
    go_cut [] from 10 (fun w' => Aside0 (PlOk w' base bp (p1.inns k i x) ∧ Below base w w' ∧ KeepT w w'))
    case first =>
      obtain ⟨ro, ri, vi, vx, g, cap, hi', hp, c1, c2, c3, l1, l2, l3, l4⟩ := HP1.out.open_inn k hk1
      have HPA := Aside0.mk hp
      have hrow := hp.rows.rowB k hi'
      have HROW := Aside0.mk hrow
      have hne1 : some bp ≠ ri[k].ownBlock := fun e => by
        obtain ⟨c, hc⟩ := own_block hrow e.symm
        exact absurd (blk_type hp.blk hc) (by decide)
      have hne2 : some g ≠ ri[k].ownBlock := fun e => by
        obtain ⟨c, hc⟩ := own_block hrow e.symm
        obtain ⟨c', hc'⟩ := own_block hp.rows.b (k := g) rfl
        exact absurd (blk_type hc' hc) (by decide)
      have hbr : ∀ q, ri[k].ownBlock = some q → base ≤ q := fun q hq => own_base hrow q hq
      have HBR := Aside0.mk hbr
      have hx1 : (k : Int) < (ri.length : Int) := by omega
      have hx2 : (0 : Int) ≤ (k : Int) := by omega
      have hx3 : (i : Int) ≤ 1000 := by omega
      clear hp hrow hbr
      obtain ⟨r, hr⟩ : ∃ r, r = ri[k] := ⟨_, rfl⟩
      rw [← hr] at c2 hne1 hne2
      have HR := Aside0.mk hr
      have HL4 := Aside0.mk l4
      have hbw := Nat.le_trans hbase HB1.out.size
      clear hr l4
      go_region_law (first | (go_simp; go_at_call 106; refine (set_any base _ (p1.inn.getD k []) i x _ (by rw [HR.out]; exact HROW.out) (HG1.out.inn k).1 (Nat.le_trans (HG1.out.inn k).len hn1) (by omega) (by omega) ((HG1.out.inn k).bounds hn1) (by first | exact hbw | simpa using hbw)).mono ?_; rintro e w1 ⟨v', rfl, hown, hgr, hat⟩; obtain ⟨A', c', rfl⟩ := own_slice hown; have d1 := (hgr.cell_far ⟨bp, 2, none⟩ l1 hne1).trans c1; have d2 := (hgr.cell_far ⟨g, k, none⟩ l2 hne2).trans c2; have d3 := (hgr.frozen_far ⟨g, k, none⟩ l2 hne2).trans c3))
      all_goals
        go_wp2
        go_meet
        case rel => exact ⟨⟨_, _, _, _, _, PlAt.put_inn HPA.out k hi' _ _ (by rw [← HR.out]; exact (grownBy_drew _ _).trans hgr) hown (by rw [← HR.out]; exact hat)⟩, (HB1.out.grown ((grownBy_drew _ _).trans hgr) hbw (fun q hq => HBR.out q (by rw [← HR.out]; exact hq))).setCell l3 _, HK1.out.trans (fun q c e hq he1 he2 => put_keep HPA.out.rows.symm k hi' _ (by rw [← HR.out]; exact (grownBy_drew _ _).trans hgr) hq he1 he2)⟩
    case rest =>
      obtain ⟨hpk, hbel, hkeep⟩ := hcut
      obtain ⟨p2, hnp⟩ : ∃ q, q = p1.inns k i x := ⟨_, rfl⟩
      rw [← hnp] at hpk
      have HE2 := Aside0.mk hnp
      have HP2 := Aside0.mk hpk
      have HB2 := Aside0.mk hbel
      have HK2 := Aside0.mk hkeep
      have HG2 := Aside0.mk (show p2.Good by rw [hnp]; exact HG1.out.inns k i x hi1)
      have hn2 := HG2.out.n
      have hi2 : i < p2.ids.length := by rw [hnp]; exact hi1
      have hk2 : k < p2.ids.length := by rw [hnp]; exact hk1
      clear hpk hbel hkeep hnp
      go_wp2
      go_end0
      exact ⟨rfl, (show PlOk _ base bp (p.lay i k x true) by unfold Pl.lay; rw [if_pos rfl, ← HE1.out, ← HE2.out]; exact HP2.out), HB2.out, HK2.out⟩

set_option maxHeartbeats 8000000 in
set_option maxRecDepth 100000 in
theorem lay_false (base bp : Nat) (p : Pl) (i k x : Nat) (w : World) (h : PlOk w base bp p) (hg : p.Good) (hi : i < p.ids.length) (hk : k < p.ids.length) (hbase : base ≤ w.heap.size) :
    Calls Tryz.prog 90 #[.pointer (some ⟨bp, 0, none⟩), .int .i64 i, .int .i64 k, .float .f64 x, .bool false] w fun e w' => e = .returned (.tuple #[]) ∧ PlOk w' base bp (p.lay i k x false) ∧ Below base w w' ∧ KeepT w w' := by
  have HG := Aside0.mk hg
  have hn := hg.n
  have HP := Aside0.mk h
  have HB := Aside0.mk (Below.refl base w)
  have HK := Aside0.mk (KeepT.refl w)
  clear h hg
  go_enter Tryz.func90, Tryz.ntmps90
  go_upto_region 0 with fail
  go_cut [] from 10 (fun w' => Aside0 (PlOk w' base bp (p.outs i k x) ∧ Below base w w' ∧ KeepT w w'))
  case first =>
    obtain ⟨ro, ri, vi, vx, g, cap, hi', hp, c1, c2, c3, l1, l2, l3, l4⟩ := HP.out.open_out i hi
    have HPA := Aside0.mk hp
    have hrow := hp.rows.rowA i hi'
    have HROW := Aside0.mk hrow
    have hne1 : some bp ≠ ro[i].ownBlock := fun e => by
      obtain ⟨c, hc⟩ := own_block hrow e.symm
      exact absurd (blk_type hp.blk hc) (by decide)
    have hne2 : some g ≠ ro[i].ownBlock := fun e => by
      obtain ⟨c, hc⟩ := own_block hrow e.symm
      obtain ⟨c', hc'⟩ := own_block hp.rows.a (k := g) rfl
      exact absurd (blk_type hc' hc) (by decide)
    have hbr : ∀ q, ro[i].ownBlock = some q → base ≤ q := fun q hq => own_base hrow q hq
    have HBR := Aside0.mk hbr
    have hx1 : (i : Int) < (ro.length : Int) := by omega
    have hx2 : (0 : Int) ≤ (i : Int) := by omega
    have hx3 : (k : Int) ≤ 1000 := by omega
    clear hp hrow hbr
    obtain ⟨r, hr⟩ : ∃ r, r = ro[i] := ⟨_, rfl⟩
    rw [← hr] at c2 hne1 hne2
    have HR := Aside0.mk hr
    have HL4 := Aside0.mk l4
    have hbw := Nat.le_trans hbase HB.out.size
    clear hr l4
    go_region_law (first | (go_simp; go_at_call 106; refine (set_any base _ (p.out.getD i []) k x _ (by rw [HR.out]; exact HROW.out) (HG.out.out i).1 (Nat.le_trans (HG.out.out i).len hn) (by omega) (by omega) ((HG.out.out i).bounds hn) (by first | exact hbw | simpa using hbw)).mono ?_; rintro e w1 ⟨v', rfl, hown, hgr, hat⟩; obtain ⟨A', c', rfl⟩ := own_slice hown; have d1 := (hgr.cell_far ⟨bp, 1, none⟩ l1 hne1).trans c1; have d2 := (hgr.cell_far ⟨g, i, none⟩ l2 hne2).trans c2; have d3 := (hgr.frozen_far ⟨g, i, none⟩ l2 hne2).trans c3))
    all_goals
      go_wp2
      go_meet
      case rel => exact ⟨⟨_, _, _, _, _, PlAt.put_out HPA.out i hi' _ _ (by rw [← HR.out]; exact (grownBy_drew _ _).trans hgr) hown (by rw [← HR.out]; exact hat)⟩, (HB.out.grown ((grownBy_drew _ _).trans hgr) hbw (fun q hq => HBR.out q (by rw [← HR.out]; exact hq))).setCell l3 _, HK.out.trans (fun q c e hq he1 he2 => put_keep HPA.out.rows i hi' _ (by rw [← HR.out]; exact (grownBy_drew _ _).trans hgr) hq he1 he2)⟩
  case rest =>
    obtain ⟨hpk, hbel, hkeep⟩ := hcut
    obtain ⟨p1, hnp⟩ : ∃ q, q = p.outs i k x := ⟨_, rfl⟩
    rw [← hnp] at hpk
    have HE1 := Aside0.mk hnp
    have HP1 := Aside0.mk hpk
    have HB1 := Aside0.mk hbel
    have HK1 := Aside0.mk hkeep
    have HG1 := Aside0.mk (show p1.Good by rw [hnp]; exact HG.out.outs i k x hk)
    have hn1 := HG1.out.n
    have hi1 : i < p1.ids.length := by rw [hnp]; exact hi
    have hk1 : k < p1.ids.length := by rw [hnp]; exact hk
    clear hpk hbel hkeep hnp
    go_upto_region 1 with fail
    go_cut [] from 10 (fun w' => Aside0 (PlOk w' base bp (p1.inns k i x) ∧ Below base w w' ∧ KeepT w w'))
    case first =>
      obtain ⟨ro, ri, vi, vx, g, cap, hi', hp, c1, c2, c3, l1, l2, l3, l4⟩ := HP1.out.open_inn k hk1
      have HPA := Aside0.mk hp
      have hrow := hp.rows.rowB k hi'
      have HROW := Aside0.mk hrow
      have hne1 : some bp ≠ ri[k].ownBlock := fun e => by
        obtain ⟨c, hc⟩ := own_block hrow e.symm
        exact absurd (blk_type hp.blk hc) (by decide)
      have hne2 : some g ≠ ri[k].ownBlock := fun e => by
        obtain ⟨c, hc⟩ := own_block hrow e.symm
        obtain ⟨c', hc'⟩ := own_block hp.rows.b (k := g) rfl
        exact absurd (blk_type hc' hc) (by decide)
      have hbr : ∀ q, ri[k].ownBlock = some q → base ≤ q := fun q hq => own_base hrow q hq
      have HBR := Aside0.mk hbr
      have hx1 : (k : Int) < (ri.length : Int) := by omega
      have hx2 : (0 : Int) ≤ (k : Int) := by omega
      have hx3 : (i : Int) ≤ 1000 := by omega
      clear hp hrow hbr
      obtain ⟨r, hr⟩ : ∃ r, r = ri[k] := ⟨_, rfl⟩
      rw [← hr] at c2 hne1 hne2
      have HR := Aside0.mk hr
      have HL4 := Aside0.mk l4
      have hbw := Nat.le_trans hbase HB1.out.size
      clear hr l4
      go_region_law (first | (go_simp; go_at_call 106; refine (set_any base _ (p1.inn.getD k []) i x _ (by rw [HR.out]; exact HROW.out) (HG1.out.inn k).1 (Nat.le_trans (HG1.out.inn k).len hn1) (by omega) (by omega) ((HG1.out.inn k).bounds hn1) (by first | exact hbw | simpa using hbw)).mono ?_; rintro e w1 ⟨v', rfl, hown, hgr, hat⟩; obtain ⟨A', c', rfl⟩ := own_slice hown; have d1 := (hgr.cell_far ⟨bp, 2, none⟩ l1 hne1).trans c1; have d2 := (hgr.cell_far ⟨g, k, none⟩ l2 hne2).trans c2; have d3 := (hgr.frozen_far ⟨g, k, none⟩ l2 hne2).trans c3))
      all_goals
        go_wp2
        go_meet
        case rel => exact ⟨⟨_, _, _, _, _, PlAt.put_inn HPA.out k hi' _ _ (by rw [← HR.out]; exact (grownBy_drew _ _).trans hgr) hown (by rw [← HR.out]; exact hat)⟩, (HB1.out.grown ((grownBy_drew _ _).trans hgr) hbw (fun q hq => HBR.out q (by rw [← HR.out]; exact hq))).setCell l3 _, HK1.out.trans (fun q c e hq he1 he2 => put_keep HPA.out.rows.symm k hi' _ (by rw [← HR.out]; exact (grownBy_drew _ _).trans hgr) hq he1 he2)⟩
    case rest =>
      obtain ⟨hpk, hbel, hkeep⟩ := hcut
      obtain ⟨p2, hnp⟩ : ∃ q, q = p1.inns k i x := ⟨_, rfl⟩
      rw [← hnp] at hpk
      have HE2 := Aside0.mk hnp
      have HP2 := Aside0.mk hpk
      have HB2 := Aside0.mk hbel
      have HK2 := Aside0.mk hkeep
      have HG2 := Aside0.mk (show p2.Good by rw [hnp]; exact HG1.out.inns k i x hi1)
      have hn2 := HG2.out.n
      have hi2 : i < p2.ids.length := by rw [hnp]; exact hi1
      have hk2 : k < p2.ids.length := by rw [hnp]; exact hk1
      clear hpk hbel hkeep hnp
      go_upto_region 3 with fail
      go_cut [] from 10 (fun w' => Aside0 (PlOk w' base bp (p2.outs k i x) ∧ Below base w w' ∧ KeepT w w'))
      case first =>
        obtain ⟨ro, ri, vi, vx, g, cap, hi', hp, c1, c2, c3, l1, l2, l3, l4⟩ := HP2.out.open_out k hk2
        have HPA := Aside0.mk hp
        have hrow := hp.rows.rowA k hi'
        have HROW := Aside0.mk hrow
        have hne1 : some bp ≠ ro[k].ownBlock := fun e => by
          obtain ⟨c, hc⟩ := own_block hrow e.symm
          exact absurd (blk_type hp.blk hc) (by decide)
        have hne2 : some g ≠ ro[k].ownBlock := fun e => by
          obtain ⟨c, hc⟩ := own_block hrow e.symm
          obtain ⟨c', hc'⟩ := own_block hp.rows.a (k := g) rfl
          exact absurd (blk_type hc' hc) (by decide)
        have hbr : ∀ q, ro[k].ownBlock = some q → base ≤ q := fun q hq => own_base hrow q hq
        have HBR := Aside0.mk hbr
        have hx1 : (k : Int) < (ro.length : Int) := by omega
        have hx2 : (0 : Int) ≤ (k : Int) := by omega
        have hx3 : (i : Int) ≤ 1000 := by omega
        clear hp hrow hbr
        obtain ⟨r, hr⟩ : ∃ r, r = ro[k] := ⟨_, rfl⟩
        rw [← hr] at c2 hne1 hne2
        have HR := Aside0.mk hr
        have HL4 := Aside0.mk l4
        have hbw := Nat.le_trans hbase HB2.out.size
        clear hr l4
        go_region_law (first | (go_simp; go_at_call 106; refine (set_any base _ (p2.out.getD k []) i x _ (by rw [HR.out]; exact HROW.out) (HG2.out.out k).1 (Nat.le_trans (HG2.out.out k).len hn2) (by omega) (by omega) ((HG2.out.out k).bounds hn2) (by first | exact hbw | simpa using hbw)).mono ?_; rintro e w1 ⟨v', rfl, hown, hgr, hat⟩; obtain ⟨A', c', rfl⟩ := own_slice hown; have d1 := (hgr.cell_far ⟨bp, 1, none⟩ l1 hne1).trans c1; have d2 := (hgr.cell_far ⟨g, k, none⟩ l2 hne2).trans c2; have d3 := (hgr.frozen_far ⟨g, k, none⟩ l2 hne2).trans c3))
        all_goals
          go_wp2
          go_meet
          case rel => exact ⟨⟨_, _, _, _, _, PlAt.put_out HPA.out k hi' _ _ (by rw [← HR.out]; exact (grownBy_drew _ _).trans hgr) hown (by rw [← HR.out]; exact hat)⟩, (HB2.out.grown ((grownBy_drew _ _).trans hgr) hbw (fun q hq => HBR.out q (by rw [← HR.out]; exact hq))).setCell l3 _, HK2.out.trans (fun q c e hq he1 he2 => put_keep HPA.out.rows k hi' _ (by rw [← HR.out]; exact (grownBy_drew _ _).trans hgr) hq he1 he2)⟩
      case rest =>
        obtain ⟨hpk, hbel, hkeep⟩ := hcut
        obtain ⟨p3, hnp⟩ : ∃ q, q = p2.outs k i x := ⟨_, rfl⟩
        rw [← hnp] at hpk
        have HE3 := Aside0.mk hnp
        have HP3 := Aside0.mk hpk
        have HB3 := Aside0.mk hbel
        have HK3 := Aside0.mk hkeep
        have HG3 := Aside0.mk (show p3.Good by rw [hnp]; exact HG2.out.outs k i x hi2)
        have hn3 := HG3.out.n
        have hi3 : i < p3.ids.length := by rw [hnp]; exact hi2
        have hk3 : k < p3.ids.length := by rw [hnp]; exact hk2
        clear hpk hbel hkeep hnp
        go_upto_region 4 with fail
        obtain ⟨ro, ri, vi, vx, g, cap, hi', hp, c1, c2, c3, l1, l2, l3, l4⟩ := HP3.out.open_inn i hi3
        have HPA := Aside0.mk hp
        have hrow := hp.rows.rowB i hi'
        have HROW := Aside0.mk hrow
        have hne1 : some bp ≠ ri[i].ownBlock := fun e => by
          obtain ⟨c, hc⟩ := own_block hrow e.symm
          exact absurd (blk_type hp.blk hc) (by decide)
        have hne2 : some g ≠ ri[i].ownBlock := fun e => by
          obtain ⟨c, hc⟩ := own_block hrow e.symm
          obtain ⟨c', hc'⟩ := own_block hp.rows.b (k := g) rfl
          exact absurd (blk_type hc' hc) (by decide)
        have hbr : ∀ q, ri[i].ownBlock = some q → base ≤ q := fun q hq => own_base hrow q hq
        have HBR := Aside0.mk hbr
        have hx1 : (i : Int) < (ri.length : Int) := by omega
        have hx2 : (0 : Int) ≤ (i : Int) := by omega
        have hx3 : (k : Int) ≤ 1000 := by omega
        clear hp hrow hbr
        obtain ⟨r, hr⟩ : ∃ r, r = ri[i] := ⟨_, rfl⟩
        rw [← hr] at c2 hne1 hne2
        have HR := Aside0.mk hr
        have HL4 := Aside0.mk l4
        have hbw := Nat.le_trans hbase HB3.out.size
        clear hr l4
        go_region_law (first | (go_simp; go_at_call 106; refine (set_any base _ (p3.inn.getD i []) k x _ (by rw [HR.out]; exact HROW.out) (HG3.out.inn i).1 (Nat.le_trans (HG3.out.inn i).len hn3) (by omega) (by omega) ((HG3.out.inn i).bounds hn3) (by first | exact hbw | simpa using hbw)).mono ?_; rintro e w1 ⟨v', rfl, hown, hgr, hat⟩; obtain ⟨A', c', rfl⟩ := own_slice hown; have d1 := (hgr.cell_far ⟨bp, 2, none⟩ l1 hne1).trans c1; have d2 := (hgr.cell_far ⟨g, i, none⟩ l2 hne2).trans c2; have d3 := (hgr.frozen_far ⟨g, i, none⟩ l2 hne2).trans c3))
        all_goals
          go_wp2
          go_end0
          refine ⟨rfl, ?_, (HB3.out.grown ((grownBy_drew _ _).trans hgr) hbw (fun q hq => HBR.out q (by rw [← HR.out]; exact hq))).setCell l3 _, HK3.out.trans (fun q c e hq he1 he2 => put_keep HPA.out.rows.symm i hi' _ (by rw [← HR.out]; exact (grownBy_drew _ _).trans hgr) hq he1 he2)⟩
          unfold Pl.lay
          rw [if_neg (by decide), ← HE1.out, ← HE2.out, ← HE3.out]
          exact ⟨_, _, _, _, _, PlAt.put_inn HPA.out i hi' _ _ (by rw [← HR.out]; exact (grownBy_drew _ _).trans hgr) hown (by rw [← HR.out]; exact hat)⟩

theorem lay_any (base bp : Nat) (p : Pl) (i k x : Nat) (d : Bool) (w : World) (h : PlOk w base bp p) (hg : p.Good) (hi : i < p.ids.length) (hk : k < p.ids.length) (hbase : base ≤ w.heap.size) :
    Calls Tryz.prog 90 #[.pointer (some ⟨bp, 0, none⟩), .int .i64 i, .int .i64 k, .float .f64 x, .bool d] w fun e w' => e = .returned (.tuple #[]) ∧ PlOk w' base bp (p.lay i k x d) ∧ Below base w w' ∧ KeepT w w' := by
  cases d
  · exact lay_false base bp p i k x w h hg hi hk hbase
  · exact lay_true base bp p i k x w h hg hi hk hbase
end Go.Proofs.YthkmblgehdofmaaGreat.R


/- Numbers ascending. -/
namespace Go.Lab
/-- numbers ascending -/
def srt (xs : List Int) : List Int := xs.mergeSort fun x y => decide (x ≤ y)
theorem srt_length (xs : List Int) : (srt xs).length = xs.length := List.length_mergeSort _
theorem srt_perm (xs : List Int) : (srt xs).Perm xs := List.mergeSort_perm _ _
theorem srt_le (xs : List Int) : (srt xs).Pairwise (· ≤ ·) := by
  have h := List.pairwise_mergeSort (le := fun x y : Int => decide (x ≤ y)) (fun a b c h1 h2 => by simp at *; omega) (fun a b => by simp; omega) xs
  exact h.imp (fun h => by simpa using h)
theorem mem_srt (xs : List Int) (x : Int) : x ∈ srt xs ↔ x ∈ xs := (srt_perm xs).mem_iff
end Go.Lab


/-
  DERIVED: THE SHELF's CONTRACTS AT THIS DUMP, IN PLAIN WORDS (tools/lay-plain.mjs out of 'TryzShelfA.lean', which tools/lay-shelf.mjs wrote): THE SAME DECLARATIONS UNDER THE SAME NAMES: 'import', 'namespace', 'open', 'def', 'theorem' AND NOTHING ELSE: no command of the shelf's: FOR A HAND-IN. Each laying: the table of numbers ('.._ren') and one theorem, a field a fact of the dump's own or the kernel's comparison; each contract: ONE APPLICATION.
-/
namespace Go.Proofs
open Go.Shelf
def Tryz.lays189_ren : Go.Shelf.Ren := ⟨fun | 189 => 43 | 125 => 59 | 257 => 58 | 128 => 85 | 129 => 86 | 294 => 76 | 295 => 77 | 296 => 78 | 297 => 79 | 298 => 80 | 299 => 81 | 216 => 82 | 300 => 83 | 301 => 84 | 328 => 99 | 329 => 100 | 330 => 101 | 331 => 102 | 332 => 103 | 215 => 104 | 343 => 110 | n => n, fun | 28 => 23 | 3 => 3 | 46 => 103 | 0 => 0 | 51 => 134 | 53 => 136 | 4 => 4 | 183 => 127 | 182 => 126 | 131 => 30 | 5 => 5 | 9 => 9 | 218 => 164 | 222 => 168 | 228 => 180 | 229 => 181 | n => n, fun | n => n⟩
theorem Tryz.lays189 : Go.Proofs.Lays.n189 Tryz.prog Tryz.lays189_ren := {
  mixed := by kernel_rfl
  f125 := Tryz.func59.trans (congrArg some (by kernel_rfl))
  f128 := Tryz.func85.trans (congrArg some (by kernel_rfl))
  f129 := Tryz.func86.trans (congrArg some (by kernel_rfl))
  f189 := Tryz.func43.trans (congrArg some (by kernel_rfl))
  f215 := Tryz.func104.trans (congrArg some (by kernel_rfl))
  f216 := Tryz.func82.trans (congrArg some (by kernel_rfl))
  f257 := Tryz.func58.trans (congrArg some (by kernel_rfl))
  f294 := Tryz.func76.trans (congrArg some (by kernel_rfl))
  f295 := Tryz.func77.trans (congrArg some (by kernel_rfl))
  f296 := Tryz.func78.trans (congrArg some (by kernel_rfl))
  f297 := Tryz.func79.trans (congrArg some (by kernel_rfl))
  f298 := Tryz.func80.trans (congrArg some (by kernel_rfl))
  f299 := Tryz.func81.trans (congrArg some (by kernel_rfl))
  f300 := Tryz.func83.trans (congrArg some (by kernel_rfl))
  f301 := Tryz.func84.trans (congrArg some (by kernel_rfl))
  f328 := Tryz.func99.trans (congrArg some (by kernel_rfl))
  f329 := Tryz.func100.trans (congrArg some (by kernel_rfl))
  f330 := Tryz.func101.trans (congrArg some (by kernel_rfl))
  f331 := Tryz.func102.trans (congrArg some (by kernel_rfl))
  f332 := Tryz.func103.trans (congrArg some (by kernel_rfl))
  f343 := Tryz.func110.trans (congrArg some (by kernel_rfl))
  t0 := Tryz.underlying0
  a0 := Tryz.isAgg0
  z0 := Tryz.sizeOf0
  v0 := Tryz.zeroValue0
  t3 := Tryz.underlying3
  a3 := Tryz.isAgg3
  z3 := Tryz.sizeOf3
  v3 := Tryz.zeroValue3
  t4 := Tryz.underlying4
  a4 := Tryz.isAgg4
  z4 := Tryz.sizeOf4
  v4 := Tryz.zeroValue4
  t5 := Tryz.underlying5
  a5 := Tryz.isAgg5
  z5 := Tryz.sizeOf5
  v5 := Tryz.zeroValue5
  t9 := Tryz.underlying9
  a9 := Tryz.isAgg9
  z9 := Tryz.sizeOf9
  v9 := Tryz.zeroValue9
  t28 := Tryz.underlying23
  a28 := Tryz.isAgg23
  z28 := Tryz.sizeOf23
  v28 := Tryz.zeroValue23
  t46 := Tryz.underlying103
  a46 := Tryz.isAgg103
  z46 := Tryz.sizeOf103
  v46 := Tryz.zeroValue103
  t51 := Tryz.underlying134
  a51 := Tryz.isAgg134
  z51 := Tryz.sizeOf134
  v51 := Tryz.zeroValue134
  t53 := Tryz.underlying136
  a53 := Tryz.isAgg136
  z53 := Tryz.sizeOf136
  v53 := Tryz.zeroValue136
  t131 := Tryz.underlying30
  a131 := Tryz.isAgg30
  z131 := Tryz.sizeOf30
  v131 := Tryz.zeroValue30
  t182 := Tryz.underlying126
  a182 := Tryz.isAgg126
  z182 := Tryz.sizeOf126
  v182 := Tryz.zeroValue126
  t183 := Tryz.underlying127
  a183 := Tryz.isAgg127
  z183 := Tryz.sizeOf127
  v183 := Tryz.zeroValue127
  t218 := Tryz.underlying164
  a218 := Tryz.isAgg164
  z218 := Tryz.sizeOf164
  v218 := Tryz.zeroValue164
  t222 := Tryz.underlying168
  a222 := Tryz.isAgg168
  z222 := Tryz.sizeOf168
  v222 := Tryz.zeroValue168
  t228 := Tryz.underlying180
  a228 := Tryz.isAgg180
  z228 := Tryz.sizeOf180
  v228 := Tryz.zeroValue180
  t229 := Tryz.underlying181
  a229 := Tryz.isAgg181
  z229 := Tryz.sizeOf181
  v229 := Tryz.zeroValue181 }
open Go.Sort Go.RowKit in
theorem Tryz.slices_Sort_int (blk off cap : Nat) (zs : List Int) (w : World) (hH : Holds (Value.int .i64) w blk off zs.toArray) (hblk : blk < w.heap.size) (hsz : zs.length < 4611686018427387904) :
    Calls Tryz.prog 43 #[.slice (some ⟨blk, off, none⟩) zs.length cap] w fun e w' =>
      e = .returned (.tuple #[]) ∧ ∃ n os, w' = grow (putRow (Value.int .i64) (Sort.ahead w n) blk off (zs.mergeSort fun x y => decide (x ≤ y)).toArray) os := Any.slices_Sort_int Tryz.lays189 blk off cap zs w hH hblk hsz
open Go.RowKit Go.Sort in
/-- .. and plain. (LAID: no walk: one application.) -/
theorem Tryz.slices_Sort_int_none (p : Option Addr) (cap : Nat) (w : World) :
    Calls Tryz.prog 43 #[.slice p 0 cap] w fun e w' => e = .returned (.tuple #[]) ∧ w' = w := Any.slices_Sort_int_none Tryz.lays189 p cap w
def Tryz.laysSlE43_f88_ren : Go.Shelf.Ren := ⟨fun | 43 => 88 | n => n, fun | 22 => 63 | 23 => 2 | 3 => 3 | 4 => 4 | 0 => 0 | n => n, fun | n => n⟩
theorem Tryz.laysSlE43_f88 : Go.Proofs.SlLaysE.n43 Tryz.prog Tryz.laysSlE43_f88_ren := {
  mixed := by kernel_rfl
  f43 := ⟨Tryz.f88.name, by decide, Tryz.func88.trans (congrArg some (by kernel_rfl))⟩
  t0 := Tryz.underlying0
  a0 := Tryz.isAgg0
  z0 := Tryz.sizeOf0
  v0 := Tryz.zeroValue0
  t3 := Tryz.underlying3
  a3 := Tryz.isAgg3
  z3 := Tryz.sizeOf3
  v3 := Tryz.zeroValue3
  t4 := Tryz.underlying4
  a4 := Tryz.isAgg4
  z4 := Tryz.sizeOf4
  v4 := Tryz.zeroValue4
  t22 := Tryz.underlying63
  a22 := Tryz.isAgg63
  z22 := Tryz.sizeOf63
  v22 := Tryz.zeroValue63
  a23 := Tryz.isAgg2
  z23 := Tryz.sizeOf2 }
open Go.RowKit Go.Lib Go.Sort in
/-- slices.Compact: "Compact replaces consecutive runs of equal elements with a single copy. .. Compact zeroes the elements between the new length and the original length.": IT RETURNS THE SLICE CUT TO 'compactUpTo d d.size'; ITS CELLS HOLD THAT, THEN ZERO VALUES up to the old length; the library's two loops are walked. (LAID AT THE INSTANCE 'slices.Compact[[]int64,int64]': no walk: one application.) -/
theorem Tryz.slices_Compact {α : Type} [Inhabited α] [DecidableEq α] (enc : α → Value) (hO : OneCell enc) (heq : EqlAt Tryz.prog 2 enc (fun x y => decide (x = y))) (hne : NeqAt Tryz.prog 2 enc (fun x y => decide (x = y))) (zr : α) (v23 : ∀ w, (zeroValue 2).run Tryz.prog w = .ok (enc zr) w) (blk off cap : Nat) (d : Array α) (w : World) (hH : Holds enc w blk off d) (hsz : d.size ≤ 9223372036854775807) (hcap : d.size ≤ cap) :
    Calls Tryz.prog 88 #[.slice (some ⟨blk, off, none⟩) d.size cap] w fun e w' => e = .returned (.slice (some ⟨blk, off, none⟩) (compactUpTo d d.size).length cap) ∧ ∃ q, w' = putRow enc (Sort.ahead w q) blk off (compactUpTo d d.size ++ List.replicate (d.size - (compactUpTo d d.size).length) zr).toArray := AnyE.slices_Compact Tryz.laysSlE43_f88 enc hO heq hne zr v23 blk off cap d w hH hsz hcap
def Tryz.laysSlM5_f87_ren : Go.Shelf.Ren := ⟨fun | 5 => 87 | 8 => 59 | 7 => 105 | 19 => 85 | 20 => 86 | 10 => 111 | 11 => 112 | 12 => 113 | 13 => 114 | 14 => 115 | 15 => 116 | 16 => 91 | 17 => 117 | 18 => 118 | 30 => 122 | 31 => 100 | 32 => 101 | 33 => 123 | 34 => 124 | 35 => 107 | 40 => 127 | n => n, fun | 23 => 63 | 25 => 2 | 3 => 3 | 32 => 103 | 22 => 63 | 0 => 0 | 44 => 134 | 46 => 136 | 4 => 4 | 36 => 127 | 35 => 126 | 41 => 30 | 5 => 5 | 9 => 9 | 53 => 164 | 57 => 168 | 63 => 180 | 64 => 181 | n => n, fun | n => n⟩
theorem Tryz.laysSlM5_f87 : Go.Proofs.SlLaysM.n5 Tryz.prog Tryz.laysSlM5_f87_ren := {
  mixed := by kernel_rfl
  f5 := ⟨Tryz.f87.name, by decide, Tryz.func87.trans (congrArg some (by kernel_rfl))⟩
  f7 := ⟨Tryz.f105.name, by decide, Tryz.func105.trans (congrArg some (by kernel_rfl))⟩
  f8 := Tryz.func59.trans (congrArg some (by kernel_rfl))
  f10 := ⟨Tryz.f111.name, by decide, Tryz.func111.trans (congrArg some (by kernel_rfl))⟩
  f11 := ⟨Tryz.f112.name, by decide, Tryz.func112.trans (congrArg some (by kernel_rfl))⟩
  f12 := ⟨Tryz.f113.name, by decide, Tryz.func113.trans (congrArg some (by kernel_rfl))⟩
  f13 := ⟨Tryz.f114.name, by decide, Tryz.func114.trans (congrArg some (by kernel_rfl))⟩
  f14 := ⟨Tryz.f115.name, by decide, Tryz.func115.trans (congrArg some (by kernel_rfl))⟩
  f15 := ⟨Tryz.f116.name, by decide, Tryz.func116.trans (congrArg some (by kernel_rfl))⟩
  f16 := ⟨Tryz.f91.name, by decide, Tryz.func91.trans (congrArg some (by kernel_rfl))⟩
  f17 := ⟨Tryz.f117.name, by decide, Tryz.func117.trans (congrArg some (by kernel_rfl))⟩
  f18 := ⟨Tryz.f118.name, by decide, Tryz.func118.trans (congrArg some (by kernel_rfl))⟩
  f19 := Tryz.func85.trans (congrArg some (by kernel_rfl))
  f20 := Tryz.func86.trans (congrArg some (by kernel_rfl))
  f30 := ⟨Tryz.f122.name, by decide, Tryz.func122.trans (congrArg some (by kernel_rfl))⟩
  f31 := Tryz.func100.trans (congrArg some (by kernel_rfl))
  f32 := Tryz.func101.trans (congrArg some (by kernel_rfl))
  f33 := ⟨Tryz.f123.name, by decide, Tryz.func123.trans (congrArg some (by kernel_rfl))⟩
  f34 := ⟨Tryz.f124.name, by decide, Tryz.func124.trans (congrArg some (by kernel_rfl))⟩
  f35 := ⟨Tryz.f107.name, by decide, Tryz.func107.trans (congrArg some (by kernel_rfl))⟩
  f40 := ⟨Tryz.f127.name, by decide, Tryz.func127.trans (congrArg some (by kernel_rfl))⟩
  t0 := Tryz.underlying0
  a0 := Tryz.isAgg0
  z0 := Tryz.sizeOf0
  v0 := Tryz.zeroValue0
  t3 := Tryz.underlying3
  a3 := Tryz.isAgg3
  z3 := Tryz.sizeOf3
  v3 := Tryz.zeroValue3
  t4 := Tryz.underlying4
  a4 := Tryz.isAgg4
  z4 := Tryz.sizeOf4
  v4 := Tryz.zeroValue4
  t5 := Tryz.underlying5
  a5 := Tryz.isAgg5
  z5 := Tryz.sizeOf5
  v5 := Tryz.zeroValue5
  t9 := Tryz.underlying9
  a9 := Tryz.isAgg9
  z9 := Tryz.sizeOf9
  v9 := Tryz.zeroValue9
  t22 := Tryz.underlying63
  a22 := Tryz.isAgg63
  z22 := Tryz.sizeOf63
  v22 := Tryz.zeroValue63
  t23 := Tryz.underlying63
  a23 := Tryz.isAgg63
  z23 := Tryz.sizeOf63
  v23 := Tryz.zeroValue63
  t25 := Tryz.underlying2
  a25 := Tryz.isAgg2
  z25 := Tryz.sizeOf2
  v25 := Tryz.zeroValue2
  t32 := Tryz.underlying103
  a32 := Tryz.isAgg103
  z32 := Tryz.sizeOf103
  v32 := Tryz.zeroValue103
  t35 := Tryz.underlying126
  a35 := Tryz.isAgg126
  z35 := Tryz.sizeOf126
  v35 := Tryz.zeroValue126
  t36 := Tryz.underlying127
  a36 := Tryz.isAgg127
  z36 := Tryz.sizeOf127
  v36 := Tryz.zeroValue127
  t41 := Tryz.underlying30
  a41 := Tryz.isAgg30
  z41 := Tryz.sizeOf30
  v41 := Tryz.zeroValue30
  t44 := Tryz.underlying134
  a44 := Tryz.isAgg134
  z44 := Tryz.sizeOf134
  v44 := Tryz.zeroValue134
  t46 := Tryz.underlying136
  a46 := Tryz.isAgg136
  z46 := Tryz.sizeOf136
  v46 := Tryz.zeroValue136
  t53 := Tryz.underlying164
  a53 := Tryz.isAgg164
  z53 := Tryz.sizeOf164
  v53 := Tryz.zeroValue164
  t57 := Tryz.underlying168
  a57 := Tryz.isAgg168
  z57 := Tryz.sizeOf168
  v57 := Tryz.zeroValue168
  t63 := Tryz.underlying180
  a63 := Tryz.isAgg180
  z63 := Tryz.sizeOf180
  v63 := Tryz.zeroValue180
  t64 := Tryz.underlying181
  a64 := Tryz.isAgg181
  z64 := Tryz.sizeOf181
  v64 := Tryz.zeroValue181 }
open Go.Sort Go.RowKit in
theorem Tryz.slices_Sort_int_f87 (blk off cap : Nat) (zs : List Int) (w : World) (hH : Holds (Value.int .i64) w blk off zs.toArray) (hblk : blk < w.heap.size) (hsz : zs.length < 4611686018427387904) :
    Calls Tryz.prog 87 #[.slice (some ⟨blk, off, none⟩) zs.length cap] w fun e w' =>
      e = .returned (.tuple #[]) ∧ ∃ n os, w' = grow (putRow (Value.int .i64) (Sort.ahead w n) blk off (zs.mergeSort fun x y => decide (x ≤ y)).toArray) os := AnyM.slices_Sort_int Tryz.laysSlM5_f87 blk off cap zs w hH hblk hsz
open Go.RowKit Go.Sort in
/-- .. and plain. (LAID AT THE INSTANCE 'slices.Sort[[]int64,int64]': no walk: one application.) -/
theorem Tryz.slices_Sort_int_none_f87 (p : Option Addr) (cap : Nat) (w : World) :
    Calls Tryz.prog 87 #[.slice p 0 cap] w fun e w' => e = .returned (.tuple #[]) ∧ w' = w := AnyM.slices_Sort_int_none Tryz.laysSlM5_f87 p cap w
end Go.Proofs

namespace Go.Proofs.YthkmblgehdofmaaGreat.R
open Go.RowKit Go.Lab Go.Proofs.YthkmblgehdofmaaGreatW.PrintWords Go.Proofs.YthkmblgehdofmaaGreatW.PrintLast Go.Proofs.YthkmblgehdofmaaGreatW.PrintMore

open Go.Sort in
theorem putCells_take (cur : Array Value) (n : Nat) (ys : List Int) (hl : ys.length = n) (hn : n ≤ cur.size) : (putCells (Value.int .i64) 0 ys.toArray cur).toList.take n = nums .i64 ys := by
  apply List.ext_getElem?
  intro j
  rw [List.getElem?_take]
  by_cases hj : j < n
  · rw [if_pos hj, Array.getElem?_toList]
    unfold putCells nums
    rw [Array.getElem?_mapIdx, Array.getElem?_eq_getElem (by omega), List.getElem?_map, List.getElem?_eq_getElem (by omega)]
    have : j < ys.toArray.size := by simp; omega
    simp only [Option.map_some, Nat.zero_le, true_and, Nat.zero_add, Nat.sub_zero]
    rw [if_pos this, getElem!_pos ys.toArray j this]
    simp
  · rw [if_neg hj, List.getElem?_eq_none (by rw [nums_length]; omega)]

open Go.Sort in
theorem sort_own (base : Nat) (v : Value) (xs : List Int) (w : World) (h : w.ownsRow base 2 1 v xs.length (nums .i64 xs)) (hb : xs.length ≤ 100000) :
    Calls Tryz.prog 87 #[v] w fun e w' => e = .returned (.tuple #[]) ∧ w'.ownsRow base 2 1 v xs.length (nums .i64 (srt xs)) ∧ w.grownBy w' v.ownBlock := by
  by_cases h0 : xs.length = 0
  · have hx : xs = [] := List.eq_nil_of_length_eq_zero h0
    subst hx
    obtain ⟨A, c, rfl⟩ := own_slice h
    refine (Tryz.slices_Sort_int_none_f87 A c w).mono ?_
    rintro e w' ⟨rfl, rfl⟩
    exact ⟨rfl, (by simpa [srt] using h), ⟨rfl, rfl, rfl, Nat.le_refl _, fun _ _ _ => rfl⟩⟩
  · rcases h.2 with ⟨_, hn⟩ | ⟨g, cap, cur, rfl, hb1, hg, hc1, hc2, hcs, htk⟩
    · exact absurd hn h0
    · have hH : Holds (Value.int .i64) w g 0 xs.toArray := by
        intro j hj
        have hj' : j < xs.length := by simpa using hj
        refine ⟨?_, blk_frozen hg _⟩
        rw [Nat.zero_add, blk_cell hg]
        have h1 : (cur.toList.take (xs.length * 1))[j]? = some (.int .i64 xs[j]) := by rw [htk]; simp [nums, hj']
        rw [List.getElem?_take] at h1
        split at h1
        · rw [getElem!_pos xs.toArray j (by simpa using hj)]
          simpa using h1
        · cases h1
      refine (Tryz.slices_Sort_int_f87 g 0 cap xs w hH (blk_lt hg) (by omega)).mono ?_
      rintro e w' ⟨rfl, n, os, rfl⟩
      have hgl : g < w.heap.size := blk_lt hg
      have hh : (grow (putRow (Value.int .i64) (Go.Sort.ahead w n) g 0 (xs.mergeSort fun x y => decide (x ≤ y)).toArray) os).heap[g]? = some (.cells (putCells (Value.int .i64) 0 (srt xs).toArray cur) 2 (0, 0)) := by
        have hsz : (putRow (Value.int .i64) (Go.Sort.ahead w n) g 0 (xs.mergeSort fun x y => decide (x ≤ y)).toArray).heap.size = w.heap.size := by simp [putRow, mapBlock, Go.Sort.ahead]
        rw [heap_grow_old _ _ (by rw [hsz]; exact hgl)]
        unfold putRow mapBlock
        have : (Go.Sort.ahead w n).heap = w.heap := rfl
        simp only [this, Array.getElem?_modify, if_true]
        rw [hg]
        rfl
      have hsl : (putCells (Value.int .i64) 0 (srt xs).toArray cur).size = cur.size := by simp [putCells]
      refine ⟨rfl, ⟨by rw [nums_length, srt_length]; omega, .inr ⟨g, cap, _, rfl, hb1, hh, hc1, hc2, by rw [hsl]; exact hcs, ?_⟩⟩, ⟨rfl, rfl, rfl, ?_, fun k hk hne => ?_⟩⟩
      · rw [Nat.mul_one]
        exact putCells_take cur xs.length (srt xs) (srt_length xs) (by rw [hcs]; omega)
      · simp [grow, putRow, mapBlock, Go.Sort.ahead]
      · have hkg : k ≠ g := fun e => hne (by simp [Value.ownBlock, e])
        have hsz : (putRow (Value.int .i64) (Go.Sort.ahead w n) g 0 (xs.mergeSort fun x y => decide (x ≤ y)).toArray).heap.size = w.heap.size := by simp [putRow, mapBlock, Go.Sort.ahead]
        rw [heap_grow_old _ _ (by rw [hsz]; exact hk)]
        unfold putRow mapBlock
        have : (Go.Sort.ahead w n).heap = w.heap := rfl
        simp only [this, Array.getElem?_modify]
        rw [if_neg (Ne.symm hkg)]

set_option maxHeartbeats 400000 in
theorem clone64_none (n c : Nat) (w : World) : Calls Tryz.prog 89 #[.slice none n c] w fun e w' => e = .returned (.slice none 0 0) ∧ w = w' := by
  have q60 : ∀ (w : World) (a : Option Addr) (n c n' c' : Nat), (binOp .eql 63 (.slice a n c) (.slice none n' c')).run Tryz.prog w = .ok (.bool a.isNone) w := fun w a n c n' c' => Lib.run_eql_slice_nil w _ _ a n c n' c' Tryz.underlying63
  go_enter Tryz.func89, Tryz.ntmps89
  go_wp2
  go_ret
  exact ⟨rfl, rfl⟩

/-- slices.Clone at int64: of an owned row -/
theorem clone64_own (base : Nat) (v : Value) (xs : List Int) (w : World) (h : w.ownsRow base 2 1 v xs.length (nums .i64 xs)) (hb : xs.length ≤ 100000) :
    Calls Tryz.prog 89 #[v] w fun e w' => ∃ v', e = .returned v' ∧ w'.ownsRow w.heap.size 2 1 v' xs.length (nums .i64 xs) ∧ Below w.heap.size w w' := by
  obtain ⟨A, c, rfl, hr⟩ := own_reads h
  cases A with
  | none =>
    refine (clone64_none _ _ w).mono ?_
    rintro e w' ⟨rfl, rfl⟩
    have h0 : xs.length = 0 := by
      rcases h.2 with ⟨hn, h0⟩ | ⟨g, cap, cur, hv, _⟩
      · exact h0
      · cases hv
    have hx : xs = [] := List.eq_nil_of_length_eq_zero h0
    subst hx
    exact ⟨_, rfl, World.ownsRow_nil _ _ _ _, Below.refl _ _⟩
  | some ad =>
    exact clone64_some ad c xs w (Kd.C_of_reads hr) (by omega)

set_option maxHeartbeats 400000 in
theorem index_any (base bp : Nat) (vi : Value) (ids : List Int) (t : Int) (w : World) (hc : w.cell? ⟨bp, 0, none⟩ = some vi) (h : w.ownsRow base 2 1 vi ids.length (nums .i64 ids)) (hs : ids.Pairwise (· < ·)) (hb : ids.length ≤ 1000) :
    Calls Tryz.prog 50 #[.pointer (some ⟨bp, 0, none⟩), .int .i64 t] w fun e w' => e = .returned (.tuple #[.int .i64 (rank ids t), .bool (decide (t ∈ ids))]) ∧ w = w' := by
  obtain ⟨A, c, rfl, hr⟩ := own_reads h
  have HR := Aside0.mk hr
  have HS := Aside0.mk hs
  clear h hr hs
  go_enter Tryz.func50, Tryz.ntmps50
  go_wp2_with (go_at_call 61; refine (bsearch_any A c ids t _ (Kd.C_of_reads HR.out) HS.out hb).mono ?_; rintro e w' ⟨rfl, rfl⟩)
  go_ret2
  exact ⟨rfl, rfl⟩
end Go.Proofs.YthkmblgehdofmaaGreat.R


namespace Go.Proofs.YthkmblgehdofmaaGreat.R
open Go.RowKit Go.Lab Go.Proofs.YthkmblgehdofmaaGreatW.PrintWords Go.Proofs.YthkmblgehdofmaaGreatW.PrintLast Go.Proofs.YthkmblgehdofmaaGreatW.PrintMore

open Go.Lib in
theorem compact_len (xs : List Int) (hs : xs.Pairwise (· ≤ ·)) : (compactUpTo xs.toArray xs.length).length ≤ xs.length ∧ ((compactUpTo xs.toArray xs.length).length = xs.length ↔ xs.Pairwise (· < ·)) := by
  have hle : (compactUpTo xs.toArray xs.length).length ≤ xs.length := by
    unfold compactUpTo
    rw [List.length_map]
    exact Nat.le_trans (List.length_filter_le _ _) (by simp)
  refine ⟨hle, ?_⟩
  unfold compactUpTo
  rw [List.length_map]
  have hr : (List.range xs.length).length = xs.length := by simp
  constructor
  · intro h
    have hall : ∀ j ∈ List.range xs.length, keeps xs.toArray j = true := by
      have h2 : ((List.range xs.length).filter (keeps xs.toArray)).length = (List.range xs.length).length := by rw [h, hr]
      exact List.length_filter_eq_length_iff.1 h2
    have hadj : ∀ j (hj : j + 1 < xs.length), xs[j] < xs[j + 1] := by
      intro j hj
      have h1 := hall (j + 1) (by simpa using hj)
      have h2 : xs[j] ≤ xs[j + 1] := (List.pairwise_iff_getElem.1 hs) j (j + 1) (by omega) hj (by omega)
      unfold keeps at h1
      rw [getElem!_pos xs.toArray (j + 1) (by simpa using hj), getElem!_pos xs.toArray (j + 1 - 1) (by simp; omega)] at h1
      simp at h1
      omega
    have hmono : ∀ i k, (hk : i + k + 1 < xs.length) → xs[i]'(by omega) < xs[i + k + 1] := by
      intro i k
      induction k with
      | zero => intro hk; exact hadj i hk
      | succ k ih =>
        intro hk
        have h1 := ih (by omega)
        have h2 := hadj (i + k + 1) (by omega)
        exact Int.lt_trans h1 h2
    rw [List.pairwise_iff_getElem]
    intro i j hi hj hij
    have := hmono i (j - i - 1) (by omega)
    have e : i + (j - i - 1) + 1 = j := by omega
    simp only [e] at this
    exact this
  · intro h
    rw [List.length_filter_eq_length_iff.2, hr]
    intro j hj
    unfold keeps
    by_cases hj0 : j = 0
    · simp [hj0]
    · have hj' : j < xs.length := by simpa using hj
      rw [getElem!_pos xs.toArray j (by simpa using hj'), getElem!_pos xs.toArray (j - 1) (by simp; omega)]
      have := (List.pairwise_iff_getElem.1 h) (j - 1) j (by omega) hj' (by omega)
      simp
      right
      omega

set_option maxHeartbeats 400000 in
theorem compact_none (n c : Nat) (h : n < 2) (A : Option Addr) (w : World) : Calls Tryz.prog 88 #[.slice A n c] w fun e w' => e = .returned (.slice A n c) ∧ w = w' := by
  go_enter Tryz.func88, Tryz.ntmps88
  go_wp2
  go_ret
  exact ⟨rfl, rfl⟩

open Go.Sort in
theorem compact_own (base : Nat) (v : Value) (xs : List Int) (w : World) (h : w.ownsRow base 2 1 v xs.length (nums .i64 xs)) (hs : xs.Pairwise (· ≤ ·)) (hb : xs.length ≤ 100000) :
    Calls Tryz.prog 88 #[v] w fun e w' => ∃ A m c, e = .returned (.slice A m c) ∧ m ≤ xs.length ∧ (m = xs.length ↔ xs.Pairwise (· < ·)) ∧ w.grownBy w' v.ownBlock := by
  by_cases h0 : xs.length < 2
  · obtain ⟨A, c, rfl⟩ := own_slice h
    refine (compact_none _ c h0 A w).mono ?_
    rintro e w' ⟨rfl, rfl⟩
    refine ⟨_, _, _, rfl, Nat.le_refl _, ⟨fun _ => ?_, fun _ => rfl⟩, ⟨rfl, rfl, rfl, Nat.le_refl _, fun _ _ _ => rfl⟩⟩
    match xs, h0 with
    | [], _ => exact List.Pairwise.nil
    | [x], _ => simp
  · rcases h.2 with ⟨_, hn⟩ | ⟨g, cap, cur, rfl, hb1, hg, hc1, hc2, hcs, htk⟩
    · omega
    · have hH : Holds (Value.int .i64) w g 0 xs.toArray := by
        intro j hj
        have hj' : j < xs.length := by simpa using hj
        refine ⟨?_, blk_frozen hg _⟩
        rw [Nat.zero_add, blk_cell hg]
        have h1 : (cur.toList.take (xs.length * 1))[j]? = some (.int .i64 xs[j]) := by rw [htk]; simp [nums, hj']
        rw [List.getElem?_take] at h1
        split at h1
        · rw [getElem!_pos xs.toArray j (by simpa using hj)]
          simpa using h1
        · cases h1
      have hcl := compact_len xs hs
      have hc := AnyE.slices_Compact Tryz.laysSlE43_f88 (Value.int .i64) (fun _ => rfl) (EqlAt.intD _ _ _) (NeqAt.intD _ _ _) (0 : Int) (fun w => by kernel_rfl) g 0 cap xs.toArray w hH (by simp; omega) (by simpa using hc1)
      have hc' : Calls Tryz.prog 88 #[.slice (some ⟨g, 0, none⟩) xs.length cap] w _ := hc
      refine hc'.mono ?_
      rintro e w' ⟨rfl, q, rfl⟩
      refine ⟨_, _, _, rfl, by simpa using hcl.1, by simpa using hcl.2, ⟨rfl, rfl, rfl, by simp [putRow, mapBlock, Go.Sort.ahead], fun k hk hne => ?_⟩⟩
      have hkg : k ≠ g := fun e => hne (by simp [Value.ownBlock, e])
      unfold putRow mapBlock
      have : (Go.Sort.ahead w q).heap = w.heap := rfl
      simp only [this, Array.getElem?_modify]
      rw [if_neg (Ne.symm hkg)]
end Go.Proofs.YthkmblgehdofmaaGreat.R


namespace Go.Proofs.YthkmblgehdofmaaGreat.R
open Go.RowKit Go.Lab Go.Proofs.YthkmblgehdofmaaGreatW.PrintWords Go.Proofs.YthkmblgehdofmaaGreatW.PrintLast Go.Proofs.YthkmblgehdofmaaGreatW.PrintMore PL

/-- the state of read behind k nodes -/
structure Rd1 (w wr : World) (d : Bool) (s1 s2 : Value) (ys : List Int) (vi : Value) : Prop where
  g : wr.heap[w.heap.size]? = some (.cells #[.bool d, s1, s2] 26 (0, 0))
  p : wr.heap[w.heap.size + 1]? = some (.cells #[vi, .slice none 0 0, .slice none 0 0] 66 (0, 0))
  own : wr.ownsRow w.heap.size 2 1 vi ys.length (nums .i64 ys)
  bel : Below w.heap.size w wr

def Rd1Ok (w wr : World) (d : Bool) (s1 s2 : Value) (ys : List Int) : Prop := ∃ vi, Rd1 w wr d s1 s2 ys vi

theorem Rd1.step {w wr w1 : World} {d : Bool} {s1 s2 : Value} {ys : List Int} {vi : Value} {x : Int} {v' : Value} (h : Rd1 w wr d s1 s2 ys vi)
    (hown : w1.ownsRow w.heap.size 2 1 v' (ys.length + 1) (nums .i64 ys ++ [.int .i64 x])) (hg : wr.grownBy w1 vi.ownBlock) :
    Rd1 w (w1.setCell ⟨w.heap.size + 1, 0, none⟩ v') d s1 s2 (ys ++ [x]) v' := by
  have hne1 : ∀ {k : Nat} {c : Array Value} {e : TypeId}, wr.heap[k]? = some (.cells c e (0,0)) → e ≠ 2 → w1.heap[k]? = wr.heap[k]? := by
    intro k c e hk he
    refine hg.block k (blk_lt hk) (fun hc => ?_)
    obtain ⟨c', hc'⟩ := own_block h.own hc.symm
    exact he (blk_type hk hc')
  refine ⟨?_, ?_, ?_, ?_⟩
  · rw [Below.heap_setCell _ _ _ _ (by simp), hne1 h.g (by decide)]; exact h.g
  · have := (hne1 h.p (by decide)).trans h.p
    have := blk_set this 0 v'
    simpa using this
  · have h2 : w1.heap[w.heap.size + 1]? = some (.cells #[vi, .slice none 0 0, .slice none 0 0] 66 (0, 0)) := (hne1 h.p (by decide)).trans h.p
    have h3 : w1.ownsRow w.heap.size 2 1 v' (ys ++ [x]).length (nums .i64 (ys ++ [x])) := by simpa [nums] using hown
    refine own_of_heap h3 (fun k hk => ?_)
    obtain ⟨c, hc⟩ := own_block h3 hk
    rw [Below.heap_setCell _ _ _ _ (by rintro rfl; exact absurd (blk_type hc h2) (by decide))]
  · exact (h.bel.grown hg h.bel.size (fun k hk => own_base h.own k hk)).setCell (by simp) _

theorem Rd1.far {w wr : World} {d : Bool} {s1 s2 : Value} {ys : List Int} {vi : Value} (h : Rd1 w wr d s1 s2 ys vi) {w1 : World} (hg : wr.grownBy w1 vi.ownBlock) {k : Nat} {c : Array Value} {e : TypeId} (hk : wr.heap[k]? = some (.cells c e (0,0))) (he : e ≠ 2) : w1.heap[k]? = wr.heap[k]? :=
  hg.block k (blk_lt hk) (fun hc => by
    obtain ⟨c', hc'⟩ := own_block h.own hc.symm
    exact he (blk_type hk hc'))

theorem Rd1.sorted {w wr w1 : World} {d : Bool} {s1 s2 : Value} {ys ys' : List Int} {vi : Value} (h : Rd1 w wr d s1 s2 ys vi) (hl : ys'.length = ys.length)
    (hown : w1.ownsRow w.heap.size 2 1 vi ys.length (nums .i64 ys')) (hg : wr.grownBy w1 vi.ownBlock) : Rd1 w w1 d s1 s2 ys' vi :=
  ⟨(h.far hg h.g (by decide)).trans h.g, (h.far hg h.p (by decide)).trans h.p, by rw [hl]; exact hown, h.bel.grown hg h.bel.size (fun k hk => own_base h.own k hk)⟩

theorem Rd1.below {w wr w1 : World} {d : Bool} {s1 s2 : Value} {ys : List Int} {vi : Value} (h : Rd1 w wr d s1 s2 ys vi) (hb : Below wr.heap.size wr w1) : Rd1 w w1 d s1 s2 ys vi :=
  ⟨(hb.block _ (blk_lt h.g)).trans h.g, (hb.block _ (blk_lt h.p)).trans h.p, h.own.kept (grown_of_below hb none) (by cases vi.ownBlock <;> simp), h.bel.trans (hb.mono h.bel.size)⟩

theorem Tryz.info83 : (Tryz.prog.info? 83).map (fun i => (i.zero, i.size, i.bytes)) = some (some (.slice none 0 0), 1, 24) := by kernel_rfl

/-- the graph with no edges -/
def pl0 (ids : List Int) : Pl := ⟨ids, List.replicate ids.length [], List.replicate ids.length []⟩

theorem pl0_good (ids : List Int) (h : ids.length ≤ 1000) : (pl0 ids).Good := by
  have hr : ∀ i, GoodRow ids.length ((List.replicate ids.length ([] : List (Int × Nat))).getD i []) := by
    intro i
    have : (List.replicate ids.length ([] : List (Int × Nat))).getD i [] = [] := by
      rw [List.getD_eq_getElem?_getD, List.getElem?_replicate]; split <;> rfl
    rw [this]
    exact ⟨List.Pairwise.nil, by simp⟩
  exact ⟨h, hr, hr⟩

theorem rows0 {w : World} {base : Nat} {n : Nat} : ∀ i (h : i < (List.replicate n (Value.slice none 0 0)).length), w.ownsRow base 85 2 (List.replicate n (Value.slice none 0 0))[i] ((List.replicate n ([] : List (Int × Nat))).getD i []).length (fl ((List.replicate n ([] : List (Int × Nat))).getD i [])) := by
  intro i h
  have : (List.replicate n ([] : List (Int × Nat))).getD i [] = [] := by
    rw [List.getD_eq_getElem?_getD, List.getElem?_replicate]; split <;> rfl
  rw [this, List.getElem_replicate]
  exact World.ownsRow_nil _ _ _ _

theorem apart_nil (v : Value) : ApartS (.slice none 0 0) v := fun k hk => by simp [Value.ownBlock] at hk

theorem made_toList (n : Nat) : (madeCells #[Value.slice none 0 0] n).toList = List.replicate n (Value.slice none 0 0) := by
  apply List.ext_getElem
  · simp [madeCells]
  · intro i h1 h2
    simp [madeCells, Nat.mod_one]

/-- the two tables just made -/
theorem pl0_ok {w wr w1 : World} {d : Bool} {s1 s2 vi : Value} {ids : List Int} (h : Rd1 w wr d s1 s2 ids vi) (ga gb : Nat) (hab : ga ≠ gb) (ha : wr.heap.size ≤ ga) (hb : wr.heap.size ≤ gb) (hlen : ids.length ≤ 1000)
    (h1 : w1.heap[ga]? = some (.cells (madeCells #[.slice none 0 0] ids.length) 83 (0, 0))) (h2 : w1.heap[gb]? = some (.cells (madeCells #[.slice none 0 0] ids.length) 83 (0, 0)))
    (hp : w1.heap[w.heap.size + 1]? = some (.cells #[vi, .slice (some ⟨ga, 0, none⟩) ids.length ids.length, .slice (some ⟨gb, 0, none⟩) ids.length ids.length] 66 (0, 0)))
    (hk : ∀ k, k < wr.heap.size → k ≠ w.heap.size + 1 → w1.heap[k]? = wr.heap[k]?) : PlOk w1 w.heap.size (w.heap.size + 1) (pl0 ids) := by
  have hsz := h.bel.size
  have hown : ∀ g, w.heap.size ≤ g → w1.heap[g]? = some (.cells (madeCells #[.slice none 0 0] ids.length) 83 (0, 0)) →
      w1.ownsRow w.heap.size 83 1 (.slice (some ⟨g, 0, none⟩) ids.length ids.length) (List.replicate ids.length (Value.slice none 0 0)).length (List.replicate ids.length (Value.slice none 0 0)) := by
    intro g hg hh
    refine ⟨by simp, .inr ⟨g, ids.length, _, by simp, hg, hh, by simp, by unfold maxLen; omega, by simp [size_madeCells], ?_⟩⟩
    rw [made_toList, List.length_replicate, Nat.mul_one, List.take_of_length_le (by simp)]
  refine ⟨List.replicate ids.length (.slice none 0 0), List.replicate ids.length (.slice none 0 0), vi, _, _, ⟨hp, by omega, ?_, ⟨hown ga (by omega) h1, hown gb (by omega) h2, ?_, ?_, rows0, rows0, ?_, ?_, ?_, ?_⟩, ?_, ?_⟩⟩
  · refine own_of_heap h.own (fun k hk1 => ?_)
    obtain ⟨c, hc⟩ := own_block h.own hk1
    refine hk k (blk_lt hc) ?_
    rintro rfl
    exact absurd (blk_type hc h.p) (by decide)
  · simp [pl0]
  · simp [pl0]
  · intro k h1 h2
    simp [Value.ownBlock] at h1 h2
    omega
  · intro i j hi hj _
    rw [List.getElem_replicate]; exact apart_nil _
  · intro i j hi hj _
    rw [List.getElem_replicate]; exact apart_nil _
  · intro i j hi hj
    rw [List.getElem_replicate]; exact apart_nil _
  · simp [pl0]
  · simp [pl0]

theorem two_tables {w wr : World} {d : Bool} {s1 s2 vi : Value} {ids : List Int} (h : Rd1 w wr d s1 s2 ids vi) (hlen : ids.length ≤ 1000) (n : Nat) (hn : n = ids.length) (NC : Array Value) (hNC : NC = madeCells #[.slice none 0 0] n) (ga gb : Nat)
    (hab : (ga = wr.heap.size ∧ gb = wr.heap.size + 1) ∨ (ga = wr.heap.size + 1 ∧ gb = wr.heap.size)) :
    PlOk ((((wr.setCell ⟨w.heap.size + 1, 1, none⟩ (.slice (some ⟨ga, 0, none⟩) n n)).setCell ⟨w.heap.size + 1, 2, none⟩ (.slice (some ⟨gb, 0, none⟩) n n)).alloc (.cells NC 83)).alloc (.cells NC 83)).drew w.heap.size (w.heap.size + 1) (pl0 ids) ∧
    ((((wr.setCell ⟨w.heap.size + 1, 1, none⟩ (.slice (some ⟨ga, 0, none⟩) n n)).setCell ⟨w.heap.size + 1, 2, none⟩ (.slice (some ⟨gb, 0, none⟩) n n)).alloc (.cells NC 83)).alloc (.cells NC 83)).drew.heap[w.heap.size]? = some (.cells #[.bool d, s1, s2] 26 (0, 0)) ∧
    Below w.heap.size w ((((wr.setCell ⟨w.heap.size + 1, 1, none⟩ (.slice (some ⟨ga, 0, none⟩) n n)).setCell ⟨w.heap.size + 1, 2, none⟩ (.slice (some ⟨gb, 0, none⟩) n n)).alloc (.cells NC 83)).alloc (.cells NC 83)).drew := by
  subst hn hNC
  obtain ⟨X, hX⟩ : ∃ X, X = (wr.setCell ⟨w.heap.size + 1, 1, none⟩ (.slice (some ⟨ga, 0, none⟩) ids.length ids.length)).setCell ⟨w.heap.size + 1, 2, none⟩ (.slice (some ⟨gb, 0, none⟩) ids.length ids.length) := ⟨_, rfl⟩
  have hxs : X.heap.size = wr.heap.size := by rw [hX]; simp [World.setCell]
  have hxb : ∀ k, k ≠ w.heap.size + 1 → X.heap[k]? = wr.heap[k]? := by
    intro k hk
    rw [hX, Below.heap_setCell _ _ _ _ hk, Below.heap_setCell _ _ _ _ hk]
  have hxp : X.heap[w.heap.size + 1]? = some (.cells #[vi, .slice (some ⟨ga, 0, none⟩) ids.length ids.length, .slice (some ⟨gb, 0, none⟩) ids.length ids.length] 66 (0, 0)) := by
    rw [hX]
    have h1 := blk_set h.p 1 (.slice (some ⟨ga, 0, none⟩) ids.length ids.length)
    have h2 := blk_set h1 2 (.slice (some ⟨gb, 0, none⟩) ids.length ids.length)
    simpa using h2
  rw [← hX]
  have hpl := blk_lt h.p
  have hA : ((X.alloc (.cells (madeCells #[.slice none 0 0] ids.length) 83)).alloc (.cells (madeCells #[.slice none 0 0] ids.length) 83)).drew.heap[wr.heap.size]? = some (.cells (madeCells #[.slice none 0 0] ids.length) 83 (0, 0)) := by
    show ((X.alloc _).alloc _).heap[_]? = _
    rw [Below.heap_alloc _ _ _ (by simp [hxs]), ← hxs]; exact heap_alloc_new _ _
  have hB : ((X.alloc (.cells (madeCells #[.slice none 0 0] ids.length) 83)).alloc (.cells (madeCells #[.slice none 0 0] ids.length) 83)).drew.heap[wr.heap.size + 1]? = some (.cells (madeCells #[.slice none 0 0] ids.length) 83 (0, 0)) := by
    show ((X.alloc _).alloc _).heap[_]? = _
    have := heap_alloc_new (X.alloc (.cells (madeCells #[.slice none 0 0] ids.length) 83)) (.cells (madeCells #[.slice none 0 0] ids.length) 83)
    rw [show (X.alloc (.cells (madeCells #[.slice none 0 0] ids.length) 83)).heap.size = wr.heap.size + 1 by simp [hxs]] at this
    exact this
  have hold : ∀ k, k < wr.heap.size → ((X.alloc (.cells (madeCells #[.slice none 0 0] ids.length) 83)).alloc (.cells (madeCells #[.slice none 0 0] ids.length) 83)).drew.heap[k]? = X.heap[k]? := by
    intro k hk
    show ((X.alloc _).alloc _).heap[_]? = _
    rw [Below.heap_alloc _ _ _ (by simp [hxs]; omega), Below.heap_alloc _ _ _ (by rw [hxs]; exact hk)]
  refine ⟨?_, ?_, ?_⟩
  · refine pl0_ok h ga gb (by omega) (by omega) (by omega) hlen ?_ ?_ ((hold _ hpl).trans hxp) (fun k hk hne => (hold k hk).trans (hxb k hne))
    · rcases hab with ⟨h1, _⟩ | ⟨h1, _⟩ <;> rw [h1] <;> assumption
    · rcases hab with ⟨_, h1⟩ | ⟨_, h1⟩ <;> rw [h1] <;> assumption
  · rw [hold _ (blk_lt h.g), hxb _ (by omega)]; exact h.g
  · have h1 : Below w.heap.size w X := by
      rw [hX]; exact (h.bel.setCell (by simp) _).setCell (by simp) _
    exact ((h1.alloc h1.size _).alloc (by simp; have := h1.size; omega) _).drew

/-- an edge that joins two of the nodes, with a weight that is not too great -/
def goodE (zs : List Int) (e : S29) : Bool := decide (e.f0 ∈ zs) && decide (e.f1 ∈ zs) && !decide (e.f0 = e.f1) && !decide (1099511627776 < e.f2) && !decide (e.f2 < -1099511627776)
def layE (d : Bool) (p : Pl) (e : S29) : Pl := p.lay (rank p.ids e.f0) (rank p.ids e.f1) (floatOfInt .f64 e.f2) d
/-- the plain graph of lists of nodes and edges -/
def plOf (d : Bool) (zs : List Int) (es : List S29) : Pl := es.foldl (layE d) (pl0 (srt zs))
/-- whether a graph is good -/
def readOk (zs : List Int) (es : List S29) : Bool := decide ((srt zs).Pairwise (· < ·)) && es.all (goodE zs)

theorem Rows2.below {w w1 : World} {base : Nat} {A B : List (List (Int × Nat))} {ra rb : List Value} {va vb : Value} (h : Rows2 w base A B ra rb va vb) (hb : Below w.heap.size w w1) : Rows2 w1 base A B ra rb va vb := by
  have hk : ∀ {e : TypeId} {size n : Nat} {v : Value} {xs : List Value}, w.ownsRow base e size v n xs → w1.ownsRow base e size v n xs := fun h => pw_own_below h hb
  exact ⟨hk h.a, hk h.b, h.la, h.lb, fun i hi => hk (h.rowA i hi), fun i hi => hk (h.rowB i hi), h.sepT, h.sepA, h.sepB, h.sepAB⟩

theorem PlOk.below {w w1 : World} {base bp : Nat} {p : Pl} (h : PlOk w base bp p) (hb : Below w.heap.size w w1) : PlOk w1 base bp p := by
  obtain ⟨ro, ri, vi, vo, vn, hp⟩ := h
  exact ⟨ro, ri, vi, vo, vn, (hb.block _ (blk_lt hp.blk)).trans hp.blk, hp.hb, pw_own_below hp.ids hb, hp.rows.below hb, hp.po, hp.pi⟩

theorem PlOk.lt {w : World} {base bp : Nat} {p : Pl} (h : PlOk w base bp p) : bp < w.heap.size := by
  obtain ⟨ro, ri, vi, vo, vn, hp⟩ := h
  exact blk_lt hp.blk

theorem pl_index (base bp : Nat) (p : Pl) (t : Int) (w : World) (h : PlOk w base bp p) (hs : p.ids.Pairwise (· < ·)) (hb : p.ids.length ≤ 1000) :
    Calls Tryz.prog 50 #[.pointer (some ⟨bp, 0, none⟩), .int .i64 t] w fun e w' => e = .returned (.tuple #[.int .i64 (rank p.ids t), .bool (decide (t ∈ p.ids))]) ∧ w = w' := by
  obtain ⟨ro, ri, vi, vo, vn, hp⟩ := h
  exact index_any base bp vi p.ids t w (by rw [blk_cell hp.blk]; rfl) hp.ids hs hb

/-- the ways through read's test of an edge -/
theorem edge_ways {zs : List Int} (hs : (srt zs).Pairwise (· < ·)) (e : S29) :
    (goodE zs e = true ∧ (decide (e.f0 ∈ srt zs) = true ∧ decide (e.f1 ∈ srt zs) = true ∧ (((rank (srt zs) e.f0 : Nat) : Int) == ((rank (srt zs) e.f1 : Nat) : Int)) = false ∧ decide (1099511627776 < e.f2) = false ∧ decide (e.f2 < -1099511627776) = false)) ∨
    (goodE zs e = false ∧ (decide (e.f0 ∈ srt zs) = false ∨
      (decide (e.f0 ∈ srt zs) = true ∧ decide (e.f1 ∈ srt zs) = false) ∨
      (decide (e.f0 ∈ srt zs) = true ∧ decide (e.f1 ∈ srt zs) = true ∧ (((rank (srt zs) e.f0 : Nat) : Int) == ((rank (srt zs) e.f1 : Nat) : Int)) = true) ∨
      (decide (e.f0 ∈ srt zs) = true ∧ decide (e.f1 ∈ srt zs) = true ∧ (((rank (srt zs) e.f0 : Nat) : Int) == ((rank (srt zs) e.f1 : Nat) : Int)) = false ∧ decide (1099511627776 < e.f2) = true) ∨
      (decide (e.f0 ∈ srt zs) = true ∧ decide (e.f1 ∈ srt zs) = true ∧ (((rank (srt zs) e.f0 : Nat) : Int) == ((rank (srt zs) e.f1 : Nat) : Int)) = false ∧ decide (1099511627776 < e.f2) = false ∧ decide (e.f2 < -1099511627776) = true))) := by
  have hm0 : decide (e.f0 ∈ zs) = decide (e.f0 ∈ srt zs) := by simp [mem_srt]
  have hm1 : decide (e.f1 ∈ zs) = decide (e.f1 ∈ srt zs) := by simp [mem_srt]
  have hr : decide (e.f0 ∈ srt zs) = true → decide (e.f1 ∈ srt zs) = true → (((rank (srt zs) e.f0 : Nat) : Int) == ((rank (srt zs) e.f1 : Nat) : Int)) = decide (e.f0 = e.f1) := by
    intro h0 h1
    obtain ⟨a0, b0⟩ := (rank_mem hs _).1 (of_decide_eq_true h0)
    obtain ⟨a1, b1⟩ := (rank_mem hs _).1 (of_decide_eq_true h1)
    by_cases he : e.f0 = e.f1
    · rw [decide_eq_true he, he]; simp
    · rw [decide_eq_false he]
      simp only [beq_eq_false_iff_ne, ne_eq]
      intro h
      have h' : rank (srt zs) e.f0 = rank (srt zs) e.f1 := by omega
      apply he
      rw [← b0, ← b1]
      simp [h']
  unfold goodE
  rw [hm0, hm1]
  generalize decide (e.f0 ∈ srt zs) = x0 at *
  generalize decide (e.f1 ∈ srt zs) = x1 at *
  generalize (((rank (srt zs) e.f0 : Nat) : Int) == ((rank (srt zs) e.f1 : Nat) : Int)) = x2 at *
  generalize decide (1099511627776 < e.f2) = x3
  generalize decide (e.f2 < -1099511627776) = x4
  generalize decide (e.f0 = e.f1) = x5 at *
  revert hr
  cases x0 <;> cases x1 <;> cases x2 <;> cases x3 <;> cases x4 <;> cases x5 <;> simp

/-- the state of read behind k edges -/
structure Rd2 (w wr : World) (d : Bool) (s1 s2 : Value) (zs : List Int) (es : List S29) : Prop where
  all : es.all (goodE zs) = true
  ok : PlOk wr w.heap.size (w.heap.size + 1) (plOf d zs es)
  g : wr.heap[w.heap.size]? = some (.cells #[.bool d, s1, s2] 26 (0, 0))
  bel : Below w.heap.size w wr

theorem foldl_ids (d : Bool) : ∀ (es : List S29) (p : Pl), (es.foldl (layE d) p).ids = p.ids
  | [], _ => rfl
  | e :: es, p => by
    rw [List.foldl_cons, foldl_ids d es]
    unfold layE Pl.lay
    split <;> rfl

theorem plOf_ids (d : Bool) (zs : List Int) (es : List S29) : (plOf d zs es).ids = srt zs := foldl_ids d es _

theorem plOf_snoc (d : Bool) (zs : List Int) (es : List S29) (e : S29) : plOf d zs (es ++ [e]) = layE d (plOf d zs es) e := by
  unfold plOf; rw [List.foldl_append]; rfl

theorem goodE_rank {zs : List Int} (h : (srt zs).Pairwise (· < ·)) {e : S29} (hg : goodE zs e = true) : rank (srt zs) e.f0 < (srt zs).length ∧ rank (srt zs) e.f1 < (srt zs).length := by
  unfold goodE at hg
  simp only [Bool.and_eq_true, decide_eq_true_eq] at hg
  obtain ⟨⟨⟨⟨h1, h2⟩, _⟩, _⟩, _⟩ := hg
  exact ⟨((rank_mem h _).1 ((mem_srt _ _).2 h1)).1, ((rank_mem h _).1 ((mem_srt _ _).2 h2)).1⟩

theorem plOf_good (d : Bool) (zs : List Int) (hz : zs.length ≤ 1000) (h : (srt zs).Pairwise (· < ·)) : ∀ (es : List S29), es.all (goodE zs) = true → (plOf d zs es).Good := by
  intro es hes
  unfold plOf
  suffices hh : ∀ (es : List S29) (p : Pl), p.ids = srt zs → p.Good → es.all (goodE zs) = true → (es.foldl (layE d) p).Good from hh es _ rfl (pl0_good _ (by rw [srt_length]; exact hz)) hes
  intro es
  induction es with
  | nil => intro p _ hp _; exact hp
  | cons e es ih =>
    intro p hi hp ha
    rw [List.all_cons, Bool.and_eq_true] at ha
    rw [List.foldl_cons]
    have hr := goodE_rank h ha.1
    have h2 : (layE d p e).ids = srt zs := by rw [← hi]; unfold layE Pl.lay; split <;> rfl
    refine ih _ h2 ?_ ha.2
    unfold layE
    rw [hi]
    exact hp.lay _ _ _ d (by rw [hi]; exact hr.1) (by rw [hi]; exact hr.2)

end Go.Proofs.YthkmblgehdofmaaGreat.R


namespace Go.Proofs.YthkmblgehdofmaaGreat.R
open Go.RowKit Go.Lab Go.Proofs.YthkmblgehdofmaaGreatW.PrintWords Go.Proofs.YthkmblgehdofmaaGreatW.PrintLast Go.Proofs.YthkmblgehdofmaaGreatW.PrintMore PL

/-- the row of a node -/
def Pl.row (p : Pl) (u : Int) : List (Int × Nat) := p.out.getD (rank p.ids u) []
/-- the arc from a node to another one -/
def Pl.find (p : Pl) (u v : Int) : Option (Int × Nat) :=
  if u ∈ p.ids ∧ v ∈ p.ids ∧ ((rank p.ids v : Nat) : Int) ∈ keys (p.row u) then (p.row u)[rank (keys (p.row u)) ((rank p.ids v : Nat) : Int)]? else none

theorem Below.up {B : Nat} {w W w' : World} (h : Below B w W) (k : Below W.heap.size W w') (hB : B ≤ w.heap.size) : Below B w w' := h.trans (k.mono (Nat.le_trans hB h.size))

/-- whether there is an edge from u to v -/
def Pl.has (p : Pl) (u v : Int) : Bool := (p.find u v).isSome

end Go.Proofs.YthkmblgehdofmaaGreat.R


/- Frames: what changes between two places of the heap alone. -/
namespace Go.Proofs.YthkmblgehdofmaaGreat.R
open Go.RowKit Go.Lab Go.Proofs.YthkmblgehdofmaaGreatW.PrintWords Go.Proofs.YthkmblgehdofmaaGreatW.PrintLast Go.Proofs.YthkmblgehdofmaaGreatW.PrintMore PL

def nodeV (x : Int) : Value := .iface 71 (.int .i64 x)
theorem Tryz.info89 : (Tryz.prog.info? 89).map (fun i => (i.zero, i.size, i.bytes)) = some (some .nilIface, 1, 16) := by kernel_rfl
def nodeVs (xs : List Int) : List Value := xs.map nodeV

/-- of what was there, what lies from lo on and below B alone may change -/
structure Mid (lo B : Nat) (w w' : World) : Prop where
  os : w'.os = w.os
  tape : w'.tape = w.tape
  output : w'.output = w.output
  size : w.heap.size ≤ w'.heap.size
  block : ∀ k, k < w.heap.size → (k < lo ∨ B ≤ k) → w'.heap[k]? = w.heap[k]?

theorem Mid.refl (lo B : Nat) (w : World) : Mid lo B w w := ⟨rfl, rfl, rfl, Nat.le_refl _, fun _ _ _ => rfl⟩
theorem Mid.trans {lo B : Nat} {a b c : World} (h : Mid lo B a b) (k : Mid lo B b c) : Mid lo B a c :=
  ⟨k.os.trans h.os, k.tape.trans h.tape, k.output.trans h.output, Nat.le_trans h.size k.size, fun i hi ho => (k.block i (Nat.lt_of_lt_of_le hi h.size) ho).trans (h.block i hi ho)⟩
theorem Mid.below {lo B : Nat} {w w' : World} (h : Mid lo B w w') (hlo : lo ≤ w.heap.size) : Below lo w w' :=
  ⟨h.os, h.tape, h.output, h.size, fun k hk => h.block k (by omega) (.inl hk)⟩
theorem Mid.of_below {lo B : Nat} {w w' : World} (h : Below w.heap.size w w') : Mid lo B w w' :=
  ⟨h.os, h.tape, h.output, h.size, fun k hk _ => h.block k hk⟩
theorem Mid.of_grown {lo B : Nat} {w w' : World} {row : Option Nat} (h : w.grownBy w' row) (hr : ∀ k, row = some k → k < w.heap.size → lo ≤ k ∧ k < B) : Mid lo B w w' :=
  ⟨h.os, h.tape, h.output, h.size, fun k hk ho => h.block k hk (fun e => by have := hr k e.symm hk; omega)⟩
theorem Mid.set {lo B : Nat} (w : World) (a : Addr) (v : Value) (h1 : lo ≤ a.block) (h2 : a.block < B) : Mid lo B w (w.setCell a v) :=
  ⟨rfl, rfl, rfl, by simp [World.setCell], fun k _ ho => Below.heap_setCell _ _ _ _ (by omega)⟩
theorem Mid.wide {lo B lo' B' : Nat} {w w' : World} (h : Mid lo B w w') (h1 : lo' ≤ lo) (h2 : B ≤ B') : Mid lo' B' w w' :=
  ⟨h.os, h.tape, h.output, h.size, fun k hk ho => h.block k hk (by omega)⟩
theorem Mid.own {lo B : Nat} {w w' : World} (h : Mid lo B w w') {base : Nat} {e : TypeId} {size n : Nat} {v : Value} {xs : List Value} (ho : w.ownsRow base e size v n xs) (hk : ∀ k, v.ownBlock = some k → k < lo ∨ B ≤ k) : w'.ownsRow base e size v n xs :=
  own_move ho fun k hv => by
    obtain ⟨c, hc⟩ := own_block ho hv
    exact h.block k (blk_lt hc) (hk k hv)

/-- an iterator over nodes in order, in block b; k - 1 is its place -/
structure OIt (lo B : Nat) (w : World) (b : Nat) (xs : List Int) (k : Nat) : Prop where
  ex : ∃ v, w.heap[b]? = some (.cells #[.int .i64 ((k : Int) - 1), v] 220 (0, 0)) ∧ w.ownsRow lo 89 1 v xs.length (nodeVs xs) ∧ (∀ q, v.ownBlock = some q → q < B)
  hb : lo ≤ b ∧ b < B
  hk : k ≤ xs.length + 1

theorem OIt.far {lo B : Nat} {w w' : World} {b : Nat} {xs : List Int} {k : Nat} (h : OIt lo B w b xs k) (hk : ∀ q, lo ≤ q → q < B → w'.heap[q]? = w.heap[q]?) : OIt lo B w' b xs k := by
  obtain ⟨v, h1, h2, h3⟩ := h.ex
  exact ⟨⟨v, (hk b h.hb.1 h.hb.2).trans h1, own_move h2 (fun q hq => hk q (own_base h2 q hq) (h3 q hq)), h3⟩, h.hb, h.hk⟩

theorem OIt.lt {lo B : Nat} {w : World} {b : Nat} {xs : List Int} {k : Nat} (h : OIt lo B w b xs k) : b < w.heap.size := by
  obtain ⟨v, h1, _⟩ := h.ex
  exact blk_lt h1

theorem OIt.to {lo B : Nat} {w : World} {b : Nat} {xs : List Int} {k : Nat} (h : OIt lo B w b xs k) (k' : Nat) (hk : k' ≤ xs.length + 1) : OIt lo B (w.setCell ⟨b, 0, none⟩ (.int .i64 ((k' : Int) - 1))) b xs k' := by
  obtain ⟨v, h1, h2, h3⟩ := h.ex
  refine ⟨⟨v, ?_, ?_, h3⟩, h.hb, hk⟩
  · have := blk_set h1 0 (.int .i64 ((k' : Int) - 1))
    simpa using this
  · refine own_move h2 fun q hq => Below.heap_setCell _ _ _ _ ?_
    rintro rfl
    obtain ⟨c, hc⟩ := own_block h2 hq
    exact absurd (blk_type h1 hc) (by decide)

/-- the same iterator, seen from wider places -/
theorem OIt.wide {lo B lo' B' : Nat} {w : World} {b : Nat} {xs : List Int} {k : Nat} (h : OIt lo B w b xs k) (h1 : lo' ≤ lo) (h2 : B ≤ B') : OIt lo' B' w b xs k := by
  obtain ⟨v, e1, e2, e3⟩ := h.ex
  exact ⟨⟨v, e1, own_less e2 h1, fun q hq => Nat.lt_of_lt_of_le (e3 q hq) h2⟩, ⟨Nat.le_trans h1 h.hb.1, Nat.lt_of_lt_of_le h.hb.2 h2⟩, h.hk⟩
end Go.Proofs.YthkmblgehdofmaaGreat.R


namespace Go.Proofs.YthkmblgehdofmaaGreat.R
open Go.RowKit Go.Lab Go.Proofs.YthkmblgehdofmaaGreatW.PrintWords Go.Proofs.YthkmblgehdofmaaGreatW.PrintLast Go.Proofs.YthkmblgehdofmaaGreatW.PrintMore PL

end Go.Proofs.YthkmblgehdofmaaGreat.R


/- impl.read once more: also what is read of a bad graph can be searched. -/
namespace Go.Proofs.YthkmblgehdofmaaGreat.R
open Go.RowKit Go.Lab Go.Proofs.YthkmblgehdofmaaGreatW.PrintWords Go.Proofs.YthkmblgehdofmaaGreatW.PrintLast Go.Proofs.YthkmblgehdofmaaGreatW.PrintMore Go.Proofs.YthkmblgehdofmaaGreat.PL

/-- the row of nodes is there, whatever is in it -/
def IdsAt (w : World) (base bp : Nat) : Prop := ∃ vi ids, w.cell? ⟨bp, 0, none⟩ = some vi ∧ w.ownsRow base 2 1 vi ids.length (nums .i64 ids) ∧ ids.length ≤ 1000
theorem ids_of_pl {w : World} {base bp : Nat} {p : Pl} (h : PlOk w base bp p) (hn : p.ids.length ≤ 1000) : IdsAt w base bp := by
  obtain ⟨ro, ri, vi, vo, vn, hp⟩ := h
  exact ⟨vi, p.ids, by rw [blk_cell hp.blk]; rfl, hp.ids, hn⟩
theorem ids_of_rd {w W : World} {d : Bool} {v1 v2 vi : Value} {ids : List Int} (h : Rd1 w W d v1 v2 ids vi) (hn : ids.length ≤ 1000) : IdsAt W w.heap.size (w.heap.size + 1) :=
  ⟨vi, ids, by rw [blk_cell h.p]; rfl, h.own, hn⟩

set_option maxHeartbeats 4000000 in
set_option maxRecDepth 100000 in
theorem read_any2 (d : Bool) (A1 A2 : Option Addr) (c1 c2 : Nat) (zs : List Int) (es : List S29) (w : World)
    (hN : Kd.C (Kd.int .i64) w A1 zs.length zs) (hE : Kd.C k29 w A2 es.length es) (hn : zs.length ≤ 1000) (he : es.length ≤ 1000000) :
    Calls Tryz.prog 60 #[.agg #[.bool d, .slice A1 zs.length c1, .slice A2 es.length c2]] w fun e w' => e = .returned (.tuple #[.pointer (some ⟨w.heap.size + 1, 0, none⟩), .bool (readOk zs es)]) ∧ Below w.heap.size w w' ∧ IdsAt w' w.heap.size (w.heap.size + 1) ∧ (readOk zs es = true → PlOk w' w.heap.size (w.heap.size + 1) (plOf d zs es)) := by
  have HN := Aside0.mk hN
  have HE := Aside0.mk hE
  obtain ⟨i0, hi, hz0, hz1, hz2⟩ := info_parts Tryz.info2
  have HI := Aside0.mk (And.intro hi (And.intro hz0 (And.intro hz1 hz2)))
  clear hN hE hi hz0 hz1 hz2
  go_enter Tryz.func60, Tryz.ntmps60
  go_wp2
  go_loopw [18] (fun i wr => ∃ k : Nat, k ≤ zs.length ∧ i = .int .i64 k ∧ Aside0 (Rd1Ok w wr d (.slice A1 zs.length c1) (.slice A2 es.length c2) (zs.take k))) (fun i _ => zs.length - (intOf i).toNat)
  case atStart =>
    refine ⟨0, Nat.zero_le _, rfl, ⟨.slice none 0 0, ?_, ?_, World.ownsRow_nil _ _ _ _, ?_⟩⟩
    · rw [Below.heap_alloc _ _ _ (by simp)]; exact heap_alloc_new _ _
    · have := heap_alloc_new (w.alloc (Obj.cells #[Value.bool d, Value.slice A1 zs.length c1, Value.slice A2 es.length c2] 26)) (Obj.cells #[Value.slice none 0 0, Value.slice none 0 0, Value.slice none 0 0] 66)
      simpa using this
    · exact ((Below.refl _ w).alloc (Nat.le_refl _) _).alloc (by simp) _
  case round =>
    obtain ⟨k, hk, rfl, hR⟩ := hrel
    obtain ⟨vi, hR⟩ := hR.out
    have hp0 : wr.cell? ⟨w.heap.size + 1, 0, none⟩ = some vi := by rw [blk_cell hR.p]; rfl
    obtain ⟨V, c, hvi⟩ := own_slice hR.own
    have hl : (zs.take k).length = k := by rw [List.length_take]; omega
    have HR := Aside0.mk hR
    have HL := Aside0.mk hl
    by_cases hlt : k < zs.length
    · obtain ⟨ad, rfl, hc⟩ := C_int_at (Kd.C_below HN.out ⟨hR.bel.os, hR.bel.tape, hR.bel.output, hR.bel.size, hR.bel.block⟩) k hlt
      have hbz := hR.bel.size
      have hzz := blk_lt hR.p
      have hts : zs.take (k + 1) = zs.take k ++ [zs.getD k 0] := by
        rw [List.take_succ_eq_append_getElem hlt]; simp [List.getD_eq_getElem?_getD, hlt]
      have HTS := Aside0.mk hts
      clear hts hl hR hvi
      generalize zs.getD k 0 = x at hc HTS
      go_wp2_with (at_builtin; refine wpList_append_own _ rfl _ _ 63 rfl w.heap.size 2 i0 (.int .i64 0) 1 8 Tryz.underlying63 HI.out.1 HI.out.2.1 HI.out.2.2.1 HI.out.2.2.2 rfl (by decide) _ k (nums .i64 (zs.take k)) rfl (World.ownsRow.alloc (by have := HR.out.own; rwa [HL.out] at this) _) ⟨wr.heap.size, 0, none⟩ 1 1 [.int .i64 x] rfl rfl (cell_one_new _ _ _) ?q2 ?q3 ?q4 ?q5 ?_)
      case q2 => intro u hu; simp at hu; subst hu; rfl
      case q3 => unfold maxLen; omega
      case q4 => omega
      case q5 => simp; omega
      intro v' w1 hown hgr _
      obtain ⟨V', c', hv'⟩ := own_slice hown
      subst hv'
      have hstep := HR.out.step (by rw [HL.out]; exact hown) ((World.grownBy_alloc _ _ _).trans hgr)
      have HSTEP := Aside0.mk hstep
      have hq := ((World.grownBy_alloc wr _ _).trans hgr).block (w.heap.size + 1) hzz (fun hc => by
        obtain ⟨c', hc'⟩ := own_block HR.out.own hc.symm
        exact absurd (blk_type HR.out.p hc') (by decide))
      have hp1 : w1.cell? ⟨w.heap.size + 1, 0, none⟩ = some vi := by rw [World.cell?_of_block (a := ⟨w.heap.size + 1, 0, none⟩) hq]; exact hp0
      have hp2 : w1.frozen? ⟨w.heap.size + 1, 0, none⟩ = false := by rw [World.frozen?_of_block (a := ⟨w.heap.size + 1, 0, none⟩) hq]; exact blk_frozen HR.out.p _
      clear hown hgr hstep hq hp0
      go_wp2
      go_roundw
      case rel => exact ⟨k + 1, by omega, by go_num, ⟨_, by rw [HTS.out]; exact HSTEP.out⟩⟩
      case measure => simp [intOf]; omega
    · have hk' : k = zs.length := by omega
      have hz : zs.take k = zs := by rw [hk', List.take_length]
      rw [hz] at hR HR hvi
      subst hvi
      have hbz := hR.bel.size
      have hzz := blk_lt hR.p
      clear hz hl hR HL
      go_wp2_with (go_at_call 87; refine (sort_own w.heap.size _ zs _ HR.out.own (by omega)).mono ?_; rintro e w1 ⟨rfl, hown, hgr⟩; have HR1 := Aside0.mk (HR.out.sorted (srt_length zs) hown hgr); clear hown hgr)
      have hp1 : w1.cell? ⟨w.heap.size + 1, 0, none⟩ = some (.slice V zs.length c) := by rw [blk_cell HR1.out.p]; rfl
      have hz1 := blk_lt HR1.out.p
      have hle := srt_le zs
      have HLE := Aside0.mk hle
      have HSL := Aside0.mk (srt_length zs)
      clear hle
      go_region_held3 (fun w' => w'.cell? ⟨w.heap.size + 1, 0, none⟩ = some (.slice V zs.length c))
        (first
          | (rw [hbc.cell (p := ⟨w.heap.size + 1, 0, none⟩) hz1]; assumption)
          | (rw [hgc.cell_far ⟨w.heap.size + 1, 0, none⟩ hz2 hnec]; assumption)
          | go_keep)
        (first
          | (go_at_call 89; refine (clone64_own w.heap.size _ (srt zs) _ (by have := HR1.out.own; rw [HSL.out] at this ⊢; exact this) (by rw [HSL.out]; omega)).mono ?_; rintro e w2 ⟨v2, rfl, hown2, hbc⟩; have hz2 := Nat.lt_of_lt_of_le hz1 hbc.size; have hnec : some (w.heap.size + 1) ≠ v2.ownBlock := (fun e => by have h1 := own_base hown2 _ e.symm; have h2 : w1.heap.size ≤ w.heap.size + 1 := h1; omega))
          | (go_at_call 88; refine (compact_own _ v2 (srt zs) _ hown2 HLE.out (by rw [HSL.out]; omega)).mono ?_; rintro e w3 ⟨A3, m3, c3, rfl, hm3, hm4, hgc⟩))
      have hbb : Below w1.heap.size w1 w3 := by
        have h1 : Below w1.heap.size w1 w2 := ⟨hbc.os, hbc.tape, hbc.output, hbc.size, hbc.block⟩
        exact h1.grown hgc h1.size (fun k hk => own_base hown2 k hk)
      have HR3 := Aside0.mk (HR1.out.below hbb)
      rw [srt_length] at hm3 hm4
      have HM := Aside0.mk hm4
      clear hm4 hbb hbc hgc hown2 hz2 hnec
      by_cases hnd : (srt zs).Pairwise (· < ·)
      · have hm3' : m3 = zs.length := HM.out.2 hnd
        have hmm : ((m3 : Int) != (zs.length : Int)) = false := by simp [hm3']
        have HND := Aside0.mk hnd
        clear hm3' hnd
        go_upto_region 10 with fail
        go_cut [] from 33 (fun w' => Aside0 (PlOk w' w.heap.size (w.heap.size + 1) (pl0 (srt zs)) ∧ w'.heap[w.heap.size]? = some (.cells #[.bool d, .slice A1 zs.length c1, .slice A2 es.length c2] 26 (0, 0)) ∧ Below w.heap.size w w'))
        case first =>
          have hq0 : w3.cell? ⟨w.heap.size + 1, 0, none⟩ = some (.slice V zs.length c) := by rw [blk_cell HR3.out.p]; rfl
          have hq1 : w3.cell? ⟨w.heap.size + 1, 1, none⟩ = some (.slice none 0 0) := by rw [blk_cell HR3.out.p]; rfl
          have hq2 : w3.cell? ⟨w.heap.size + 1, 2, none⟩ = some (.slice none 0 0) := by rw [blk_cell HR3.out.p]; rfl
          have hf1 := blk_frozen HR3.out.p 1
          have hf2 := blk_frozen HR3.out.p 2
          have hz3 := blk_lt HR3.out.p
          have hz4 : w.heap.size < w3.heap.size := by omega
          obtain ⟨NC, hNC⟩ : ∃ NC, NC = madeCells #[Value.slice none 0 0] zs.length := ⟨_, rfl⟩
          have hmk : ∀ W : World, (Instr.makeSlice 64 (.int .i64 (zs.length : Int)) (.int .i64 (zs.length : Int))).run Tryz.prog W = .ok (.slice (some ⟨W.heap.size, 0, none⟩) zs.length zs.length) (W.alloc (.cells NC 83)) := fun W => by
            rw [hNC]; exact run_make_row' 64 83 _ 24 Tryz.underlying64 Tryz.info83 rfl .i64 .i64 zs.length (by omega) (by omega) W
          have HNC := Aside0.mk hNC
          clear hNC
          go_region
          all_goals
            go_wp2
            go_meet
            case rel => first | exact ⟨two_tables HR3.out (by rw [srt_length]; exact hn) _ (srt_length zs).symm NC HNC.out _ _ (.inl ⟨rfl, rfl⟩)⟩ | exact ⟨two_tables HR3.out (by rw [srt_length]; exact hn) _ (srt_length zs).symm NC HNC.out _ _ (.inr ⟨rfl, rfl⟩)⟩
        case rest =>
          obtain ⟨hq1, hq2, hq3⟩ := hcut
          have hg1 : wc.cell? ⟨w.heap.size, 2, none⟩ = some (.slice A2 es.length c2) := by rw [blk_cell hq2]; rfl
          have HQ := Aside0.mk (show Rd2 w wc d (.slice A1 zs.length c1) (.slice A2 es.length c2) zs (es.take 0) from ⟨rfl, hq1, hq2, hq3⟩)
          clear hq1 hq2 hq3
          go_wp2
          go_loopw [73] (fun i wr => ∃ k : Nat, k ≤ es.length ∧ i = .int .i64 k ∧ Aside0 (Rd2 w wr d (.slice A1 zs.length c1) (.slice A2 es.length c2) zs (es.take k))) (fun i _ => es.length - (intOf i).toNat)
          case atStart => exact ⟨0, Nat.zero_le _, rfl, HQ⟩
          case round =>
            clear HQ hg1
            obtain ⟨k, hk, rfl, hQ⟩ := hrel
            by_cases hlt : k < es.length
            · obtain ⟨ad, rfl, hc0, hc1, hc2⟩ := at_T38 (Kd.C_below HE.out ⟨hQ.out.bel.os, hQ.out.bel.tape, hQ.out.bel.output, hQ.out.bel.size, hQ.out.bel.block⟩) (k : Int) (by omega) (by omega)
              rw [Int.toNat_natCast] at hc0 hc1 hc2
              have hrd : rd_T38 es (k : Int) = es[k] := by unfold rd_T38; simp [List.getD_eq_getElem?_getD, hlt]
              have hts : es.take (k + 1) = es.take k ++ [rd_T38 es (k : Int)] := by rw [hrd]; exact List.take_succ_eq_append_getElem hlt
              have hal : es.all (goodE zs) = true → goodE zs (rd_T38 es (k : Int)) = true := fun h => by rw [hrd]; exact (List.all_eq_true.1 h) _ (List.getElem_mem _)
              have HTS := Aside0.mk hts
              have HAL := Aside0.mk hal
              clear hrd hts hal
              generalize rd_T38 es (k : Int) = e at hc0 hc1 hc2 HTS HAL
              have hw8 : Below wr.heap.size wr (wr.alloc (.cells #[.int .i64 e.f0, .int .i64 e.f1, .int .i64 e.f2] 29)) := (Below.refl _ _).alloc (Nat.le_refl _) _
              have HP8 := Aside0.mk (hQ.out.ok.below hw8)
              have HID := Aside0.mk (plOf_ids d zs (es.take k))
              have HSO := Aside0.mk (show (plOf d zs (es.take k)).ids.Pairwise (· < ·) by rw [HID.out]; exact HND.out)
              have HLE2 := Aside0.mk (show (plOf d zs (es.take k)).ids.length ≤ 1000 by rw [HID.out, srt_length]; exact hn)
              clear hw8
              have hgd : wr.cell? ⟨w.heap.size, 0, none⟩ = some (.bool d) := by rw [blk_cell hQ.out.g]; rfl
              have hbz := blk_lt hQ.out.g
              rcases edge_ways HND.out e with ⟨hgo, m0, m1, m2, m3, m4⟩ | ⟨hbad, hways⟩
              · have HGO := Aside0.mk hgo
                clear hgo
                have hr := goodE_rank HND.out HGO.out
                have HRK := Aside0.mk hr
                clear hr
                have hpg := plOf_good d zs hn HND.out (es.take k) hQ.out.all
                have HPG := Aside0.mk hpg
                clear hpg
                go_wp2_with (first | (go_at_call 50; refine (pl_index w.heap.size (w.heap.size + 1) (plOf d zs (es.take k)) _ _ HP8.out HSO.out HLE2.out).mono ?_; rintro e' w' ⟨rfl, rfl⟩; rw [HID.out]) | (go_at_call 90; refine (lay_any w.heap.size (w.heap.size + 1) (plOf d zs (es.take k)) (rank (srt zs) e.f0) (rank (srt zs) e.f1) _ d _ HP8.out HPG.out (by rw [HID.out]; exact HRK.out.1) (by rw [HID.out]; exact HRK.out.2) (by simp; omega)).mono ?_; rintro e' w4 ⟨rfl, hok4, hbl4, hkt4⟩))
                go_roundw
                case rel =>
                  refine ⟨k + 1, by omega, by go_num, ⟨?_, ?_, ?_, ?_⟩⟩
                  · rw [HTS.out, List.all_append, hQ.out.all]; simp [HGO.out]
                  · rw [HTS.out, plOf_snoc]; unfold layE; rw [HID.out]; exact hok4
                  · exact (hkt4 _ _ _ ((Below.heap_alloc _ _ _ hbz).trans hQ.out.g) (by decide) (by decide)).trans ((Below.heap_alloc _ _ _ hbz).trans hQ.out.g)
                  · exact (hQ.out.bel.alloc hQ.out.bel.size _).trans hbl4
                case measure => simp [intOf]; omega
              · have HBAD := Aside0.mk hbad
                clear hbad
                rcases hways with m0 | ⟨m0, m1⟩ | ⟨m0, m1, m2⟩ | ⟨m0, m1, m2, m3⟩ | ⟨m0, m1, m2, m3, m4⟩
                all_goals
                  have hro : readOk zs es = false := by
                    cases h : readOk zs es with
                    | false => rfl
                    | true =>
                      unfold readOk at h
                      rw [Bool.and_eq_true] at h
                      have := HAL.out h.2
                      rw [HBAD.out] at this; cases this
                  have HRO := Aside0.mk hro
                  clear hro
                  go_wp2_with (go_at_call 50; refine (pl_index w.heap.size (w.heap.size + 1) (plOf d zs (es.take k)) _ _ HP8.out HSO.out HLE2.out).mono ?_; rintro e' w' ⟨rfl, rfl⟩; rw [HID.out])
                  go_ret2
                  exact ⟨by rw [HRO.out]; rfl, hQ.out.bel.alloc hQ.out.bel.size _, ids_of_pl HP8.out HLE2.out, fun h => by rw [HRO.out] at h; cases h⟩
            · have hk' : k = es.length := by omega
              have hts : es.take k = es := by rw [hk', List.take_length]
              have h1 := hQ.out
              rw [hts] at h1
              have hro : readOk zs es = true := by unfold readOk; rw [decide_eq_true HND.out, h1.all]; rfl
              have HRO := Aside0.mk hro
              have H1 := Aside0.mk h1
              clear hro h1 hts hQ
              go_wp2
              go_ret2
              exact ⟨by rw [HRO.out]; rfl, H1.out.bel, ids_of_pl H1.out.ok (by rw [plOf_ids, srt_length]; exact hn), fun _ => H1.out.ok⟩
      · have hmm : ((m3 : Int) != (zs.length : Int)) = true := by
          simp
          intro e
          exact hnd (HM.out.1 (by omega))
        have hro : readOk zs es = false := by unfold readOk; rw [decide_eq_false hnd]; rfl
        have HRO := Aside0.mk hro
        clear hro hnd
        go_wp2
        go_ret2
        exact ⟨by rw [HRO.out]; rfl, HR3.out.bel, ids_of_rd HR3.out (by rw [srt_length]; exact hn), fun h => by rw [HRO.out] at h; cases h⟩
end Go.Proofs.YthkmblgehdofmaaGreat.R

