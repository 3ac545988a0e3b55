import Derived.Test.YtlokbaljkmblaaaJ
import Derived.Deep.RegionHeld3
import Derived.Laws.MakeOwn
import Derived.Laws.Cover2
import Derived.BigRegion
import Derived.Deep.Cut
namespace Go.Proofs.Ytlokbaljkmblaaa
open Go.RowKit Go.Lab Go.Proofs.YtlokbaljkmblaaaW.PrintWords Go.Proofs.YtlokbaljkmblaaaW.PrintLast Go.Proofs.YtlokbaljkmblaaaW.PrintMore PFnIsPathJoined

/-- the state of read behind k nodes -/
structure Rd1 (w wr : World) (d : Bool) (s1 s2 : Value) (ys : List Int) (vi : Value) : Prop where
  g : wr.heap[w.heap.size]? = some (.cells #[.bool d, s1, s2] 25 (0, 0))
  p : wr.heap[w.heap.size + 1]? = some (.cells #[vi, .slice none 0 0, .slice none 0 0] 63 (0, 0))
  own : wr.ownsRow w.heap.size 2 1 vi ys.length (nums .i64 ys)
  bel : Below w.heap.size w wr

def Rd1Ok (w wr : World) (d : Bool) (s1 s2 : Value) (ys : List Int) : Prop := ∃ vi, Rd1 w wr d s1 s2 ys vi

theorem Rd1.step {w wr w1 : World} {d : Bool} {s1 s2 : Value} {ys : List Int} {vi : Value} {x : Int} {v' : Value} (h : Rd1 w wr d s1 s2 ys vi)
    (hown : w1.ownsRow w.heap.size 2 1 v' (ys.length + 1) (nums .i64 ys ++ [.int .i64 x])) (hg : wr.grownBy w1 vi.ownBlock) :
    Rd1 w (w1.setCell ⟨w.heap.size + 1, 0, none⟩ v') d s1 s2 (ys ++ [x]) v' := by
  have hne1 : ∀ {k : Nat} {c : Array Value} {e : TypeId}, wr.heap[k]? = some (.cells c e (0,0)) → e ≠ 2 → w1.heap[k]? = wr.heap[k]? := by
    intro k c e hk he
    refine hg.block k (blk_lt hk) (fun hc => ?_)
    obtain ⟨c', hc'⟩ := own_block h.own hc.symm
    exact he (blk_type hk hc')
  refine ⟨?_, ?_, ?_, ?_⟩
  · rw [Below.heap_setCell _ _ _ _ (by simp), hne1 h.g (by decide)]; exact h.g
  · have := (hne1 h.p (by decide)).trans h.p
    have := blk_set this 0 v'
    simpa using this
  · have h2 : w1.heap[w.heap.size + 1]? = some (.cells #[vi, .slice none 0 0, .slice none 0 0] 63 (0, 0)) := (hne1 h.p (by decide)).trans h.p
    have h3 : w1.ownsRow w.heap.size 2 1 v' (ys ++ [x]).length (nums .i64 (ys ++ [x])) := by simpa [nums] using hown
    refine own_of_heap h3 (fun k hk => ?_)
    obtain ⟨c, hc⟩ := own_block h3 hk
    rw [Below.heap_setCell _ _ _ _ (by rintro rfl; exact absurd (blk_type hc h2) (by decide))]
  · exact (h.bel.grown hg h.bel.size (fun k hk => own_base h.own k hk)).setCell (by simp) _

theorem Rd1.far {w wr : World} {d : Bool} {s1 s2 : Value} {ys : List Int} {vi : Value} (h : Rd1 w wr d s1 s2 ys vi) {w1 : World} (hg : wr.grownBy w1 vi.ownBlock) {k : Nat} {c : Array Value} {e : TypeId} (hk : wr.heap[k]? = some (.cells c e (0,0))) (he : e ≠ 2) : w1.heap[k]? = wr.heap[k]? :=
  hg.block k (blk_lt hk) (fun hc => by
    obtain ⟨c', hc'⟩ := own_block h.own hc.symm
    exact he (blk_type hk hc'))

theorem Rd1.sorted {w wr w1 : World} {d : Bool} {s1 s2 : Value} {ys ys' : List Int} {vi : Value} (h : Rd1 w wr d s1 s2 ys vi) (hl : ys'.length = ys.length)
    (hown : w1.ownsRow w.heap.size 2 1 vi ys.length (nums .i64 ys')) (hg : wr.grownBy w1 vi.ownBlock) : Rd1 w w1 d s1 s2 ys' vi :=
  ⟨(h.far hg h.g (by decide)).trans h.g, (h.far hg h.p (by decide)).trans h.p, by rw [hl]; exact hown, h.bel.grown hg h.bel.size (fun k hk => own_base h.own k hk)⟩

theorem Rd1.below {w wr w1 : World} {d : Bool} {s1 s2 : Value} {ys : List Int} {vi : Value} (h : Rd1 w wr d s1 s2 ys vi) (hb : Below wr.heap.size wr w1) : Rd1 w w1 d s1 s2 ys vi :=
  ⟨(hb.block _ (blk_lt h.g)).trans h.g, (hb.block _ (blk_lt h.p)).trans h.p, h.own.kept (grown_of_below hb none) (by cases vi.ownBlock <;> simp), h.bel.trans (hb.mono h.bel.size)⟩

theorem Try.info74 : (Try.prog.info? 74).map (fun i => (i.zero, i.size, i.bytes)) = some (some (.slice none 0 0), 1, 24) := by kernel_rfl

/-- the graph with no edges -/
def pl0 (ids : List Int) : Pl := ⟨ids, List.replicate ids.length [], List.replicate ids.length []⟩

theorem pl0_good (ids : List Int) (h : ids.length ≤ 1000) : (pl0 ids).Good := by
  have hr : ∀ i, GoodRow ids.length ((List.replicate ids.length ([] : List (Int × Nat))).getD i []) := by
    intro i
    have : (List.replicate ids.length ([] : List (Int × Nat))).getD i [] = [] := by
      rw [List.getD_eq_getElem?_getD, List.getElem?_replicate]; split <;> rfl
    rw [this]
    exact ⟨List.Pairwise.nil, by simp⟩
  exact ⟨h, hr, hr⟩

theorem rows0 {w : World} {base : Nat} {n : Nat} : ∀ i (h : i < (List.replicate n (Value.slice none 0 0)).length), w.ownsRow base 90 2 (List.replicate n (Value.slice none 0 0))[i] ((List.replicate n ([] : List (Int × Nat))).getD i []).length (fl ((List.replicate n ([] : List (Int × Nat))).getD i [])) := by
  intro i h
  have : (List.replicate n ([] : List (Int × Nat))).getD i [] = [] := by
    rw [List.getD_eq_getElem?_getD, List.getElem?_replicate]; split <;> rfl
  rw [this, List.getElem_replicate]
  exact World.ownsRow_nil _ _ _ _

theorem apart_nil (v : Value) : ApartS (.slice none 0 0) v := fun k hk => by simp [Value.ownBlock] at hk

theorem made_toList (n : Nat) : (madeCells #[Value.slice none 0 0] n).toList = List.replicate n (Value.slice none 0 0) := by
  apply List.ext_getElem
  · simp [madeCells]
  · intro i h1 h2
    simp [madeCells, Nat.mod_one]

/-- the two tables just made -/
theorem pl0_ok {w wr w1 : World} {d : Bool} {s1 s2 vi : Value} {ids : List Int} (h : Rd1 w wr d s1 s2 ids vi) (ga gb : Nat) (hab : ga ≠ gb) (ha : wr.heap.size ≤ ga) (hb : wr.heap.size ≤ gb) (hlen : ids.length ≤ 1000)
    (h1 : w1.heap[ga]? = some (.cells (madeCells #[.slice none 0 0] ids.length) 74 (0, 0))) (h2 : w1.heap[gb]? = some (.cells (madeCells #[.slice none 0 0] ids.length) 74 (0, 0)))
    (hp : w1.heap[w.heap.size + 1]? = some (.cells #[vi, .slice (some ⟨ga, 0, none⟩) ids.length ids.length, .slice (some ⟨gb, 0, none⟩) ids.length ids.length] 63 (0, 0)))
    (hk : ∀ k, k < wr.heap.size → k ≠ w.heap.size + 1 → w1.heap[k]? = wr.heap[k]?) : PlOk w1 w.heap.size (w.heap.size + 1) (pl0 ids) := by
  have hsz := h.bel.size
  have hown : ∀ g, w.heap.size ≤ g → w1.heap[g]? = some (.cells (madeCells #[.slice none 0 0] ids.length) 74 (0, 0)) →
      w1.ownsRow w.heap.size 74 1 (.slice (some ⟨g, 0, none⟩) ids.length ids.length) (List.replicate ids.length (Value.slice none 0 0)).length (List.replicate ids.length (Value.slice none 0 0)) := by
    intro g hg hh
    refine ⟨by simp, .inr ⟨g, ids.length, _, by simp, hg, hh, by simp, by unfold maxLen; omega, by simp [size_madeCells], ?_⟩⟩
    rw [made_toList, List.length_replicate, Nat.mul_one, List.take_of_length_le (by simp)]
  refine ⟨List.replicate ids.length (.slice none 0 0), List.replicate ids.length (.slice none 0 0), vi, _, _, ⟨hp, by omega, ?_, ⟨hown ga (by omega) h1, hown gb (by omega) h2, ?_, ?_, rows0, rows0, ?_, ?_, ?_, ?_⟩, ?_, ?_⟩⟩
  · refine own_of_heap h.own (fun k hk1 => ?_)
    obtain ⟨c, hc⟩ := own_block h.own hk1
    refine hk k (blk_lt hc) ?_
    rintro rfl
    exact absurd (blk_type hc h.p) (by decide)
  · simp [pl0]
  · simp [pl0]
  · intro k h1 h2
    simp [Value.ownBlock] at h1 h2
    omega
  · intro i j hi hj _
    rw [List.getElem_replicate]; exact apart_nil _
  · intro i j hi hj _
    rw [List.getElem_replicate]; exact apart_nil _
  · intro i j hi hj
    rw [List.getElem_replicate]; exact apart_nil _
  · simp [pl0]
  · simp [pl0]

theorem two_tables {w wr : World} {d : Bool} {s1 s2 vi : Value} {ids : List Int} (h : Rd1 w wr d s1 s2 ids vi) (hlen : ids.length ≤ 1000) (n : Nat) (hn : n = ids.length) (NC : Array Value) (hNC : NC = madeCells #[.slice none 0 0] n) (ga gb : Nat)
    (hab : (ga = wr.heap.size ∧ gb = wr.heap.size + 1) ∨ (ga = wr.heap.size + 1 ∧ gb = wr.heap.size)) :
    PlOk ((((wr.setCell ⟨w.heap.size + 1, 1, none⟩ (.slice (some ⟨ga, 0, none⟩) n n)).setCell ⟨w.heap.size + 1, 2, none⟩ (.slice (some ⟨gb, 0, none⟩) n n)).alloc (.cells NC 74)).alloc (.cells NC 74)).drew w.heap.size (w.heap.size + 1) (pl0 ids) ∧
    ((((wr.setCell ⟨w.heap.size + 1, 1, none⟩ (.slice (some ⟨ga, 0, none⟩) n n)).setCell ⟨w.heap.size + 1, 2, none⟩ (.slice (some ⟨gb, 0, none⟩) n n)).alloc (.cells NC 74)).alloc (.cells NC 74)).drew.heap[w.heap.size]? = some (.cells #[.bool d, s1, s2] 25 (0, 0)) ∧
    Below w.heap.size w ((((wr.setCell ⟨w.heap.size + 1, 1, none⟩ (.slice (some ⟨ga, 0, none⟩) n n)).setCell ⟨w.heap.size + 1, 2, none⟩ (.slice (some ⟨gb, 0, none⟩) n n)).alloc (.cells NC 74)).alloc (.cells NC 74)).drew := by
  subst hn hNC
  obtain ⟨X, hX⟩ : ∃ X, X = (wr.setCell ⟨w.heap.size + 1, 1, none⟩ (.slice (some ⟨ga, 0, none⟩) ids.length ids.length)).setCell ⟨w.heap.size + 1, 2, none⟩ (.slice (some ⟨gb, 0, none⟩) ids.length ids.length) := ⟨_, rfl⟩
  have hxs : X.heap.size = wr.heap.size := by rw [hX]; simp [World.setCell]
  have hxb : ∀ k, k ≠ w.heap.size + 1 → X.heap[k]? = wr.heap[k]? := by
    intro k hk
    rw [hX, Below.heap_setCell _ _ _ _ hk, Below.heap_setCell _ _ _ _ hk]
  have hxp : X.heap[w.heap.size + 1]? = some (.cells #[vi, .slice (some ⟨ga, 0, none⟩) ids.length ids.length, .slice (some ⟨gb, 0, none⟩) ids.length ids.length] 63 (0, 0)) := by
    rw [hX]
    have h1 := blk_set h.p 1 (.slice (some ⟨ga, 0, none⟩) ids.length ids.length)
    have h2 := blk_set h1 2 (.slice (some ⟨gb, 0, none⟩) ids.length ids.length)
    simpa using h2
  rw [← hX]
  have hpl := blk_lt h.p
  have hA : ((X.alloc (.cells (madeCells #[.slice none 0 0] ids.length) 74)).alloc (.cells (madeCells #[.slice none 0 0] ids.length) 74)).drew.heap[wr.heap.size]? = some (.cells (madeCells #[.slice none 0 0] ids.length) 74 (0, 0)) := by
    show ((X.alloc _).alloc _).heap[_]? = _
    rw [Below.heap_alloc _ _ _ (by simp [hxs]), ← hxs]; exact heap_alloc_new _ _
  have hB : ((X.alloc (.cells (madeCells #[.slice none 0 0] ids.length) 74)).alloc (.cells (madeCells #[.slice none 0 0] ids.length) 74)).drew.heap[wr.heap.size + 1]? = some (.cells (madeCells #[.slice none 0 0] ids.length) 74 (0, 0)) := by
    show ((X.alloc _).alloc _).heap[_]? = _
    have := heap_alloc_new (X.alloc (.cells (madeCells #[.slice none 0 0] ids.length) 74)) (.cells (madeCells #[.slice none 0 0] ids.length) 74)
    rw [show (X.alloc (.cells (madeCells #[.slice none 0 0] ids.length) 74)).heap.size = wr.heap.size + 1 by simp [hxs]] at this
    exact this
  have hold : ∀ k, k < wr.heap.size → ((X.alloc (.cells (madeCells #[.slice none 0 0] ids.length) 74)).alloc (.cells (madeCells #[.slice none 0 0] ids.length) 74)).drew.heap[k]? = X.heap[k]? := by
    intro k hk
    show ((X.alloc _).alloc _).heap[_]? = _
    rw [Below.heap_alloc _ _ _ (by simp [hxs]; omega), Below.heap_alloc _ _ _ (by rw [hxs]; exact hk)]
  refine ⟨?_, ?_, ?_⟩
  · refine pl0_ok h ga gb (by omega) (by omega) (by omega) hlen ?_ ?_ ((hold _ hpl).trans hxp) (fun k hk hne => (hold k hk).trans (hxb k hne))
    · rcases hab with ⟨h1, _⟩ | ⟨h1, _⟩ <;> rw [h1] <;> assumption
    · rcases hab with ⟨_, h1⟩ | ⟨_, h1⟩ <;> rw [h1] <;> assumption
  · rw [hold _ (blk_lt h.g), hxb _ (by omega)]; exact h.g
  · have h1 : Below w.heap.size w X := by
      rw [hX]; exact (h.bel.setCell (by simp) _).setCell (by simp) _
    exact ((h1.alloc h1.size _).alloc (by simp; have := h1.size; omega) _).drew

/-- an edge that joins two of the nodes, with a weight that is not too great -/
def goodE (zs : List Int) (e : S42) : Bool := decide (e.f0 ∈ zs) && decide (e.f1 ∈ zs) && !decide (e.f0 = e.f1) && !decide (1099511627776 < e.f2) && !decide (e.f2 < -1099511627776)
def layE (d : Bool) (p : Pl) (e : S42) : Pl := p.lay (rank p.ids e.f0) (rank p.ids e.f1) (floatOfInt .f64 e.f2) d
/-- the plain graph of lists of nodes and edges -/
def plOf (d : Bool) (zs : List Int) (es : List S42) : Pl := es.foldl (layE d) (pl0 (srt zs))
/-- whether a graph is good -/
def readOk (zs : List Int) (es : List S42) : Bool := decide ((srt zs).Pairwise (· < ·)) && es.all (goodE zs)

theorem Rows2.below {w w1 : World} {base : Nat} {A B : List (List (Int × Nat))} {ra rb : List Value} {va vb : Value} (h : Rows2 w base A B ra rb va vb) (hb : Below w.heap.size w w1) : Rows2 w1 base A B ra rb va vb := by
  have hk : ∀ {e : TypeId} {size n : Nat} {v : Value} {xs : List Value}, w.ownsRow base e size v n xs → w1.ownsRow base e size v n xs := fun h => pw_own_below h hb
  exact ⟨hk h.a, hk h.b, h.la, h.lb, fun i hi => hk (h.rowA i hi), fun i hi => hk (h.rowB i hi), h.sepT, h.sepA, h.sepB, h.sepAB⟩

theorem PlOk.below {w w1 : World} {base bp : Nat} {p : Pl} (h : PlOk w base bp p) (hb : Below w.heap.size w w1) : PlOk w1 base bp p := by
  obtain ⟨ro, ri, vi, vo, vn, hp⟩ := h
  exact ⟨ro, ri, vi, vo, vn, (hb.block _ (blk_lt hp.blk)).trans hp.blk, hp.hb, pw_own_below hp.ids hb, hp.rows.below hb, hp.po, hp.pi⟩

theorem PlOk.lt {w : World} {base bp : Nat} {p : Pl} (h : PlOk w base bp p) : bp < w.heap.size := by
  obtain ⟨ro, ri, vi, vo, vn, hp⟩ := h
  exact blk_lt hp.blk

theorem pl_index (base bp : Nat) (p : Pl) (t : Int) (w : World) (h : PlOk w base bp p) (hs : p.ids.Pairwise (· < ·)) (hb : p.ids.length ≤ 1000) :
    Calls Try.prog 20 #[.pointer (some ⟨bp, 0, none⟩), .int .i64 t] w fun e w' => e = .returned (.tuple #[.int .i64 (rank p.ids t), .bool (decide (t ∈ p.ids))]) ∧ w = w' := by
  obtain ⟨ro, ri, vi, vo, vn, hp⟩ := h
  exact index_any base bp vi p.ids t w (by rw [blk_cell hp.blk]; rfl) hp.ids hs hb

/-- the ways through read's test of an edge -/
theorem edge_ways {zs : List Int} (hs : (srt zs).Pairwise (· < ·)) (e : S42) :
    (goodE zs e = true ∧ (decide (e.f0 ∈ srt zs) = true ∧ decide (e.f1 ∈ srt zs) = true ∧ (((rank (srt zs) e.f0 : Nat) : Int) == ((rank (srt zs) e.f1 : Nat) : Int)) = false ∧ decide (1099511627776 < e.f2) = false ∧ decide (e.f2 < -1099511627776) = false)) ∨
    (goodE zs e = false ∧ (decide (e.f0 ∈ srt zs) = false ∨
      (decide (e.f0 ∈ srt zs) = true ∧ decide (e.f1 ∈ srt zs) = false) ∨
      (decide (e.f0 ∈ srt zs) = true ∧ decide (e.f1 ∈ srt zs) = true ∧ (((rank (srt zs) e.f0 : Nat) : Int) == ((rank (srt zs) e.f1 : Nat) : Int)) = true) ∨
      (decide (e.f0 ∈ srt zs) = true ∧ decide (e.f1 ∈ srt zs) = true ∧ (((rank (srt zs) e.f0 : Nat) : Int) == ((rank (srt zs) e.f1 : Nat) : Int)) = false ∧ decide (1099511627776 < e.f2) = true) ∨
      (decide (e.f0 ∈ srt zs) = true ∧ decide (e.f1 ∈ srt zs) = true ∧ (((rank (srt zs) e.f0 : Nat) : Int) == ((rank (srt zs) e.f1 : Nat) : Int)) = false ∧ decide (1099511627776 < e.f2) = false ∧ decide (e.f2 < -1099511627776) = true))) := by
  have hm0 : decide (e.f0 ∈ zs) = decide (e.f0 ∈ srt zs) := by simp [mem_srt]
  have hm1 : decide (e.f1 ∈ zs) = decide (e.f1 ∈ srt zs) := by simp [mem_srt]
  have hr : decide (e.f0 ∈ srt zs) = true → decide (e.f1 ∈ srt zs) = true → (((rank (srt zs) e.f0 : Nat) : Int) == ((rank (srt zs) e.f1 : Nat) : Int)) = decide (e.f0 = e.f1) := by
    intro h0 h1
    obtain ⟨a0, b0⟩ := (rank_mem hs _).1 (of_decide_eq_true h0)
    obtain ⟨a1, b1⟩ := (rank_mem hs _).1 (of_decide_eq_true h1)
    by_cases he : e.f0 = e.f1
    · rw [decide_eq_true he, he]; simp
    · rw [decide_eq_false he]
      simp only [beq_eq_false_iff_ne, ne_eq]
      intro h
      have h' : rank (srt zs) e.f0 = rank (srt zs) e.f1 := by omega
      apply he
      rw [← b0, ← b1]
      simp [h']
  unfold goodE
  rw [hm0, hm1]
  generalize decide (e.f0 ∈ srt zs) = x0 at *
  generalize decide (e.f1 ∈ srt zs) = x1 at *
  generalize (((rank (srt zs) e.f0 : Nat) : Int) == ((rank (srt zs) e.f1 : Nat) : Int)) = x2 at *
  generalize decide (1099511627776 < e.f2) = x3
  generalize decide (e.f2 < -1099511627776) = x4
  generalize decide (e.f0 = e.f1) = x5 at *
  revert hr
  cases x0 <;> cases x1 <;> cases x2 <;> cases x3 <;> cases x4 <;> cases x5 <;> simp

/-- the state of read behind k edges -/
structure Rd2 (w wr : World) (d : Bool) (s1 s2 : Value) (zs : List Int) (es : List S42) : Prop where
  all : es.all (goodE zs) = true
  ok : PlOk wr w.heap.size (w.heap.size + 1) (plOf d zs es)
  g : wr.heap[w.heap.size]? = some (.cells #[.bool d, s1, s2] 25 (0, 0))
  bel : Below w.heap.size w wr

theorem foldl_ids (d : Bool) : ∀ (es : List S42) (p : Pl), (es.foldl (layE d) p).ids = p.ids
  | [], _ => rfl
  | e :: es, p => by
    rw [List.foldl_cons, foldl_ids d es]
    unfold layE Pl.lay
    split <;> rfl

theorem plOf_ids (d : Bool) (zs : List Int) (es : List S42) : (plOf d zs es).ids = srt zs := foldl_ids d es _

theorem plOf_snoc (d : Bool) (zs : List Int) (es : List S42) (e : S42) : plOf d zs (es ++ [e]) = layE d (plOf d zs es) e := by
  unfold plOf; rw [List.foldl_append]; rfl

theorem goodE_rank {zs : List Int} (h : (srt zs).Pairwise (· < ·)) {e : S42} (hg : goodE zs e = true) : rank (srt zs) e.f0 < (srt zs).length ∧ rank (srt zs) e.f1 < (srt zs).length := by
  unfold goodE at hg
  simp only [Bool.and_eq_true, decide_eq_true_eq] at hg
  obtain ⟨⟨⟨⟨h1, h2⟩, _⟩, _⟩, _⟩ := hg
  exact ⟨((rank_mem h _).1 ((mem_srt _ _).2 h1)).1, ((rank_mem h _).1 ((mem_srt _ _).2 h2)).1⟩

theorem plOf_good (d : Bool) (zs : List Int) (hz : zs.length ≤ 1000) (h : (srt zs).Pairwise (· < ·)) : ∀ (es : List S42), es.all (goodE zs) = true → (plOf d zs es).Good := by
  intro es hes
  unfold plOf
  suffices hh : ∀ (es : List S42) (p : Pl), p.ids = srt zs → p.Good → es.all (goodE zs) = true → (es.foldl (layE d) p).Good from hh es _ rfl (pl0_good _ (by rw [srt_length]; exact hz)) hes
  intro es
  induction es with
  | nil => intro p _ hp _; exact hp
  | cons e es ih =>
    intro p hi hp ha
    rw [List.all_cons, Bool.and_eq_true] at ha
    rw [List.foldl_cons]
    have hr := goodE_rank h ha.1
    have h2 : (layE d p e).ids = srt zs := by rw [← hi]; unfold layE Pl.lay; split <;> rfl
    refine ih _ h2 ?_ ha.2
    unfold layE
    rw [hi]
    exact hp.lay _ _ _ d (by rw [hi]; exact hr.1) (by rw [hi]; exact hr.2)

set_option maxHeartbeats 4000000 in
set_option maxRecDepth 100000 in
theorem read_any (d : Bool) (A1 A2 : Option Addr) (c1 c2 : Nat) (zs : List Int) (es : List S42) (w : World)
    (hN : Kd.C (Kd.int .i64) w A1 zs.length zs) (hE : Kd.C k42 w A2 es.length es) (hn : zs.length ≤ 1000) (he : es.length ≤ 1000000) :
    Calls Try.prog 15 #[.agg #[.bool d, .slice A1 zs.length c1, .slice A2 es.length c2]] w fun e w' => e = .returned (.tuple #[.pointer (some ⟨w.heap.size + 1, 0, none⟩), .bool (readOk zs es)]) ∧ Below w.heap.size w w' ∧ (readOk zs es = true → PlOk w' w.heap.size (w.heap.size + 1) (plOf d zs es)) := by
  have HN := Aside0.mk hN
  have HE := Aside0.mk hE
  obtain ⟨i0, hi, hz0, hz1, hz2⟩ := info_parts Try.info2
  have HI := Aside0.mk (And.intro hi (And.intro hz0 (And.intro hz1 hz2)))
  clear hN hE hi hz0 hz1 hz2
  go_enter Try.func15, Try.ntmps15
  go_wp2
  go_loopw [18] (fun i wr => ∃ k : Nat, k ≤ zs.length ∧ i = .int .i64 k ∧ Aside0 (Rd1Ok w wr d (.slice A1 zs.length c1) (.slice A2 es.length c2) (zs.take k))) (fun i _ => zs.length - (intOf i).toNat)
  case atStart =>
    refine ⟨0, Nat.zero_le _, rfl, ⟨.slice none 0 0, ?_, ?_, World.ownsRow_nil _ _ _ _, ?_⟩⟩
    · rw [Below.heap_alloc _ _ _ (by simp)]; exact heap_alloc_new _ _
    · have := heap_alloc_new (w.alloc (Obj.cells #[Value.bool d, Value.slice A1 zs.length c1, Value.slice A2 es.length c2] 25)) (Obj.cells #[Value.slice none 0 0, Value.slice none 0 0, Value.slice none 0 0] 63)
      simpa using this
    · exact ((Below.refl _ w).alloc (Nat.le_refl _) _).alloc (by simp) _
  case round =>
    obtain ⟨k, hk, rfl, hR⟩ := hrel
    obtain ⟨vi, hR⟩ := hR.out
    have hp0 : wr.cell? ⟨w.heap.size + 1, 0, none⟩ = some vi := by rw [blk_cell hR.p]; rfl
    obtain ⟨V, c, hvi⟩ := own_slice hR.own
    have hl : (zs.take k).length = k := by rw [List.length_take]; omega
    have HR := Aside0.mk hR
    have HL := Aside0.mk hl
    by_cases hlt : k < zs.length
    · obtain ⟨ad, rfl, hc⟩ := C_int_at (Kd.C_below HN.out ⟨hR.bel.os, hR.bel.tape, hR.bel.output, hR.bel.size, hR.bel.block⟩) k hlt
      have hbz := hR.bel.size
      have hzz := blk_lt hR.p
      have hts : zs.take (k + 1) = zs.take k ++ [zs.getD k 0] := by
        rw [List.take_succ_eq_append_getElem hlt]; simp [List.getD_eq_getElem?_getD, hlt]
      have HTS := Aside0.mk hts
      clear hts hl hR hvi
      generalize zs.getD k 0 = x at hc HTS
      go_wp2_with (at_builtin; refine wpList_append_own _ rfl _ _ 60 rfl w.heap.size 2 i0 (.int .i64 0) 1 8 Try.underlying60 HI.out.1 HI.out.2.1 HI.out.2.2.1 HI.out.2.2.2 rfl (by decide) _ k (nums .i64 (zs.take k)) rfl (World.ownsRow.alloc (by have := HR.out.own; rwa [HL.out] at this) _) ⟨wr.heap.size, 0, none⟩ 1 1 [.int .i64 x] rfl rfl (cell_one_new _ _ _) ?q2 ?q3 ?q4 ?q5 ?_)
      case q2 => intro u hu; simp at hu; subst hu; rfl
      case q3 => unfold maxLen; omega
      case q4 => omega
      case q5 => simp; omega
      intro v' w1 hown hgr _
      obtain ⟨V', c', hv'⟩ := own_slice hown
      subst hv'
      have hstep := HR.out.step (by rw [HL.out]; exact hown) ((World.grownBy_alloc _ _ _).trans hgr)
      have HSTEP := Aside0.mk hstep
      have hq := ((World.grownBy_alloc wr _ _).trans hgr).block (w.heap.size + 1) hzz (fun hc => by
        obtain ⟨c', hc'⟩ := own_block HR.out.own hc.symm
        exact absurd (blk_type HR.out.p hc') (by decide))
      have hp1 : w1.cell? ⟨w.heap.size + 1, 0, none⟩ = some vi := by rw [World.cell?_of_block (a := ⟨w.heap.size + 1, 0, none⟩) hq]; exact hp0
      have hp2 : w1.frozen? ⟨w.heap.size + 1, 0, none⟩ = false := by rw [World.frozen?_of_block (a := ⟨w.heap.size + 1, 0, none⟩) hq]; exact blk_frozen HR.out.p _
      clear hown hgr hstep hq hp0
      go_wp2
      go_roundw
      case rel => exact ⟨k + 1, by omega, by go_num, ⟨_, by rw [HTS.out]; exact HSTEP.out⟩⟩
      case measure => simp [intOf]; omega
    · have hk' : k = zs.length := by omega
      have hz : zs.take k = zs := by rw [hk', List.take_length]
      rw [hz] at hR HR hvi
      subst hvi
      have hbz := hR.bel.size
      have hzz := blk_lt hR.p
      clear hz hl hR HL
      go_wp2_with (go_at_call 17; refine (sort_own w.heap.size _ zs _ HR.out.own (by omega)).mono ?_; rintro e w1 ⟨rfl, hown, hgr⟩; have HR1 := Aside0.mk (HR.out.sorted (srt_length zs) hown hgr); clear hown hgr)
      have hp1 : w1.cell? ⟨w.heap.size + 1, 0, none⟩ = some (.slice V zs.length c) := by rw [blk_cell HR1.out.p]; rfl
      have hz1 := blk_lt HR1.out.p
      have hle := srt_le zs
      have HLE := Aside0.mk hle
      have HSL := Aside0.mk (srt_length zs)
      clear hle
      go_region_held3 (fun w' => w'.cell? ⟨w.heap.size + 1, 0, none⟩ = some (.slice V zs.length c))
        (first
          | (rw [hbc.cell (p := ⟨w.heap.size + 1, 0, none⟩) hz1]; assumption)
          | (rw [hgc.cell_far ⟨w.heap.size + 1, 0, none⟩ hz2 hnec]; assumption)
          | go_keep)
        (first
          | (go_at_call 19; refine (clone64_own w.heap.size _ (srt zs) _ (by have := HR1.out.own; rw [HSL.out] at this ⊢; exact this) (by rw [HSL.out]; omega)).mono ?_; rintro e w2 ⟨v2, rfl, hown2, hbc⟩; have hz2 := Nat.lt_of_lt_of_le hz1 hbc.size; have hnec : some (w.heap.size + 1) ≠ v2.ownBlock := (fun e => by have h1 := own_base hown2 _ e.symm; have h2 : w1.heap.size ≤ w.heap.size + 1 := h1; omega))
          | (go_at_call 18; refine (compact_own _ v2 (srt zs) _ hown2 HLE.out (by rw [HSL.out]; omega)).mono ?_; rintro e w3 ⟨A3, m3, c3, rfl, hm3, hm4, hgc⟩))
      have hbb : Below w1.heap.size w1 w3 := by
        have h1 : Below w1.heap.size w1 w2 := ⟨hbc.os, hbc.tape, hbc.output, hbc.size, hbc.block⟩
        exact h1.grown hgc h1.size (fun k hk => own_base hown2 k hk)
      have HR3 := Aside0.mk (HR1.out.below hbb)
      rw [srt_length] at hm3 hm4
      have HM := Aside0.mk hm4
      clear hm4 hbb hbc hgc hown2 hz2 hnec
      by_cases hnd : (srt zs).Pairwise (· < ·)
      · have hm3' : m3 = zs.length := HM.out.2 hnd
        have hmm : ((m3 : Int) != (zs.length : Int)) = false := by simp [hm3']
        have HND := Aside0.mk hnd
        clear hm3' hnd
        go_upto_region 10 with fail
        go_cut [] from 33 (fun w' => Aside0 (PlOk w' w.heap.size (w.heap.size + 1) (pl0 (srt zs)) ∧ w'.heap[w.heap.size]? = some (.cells #[.bool d, .slice A1 zs.length c1, .slice A2 es.length c2] 25 (0, 0)) ∧ Below w.heap.size w w'))
        case first =>
          have hq0 : w3.cell? ⟨w.heap.size + 1, 0, none⟩ = some (.slice V zs.length c) := by rw [blk_cell HR3.out.p]; rfl
          have hq1 : w3.cell? ⟨w.heap.size + 1, 1, none⟩ = some (.slice none 0 0) := by rw [blk_cell HR3.out.p]; rfl
          have hq2 : w3.cell? ⟨w.heap.size + 1, 2, none⟩ = some (.slice none 0 0) := by rw [blk_cell HR3.out.p]; rfl
          have hf1 := blk_frozen HR3.out.p 1
          have hf2 := blk_frozen HR3.out.p 2
          have hz3 := blk_lt HR3.out.p
          have hz4 : w.heap.size < w3.heap.size := by omega
          obtain ⟨NC, hNC⟩ : ∃ NC, NC = madeCells #[Value.slice none 0 0] zs.length := ⟨_, rfl⟩
          have hmk : ∀ W : World, (Instr.makeSlice 61 (.int .i64 (zs.length : Int)) (.int .i64 (zs.length : Int))).run Try.prog W = .ok (.slice (some ⟨W.heap.size, 0, none⟩) zs.length zs.length) (W.alloc (.cells NC 74)) := fun W => by
            rw [hNC]; exact run_make_row' 61 74 _ 24 Try.underlying61 Try.info74 rfl .i64 .i64 zs.length (by omega) (by omega) W
          have HNC := Aside0.mk hNC
          clear hNC
          go_region
          all_goals
            go_wp2
            go_meet
            case rel => first | exact ⟨two_tables HR3.out (by rw [srt_length]; exact hn) _ (srt_length zs).symm NC HNC.out _ _ (.inl ⟨rfl, rfl⟩)⟩ | exact ⟨two_tables HR3.out (by rw [srt_length]; exact hn) _ (srt_length zs).symm NC HNC.out _ _ (.inr ⟨rfl, rfl⟩)⟩
        case rest =>
          obtain ⟨hq1, hq2, hq3⟩ := hcut
          have hg1 : wc.cell? ⟨w.heap.size, 2, none⟩ = some (.slice A2 es.length c2) := by rw [blk_cell hq2]; rfl
          have HQ := Aside0.mk (show Rd2 w wc d (.slice A1 zs.length c1) (.slice A2 es.length c2) zs (es.take 0) from ⟨rfl, hq1, hq2, hq3⟩)
          clear hq1 hq2 hq3
          go_wp2
          go_loopw [73] (fun i wr => ∃ k : Nat, k ≤ es.length ∧ i = .int .i64 k ∧ Aside0 (Rd2 w wr d (.slice A1 zs.length c1) (.slice A2 es.length c2) zs (es.take k))) (fun i _ => es.length - (intOf i).toNat)
          case atStart => exact ⟨0, Nat.zero_le _, rfl, HQ⟩
          case round =>
            clear HQ hg1
            obtain ⟨k, hk, rfl, hQ⟩ := hrel
            by_cases hlt : k < es.length
            · obtain ⟨ad, rfl, hc0, hc1, hc2⟩ := at_T42 (Kd.C_below HE.out ⟨hQ.out.bel.os, hQ.out.bel.tape, hQ.out.bel.output, hQ.out.bel.size, hQ.out.bel.block⟩) (k : Int) (by omega) (by omega)
              rw [Int.toNat_natCast] at hc0 hc1 hc2
              have hrd : rd_T42 es (k : Int) = es[k] := by unfold rd_T42; simp [List.getD_eq_getElem?_getD, hlt]
              have hts : es.take (k + 1) = es.take k ++ [rd_T42 es (k : Int)] := by rw [hrd]; exact List.take_succ_eq_append_getElem hlt
              have hal : es.all (goodE zs) = true → goodE zs (rd_T42 es (k : Int)) = true := fun h => by rw [hrd]; exact (List.all_eq_true.1 h) _ (List.getElem_mem _)
              have HTS := Aside0.mk hts
              have HAL := Aside0.mk hal
              clear hrd hts hal
              generalize rd_T42 es (k : Int) = e at hc0 hc1 hc2 HTS HAL
              have hw8 : Below wr.heap.size wr (wr.alloc (.cells #[.int .i64 e.f0, .int .i64 e.f1, .int .i64 e.f2] 42)) := (Below.refl _ _).alloc (Nat.le_refl _) _
              have HP8 := Aside0.mk (hQ.out.ok.below hw8)
              have HID := Aside0.mk (plOf_ids d zs (es.take k))
              have HSO := Aside0.mk (show (plOf d zs (es.take k)).ids.Pairwise (· < ·) by rw [HID.out]; exact HND.out)
              have HLE2 := Aside0.mk (show (plOf d zs (es.take k)).ids.length ≤ 1000 by rw [HID.out, srt_length]; exact hn)
              clear hw8
              have hgd : wr.cell? ⟨w.heap.size, 0, none⟩ = some (.bool d) := by rw [blk_cell hQ.out.g]; rfl
              have hbz := blk_lt hQ.out.g
              rcases edge_ways HND.out e with ⟨hgo, m0, m1, m2, m3, m4⟩ | ⟨hbad, hways⟩
              · have HGO := Aside0.mk hgo
                clear hgo
                have hr := goodE_rank HND.out HGO.out
                have HRK := Aside0.mk hr
                clear hr
                have hpg := plOf_good d zs hn HND.out (es.take k) hQ.out.all
                have HPG := Aside0.mk hpg
                clear hpg
                go_wp2_with (first | (go_at_call 20; refine (pl_index w.heap.size (w.heap.size + 1) (plOf d zs (es.take k)) _ _ HP8.out HSO.out HLE2.out).mono ?_; rintro e' w' ⟨rfl, rfl⟩; rw [HID.out]) | (go_at_call 21; refine (lay_any w.heap.size (w.heap.size + 1) (plOf d zs (es.take k)) (rank (srt zs) e.f0) (rank (srt zs) e.f1) _ d _ HP8.out HPG.out (by rw [HID.out]; exact HRK.out.1) (by rw [HID.out]; exact HRK.out.2) (by simp; omega)).mono ?_; rintro e' w4 ⟨rfl, hok4, hbl4, hkt4⟩))
                go_roundw
                case rel =>
                  refine ⟨k + 1, by omega, by go_num, ⟨?_, ?_, ?_, ?_⟩⟩
                  · rw [HTS.out, List.all_append, hQ.out.all]; simp [HGO.out]
                  · rw [HTS.out, plOf_snoc]; unfold layE; rw [HID.out]; exact hok4
                  · exact (hkt4 _ _ _ ((Below.heap_alloc _ _ _ hbz).trans hQ.out.g) (by decide) (by decide)).trans ((Below.heap_alloc _ _ _ hbz).trans hQ.out.g)
                  · exact (hQ.out.bel.alloc hQ.out.bel.size _).trans hbl4
                case measure => simp [intOf]; omega
              · have HBAD := Aside0.mk hbad
                clear hbad
                rcases hways with m0 | ⟨m0, m1⟩ | ⟨m0, m1, m2⟩ | ⟨m0, m1, m2, m3⟩ | ⟨m0, m1, m2, m3, m4⟩
                all_goals
                  have hro : readOk zs es = false := by
                    cases h : readOk zs es with
                    | false => rfl
                    | true =>
                      unfold readOk at h
                      rw [Bool.and_eq_true] at h
                      have := HAL.out h.2
                      rw [HBAD.out] at this; cases this
                  have HRO := Aside0.mk hro
                  clear hro
                  go_wp2_with (go_at_call 20; refine (pl_index w.heap.size (w.heap.size + 1) (plOf d zs (es.take k)) _ _ HP8.out HSO.out HLE2.out).mono ?_; rintro e' w' ⟨rfl, rfl⟩; rw [HID.out])
                  go_ret2
                  exact ⟨by rw [HRO.out]; rfl, hQ.out.bel.alloc hQ.out.bel.size _, fun h => by rw [HRO.out] at h; cases h⟩
            · have hk' : k = es.length := by omega
              have hts : es.take k = es := by rw [hk', List.take_length]
              have h1 := hQ.out
              rw [hts] at h1
              have hro : readOk zs es = true := by unfold readOk; rw [decide_eq_true HND.out, h1.all]; rfl
              have HRO := Aside0.mk hro
              have H1 := Aside0.mk h1
              clear hro h1 hts hQ
              go_wp2
              go_ret2
              exact ⟨by rw [HRO.out]; rfl, H1.out.bel, fun _ => H1.out.ok⟩
      · have hmm : ((m3 : Int) != (zs.length : Int)) = true := by
          simp
          intro e
          exact hnd (HM.out.1 (by omega))
        have hro : readOk zs es = false := by unfold readOk; rw [decide_eq_false hnd]; rfl
        have HRO := Aside0.mk hro
        clear hro hnd
        go_wp2
        go_ret2
        exact ⟨by rw [HRO.out]; rfl, HR3.out.bel, fun h => by rw [HRO.out] at h; cases h⟩
end Go.Proofs.Ytlokbaljkmblaaa
