import Derived.Laws.FloatArith
import Derived.Laws.Cover2
import Derived.Test.YtfkmpnpliadohaaGreatFB5
import Derived.Test.YtfkmpnpliadohaaGreatFB4
import Derived.Deep.Cut
import Derived.Test.YtfkmpnpliadohaaGreatFT3
/- Whole numbers of at most 2^53 as floats of 64 bits: exact sums, orders, and the way back. -/
namespace Go.Proofs.FLN
open Go Ieee

/-- a whole number as a float -/
abbrev fl (n : Int) : Nat := floatOfInt .f64 n

variable {P : Program} (w : World)
end Go.Proofs.FLN

set_option linter.unusedVariables false
set_option linter.unusedSimpArgs false
/- Two weights in one; Weight of a graph without directions. -/
namespace Go.Proofs.YtfkmpnpliadohaaGreat.R
open Go.RowKit Go.Lab Go.Maps Go.Proofs.YtfkmpnpliadohaaGreatW.PrintWords Go.Proofs.YtfkmpnpliadohaaGreatW.PrintLast Go.Proofs.YtfkmpnpliadohaaGreatW.PrintMore PL

abbrev fI (n : Int) : Nat := floatOfInt .f64 n

/-- an arc's weight as a whole number -/
structure NumOk (f : Option (Int × Nat)) (o : Option Int) : Prop where
  eq : f.map (·.2) = o.map fI
  le : ∀ n, o = some n → -1099511627776 ≤ n ∧ n ≤ 1099511627776

theorem WtOk.num {f : Option (Int × Nat)} {o : Option Int} (h : NumOk f o) {x : Nat} {ok : Bool} (hw : WtOk f x ok) : ok = o.isSome ∧ ∀ n, o = some n → x = fI n := by
  obtain ⟨h1, h2⟩ := hw
  have he := h.eq
  cases f with
  | none => cases o with
    | none => exact ⟨h1, fun n hn => by cases hn⟩
    | some n => simp at he
  | some a => cases o with
    | none => simp at he
    | some n =>
      simp at he
      refine ⟨h1, fun m hm => ?_⟩
      injection hm with hm
      subst hm
      rw [h2 a rfl, he]

/-- what stays while the weight is reckoned -/
structure Kc (w wr : World) (base bp hb ab : Nat) (how : Int) (p : Pl) : Prop where
  pl : PlOk wr base bp p
  k0 : wr.cell? ⟨w.heap.size, 0, none⟩ = some (.iface 75 (.agg #[.pointer (some ⟨bp, 0, none⟩)]))
  k1 : wr.cell? ⟨w.heap.size, 1, none⟩ = some (.float .f64 ab)
  k2 : wr.cell? ⟨w.heap.size, 2, none⟩ = some (.func (.func 50) #[] #[.pointer (some ⟨hb, 0, none⟩)])
  c : wr.cell? ⟨hb, 0, none⟩ = some (.int .i64 how)
  bel : Below w.heap.size w wr
  lt : w.heap.size < wr.heap.size

theorem Kc.made {w : World} {base bp hb ab : Nat} {how : Int} {p : Pl} (h : PlOk w base bp p) (hc : w.cell? ⟨hb, 0, none⟩ = some (.int .i64 how)) :
    Kc w (w.alloc (.cells #[Value.iface 75 (.agg #[.pointer (some ⟨bp, 0, none⟩)]), .float .f64 ab, .func (.func 50) #[] #[.pointer (some ⟨hb, 0, none⟩)]] 86)) base bp hb ab how p := by
  have hb1 : Below w.heap.size w (w.alloc (.cells #[Value.iface 75 (.agg #[.pointer (some ⟨bp, 0, none⟩)]), .float .f64 ab, .func (.func 50) #[] #[.pointer (some ⟨hb, 0, none⟩)]] 86)) := (Below.refl _ _).alloc (Nat.le_refl _) _
  exact ⟨h.below hb1, (blk_cell (heap_alloc_new _ _) 0).trans rfl, (blk_cell (heap_alloc_new _ _) 1).trans rfl, (blk_cell (heap_alloc_new _ _) 2).trans rfl, Lib.cell?_alloc_some _ hc, hb1, by simp⟩

theorem Kc.next {w wr w1 : World} {base bp hb ab : Nat} {how : Int} {p : Pl} (h : Kc w wr base bp hb ab how p) (hb1 : Below wr.heap.size wr w1) : Kc w w1 base bp hb ab how p :=
  ⟨h.pl.below hb1, (hb1.cell (p := ⟨w.heap.size, 0, none⟩) h.lt).trans h.k0, (hb1.cell (p := ⟨w.heap.size, 1, none⟩) h.lt).trans h.k1, (hb1.cell (p := ⟨w.heap.size, 2, none⟩) h.lt).trans h.k2,
    (hb1.cell (p := ⟨hb, 0, none⟩) (World.block_lt_of_cell? _ _ h.c)).trans h.c, h.bel.trans (hb1.mono (Nat.le_of_lt h.lt)), Nat.lt_of_lt_of_le h.lt hb1.size⟩

end Go.Proofs.YtfkmpnpliadohaaGreat.R

set_option linter.unusedVariables false
set_option linter.unusedSimpArgs false
/- What impl.seen holds while it runs. -/
namespace Go.Proofs.YtfkmpnpliadohaaGreat.R
open Go.RowKit Go.Lab Go.Maps Go.Proofs.YtfkmpnpliadohaaGreatW.PrintWords Go.Proofs.YtfkmpnpliadohaaGreatW.PrintLast Go.Proofs.YtfkmpnpliadohaaGreatW.PrintMore PL

def enE (e : S38) : List Value := [.int .i64 e.f0, .int .i64 e.f1, .int .i64 e.f2]
def flE (es : List S38) : List Value := es.flatMap enE
theorem flE_append (a b : List S38) : flE (a ++ b) = flE a ++ flE b := by simp [flE]
/-- the state of seen -/
structure Se (w wr : World) (base bp hb g : Nat) (how : Int) (p : Pl) (vN vE : Value) (N : List Int) (E : List S38) : Prop where
  blk : wr.heap[g]? = some (.cells #[.bool false, vN, vE] 25 (0, 0))
  gl : w.heap.size < g
  ownN : wr.ownsRow w.heap.size 3 1 vN N.length (nums .i64 N)
  ownE : wr.ownsRow w.heap.size 38 3 vE E.length (flE E)
  pl : PlOk wr base bp p
  c : wr.cell? ⟨hb, 0, none⟩ = some (.int .i64 how)
  hbl : hb < w.heap.size
  bpl : bp < w.heap.size
  res : wr.heap[w.heap.size]? = some (.cells #[.bool false, .slice none 0 0, .slice none 0 0] 25 (0, 0))
  bel : Below w.heap.size w wr

section
variable {w wr w1 : World} {base bp hb g : Nat} {how : Int} {p : Pl} {vN vE : Value} {N : List Int} {E : List S38}

theorem Se.below (h : Se w wr base bp hb g how p vN vE N E) (hb1 : Below wr.heap.size wr w1) : Se w w1 base bp hb g how p vN vE N E :=
  ⟨(hb1.block _ (blk_lt h.blk)).trans h.blk, h.gl, pw_own_below h.ownN hb1, pw_own_below h.ownE hb1, h.pl.below hb1, (hb1.cell (p := ⟨hb, 0, none⟩) (World.block_lt_of_cell? _ _ h.c)).trans h.c, h.hbl, h.bpl,
    (hb1.block _ (blk_lt h.res)).trans h.res, h.bel.trans (hb1.mono h.bel.size)⟩

theorem Se.push (h : Se w wr base bp hb g how p vN vE N E) (hPl : PlOk w base bp p) {v' : Value} {e : S38} (hown : w1.ownsRow w.heap.size 38 3 v' (E.length + 1) (flE E ++ enE e)) (hg : wr.grownBy w1 vE.ownBlock) :
    Se w (w1.setCell ⟨g, 2, none⟩ v') base bp hb g how p vN v' N (E ++ [e]) := by
  have hgl := h.gl
  have hne : ∀ {k : Nat} {c : Array Value} {t : TypeId}, wr.heap[k]? = some (.cells c t (0,0)) → t ≠ 38 → w1.heap[k]? = wr.heap[k]? := by
    intro k c t hk he
    refine hg.block k (blk_lt hk) (fun hc => ?_)
    obtain ⟨c', hc'⟩ := own_block h.ownE hc.symm
    exact he (blk_type hk hc')
  have hg1 : w1.heap[g]? = some (.cells #[.bool false, vN, vE] 25 (0, 0)) := (hne h.blk (by decide)).trans h.blk
  have hlow : ∀ k, k < w.heap.size → (w1.setCell ⟨g, 2, none⟩ v').heap[k]? = w.heap[k]? := by
    intro k hk
    rw [Below.heap_setCell _ _ _ _ (by simp; omega)]
    have h1 := h.bel.block k hk
    rw [← h1]
    refine hg.block k (Nat.lt_of_lt_of_le hk h.bel.size) (fun hc => ?_)
    have := own_base h.ownE k hc.symm
    omega
  have hbel : Below w.heap.size w (w1.setCell ⟨g, 2, none⟩ v') := (h.bel.grown hg h.bel.size (fun k hk => own_base h.ownE k hk)).setCell (by simp; omega) _
  refine ⟨?_, h.gl, ?_, ?_, hPl.below hbel, ?_, h.hbl, h.bpl, ?_, hbel⟩
  · have := blk_set hg1 2 v'
    simpa using this
  · refine own_of_heap h.ownN (fun k hk => ?_)
    obtain ⟨c, hc⟩ := own_block h.ownN hk
    rw [Below.heap_setCell _ _ _ _ (by rintro rfl; exact absurd (blk_type hc h.blk) (by decide))]
    exact hne hc (by decide)
  · have h3 : w1.ownsRow w.heap.size 38 3 v' (E ++ [e]).length (flE (E ++ [e])) := by
      rw [flE_append]
      have : flE [e] = enE e := by simp [flE]
      rw [this]
      simpa using hown
    refine own_of_heap h3 (fun k hk => ?_)
    obtain ⟨c, hc⟩ := own_block h3 hk
    rw [Below.heap_setCell _ _ _ _ (by rintro rfl; exact absurd (blk_type hc hg1) (by decide))]
  · have := hbel.cell (p := ⟨hb, 0, none⟩) h.hbl
    rw [this]
    exact ((h.bel.cell (p := ⟨hb, 0, none⟩) h.hbl).symm).trans h.c
  · rw [Below.heap_setCell _ _ _ _ (by simp; omega)]
    exact (hne h.res (by decide)).trans h.res

theorem Se.cells (h : Se w wr base bp hb g how p vN vE N E) : wr.cell? ⟨g, 0, none⟩ = some (.bool false) ∧ wr.cell? ⟨g, 1, none⟩ = some vN ∧ wr.cell? ⟨g, 2, none⟩ = some vE ∧ wr.frozen? ⟨g, 2, none⟩ = false ∧ g < wr.heap.size := by
  refine ⟨?_, ?_, ?_, blk_frozen h.blk _, blk_lt h.blk⟩
  all_goals rw [blk_cell h.blk]; rfl
end

end Go.Proofs.YtfkmpnpliadohaaGreat.R

set_option linter.unusedVariables false
set_option linter.unusedSimpArgs false
/- impl.seen over a graph without directions. -/
namespace Go.Proofs.YtfkmpnpliadohaaGreat.R
open Go.RowKit Go.Lab Go.Maps Go.Proofs.YtfkmpnpliadohaaGreatW.PrintWords Go.Proofs.YtfkmpnpliadohaaGreatW.PrintLast Go.Proofs.YtfkmpnpliadohaaGreatW.PrintMore PL

theorem Tryz.info38 : (Tryz.prog.info? 38).map (fun i => (i.zero, i.size, i.bytes)) = some (some (.agg #[.int .i64 0, .int .i64 0, .int .i64 0]), 3, 24) := by kernel_rfl

/-- what seen is handed -/
structure SeenOk (w : World) (base bp hb : Nat) (absent how : Int) (zs : List Int) (es : List S38) (p : Pl) : Prop where
  pl : PlOk w base bp p
  c : w.cell? ⟨hb, 0, none⟩ = some (.int .i64 how)
  how : 0 ≤ how ∧ how ≤ 2
  ab : -1099511627776 ≤ absent ∧ absent ≤ 1099511627776
  zl : zs.length ≤ 1000
  ss : (srt zs).Pairwise (· < ·)
  ok : es.all (goodE zs) = true
  adj : Adj zs es p
  good : p.Good
  wf : ∀ x ∈ zs, (Lit.int .i64 x).wf = true

section
variable {w wr : World} {base bp hb : Nat} {absent how : Int} {zs : List Int} {es : List S38} {p : Pl}

theorem SeenOk.ids (h : SeenOk w base bp hb absent how zs es p) : p.ids = srt zs := h.adj.ids
theorem SeenOk.hs (h : SeenOk w base bp hb absent how zs es p) : p.ids.Pairwise (· < ·) := by rw [h.ids]; exact h.ss
theorem SeenOk.hwf (h : SeenOk w base bp hb absent how zs es p) : ∀ x ∈ p.ids, (Lit.int .i64 x).wf = true := by
  rw [h.ids]; exact fun x hx => h.wf x ((mem_srt _ _).1 hx)
theorem SeenOk.len (h : SeenOk w base bp hb absent how zs es p) : p.ids.length ≤ 1000 := h.good.n
theorem SeenOk.num (h : SeenOk w base bp hb absent how zs es p) {u v : Int} (hu : u ∈ srt zs) (hv : v ∈ srt zs) : NumOk (p.find u v) (arcW es u v) := by
  rw [h.adj.find h.good h.ss hu hv]
  refine ⟨?_, fun n hn => arcW_le h.ok hn⟩
  cases arcW es u v <;> rfl
theorem SeenOk.lx (h : SeenOk w base bp hb absent how zs es p) (u : Int) : (endsN p.ids (p.out.getD (rank p.ids u) [])).length ≤ 1000 := by rw [endsN_length]; exact Nat.le_trans (h.good.out _).len h.len
theorem SeenOk.ly (h : SeenOk w base bp hb absent how zs es p) (u : Int) : (endsN p.ids (p.inn.getD (rank p.ids u) [])).length ≤ 1000 := by rw [endsN_length]; exact Nat.le_trans (h.good.inn _).len h.len
theorem SeenOk.lb (h : SeenOk w base bp hb absent how zs es p) (u : Int) : (both (endsN p.ids (p.out.getD (rank p.ids u) [])) (endsN p.ids (p.inn.getD (rank p.ids u) []))).length ≤ 2000 := by
  unfold both
  rw [List.length_append]
  have h1 := h.lx u
  have h2 := h.ly u
  have h3 := List.length_filter_le (fun v => !decide (v ∈ endsN p.ids (p.out.getD (rank p.ids u) []))) (endsN p.ids (p.inn.getD (rank p.ids u) []))
  omega
theorem nbs_mem (hs : (srt zs).Pairwise (· < ·)) {u v : Int} (hv : v ∈ nbs zs es u) : v ∈ srt zs ∧ ((arcW es u v).isSome || (arcW es v u).isSome) = true := by
  rw [nbs_eq hs] at hv
  exact List.mem_filter.1 hv
theorem SeenOk.ne (h : SeenOk w base bp hb absent how zs es p) {u v : Int} (hv : v ∈ nbs zs es u) : u ≠ v := by
  rintro rfl
  have := (nbs_mem h.ss hv).2
  rw [arcW_self h.ok] at this
  simp at this
end

end Go.Proofs.YtfkmpnpliadohaaGreat.R

set_option linter.unusedVariables false
set_option linter.unusedSimpArgs false
/- impl.UndirectWeighted. -/
namespace Go.Proofs.YtfkmpnpliadohaaGreat.R
open Go.RowKit Go.Lab Go.Maps Go.Proofs.YtfkmpnpliadohaaGreatW.PrintWords Go.Proofs.YtfkmpnpliadohaaGreatW.PrintLast Go.Proofs.YtfkmpnpliadohaaGreatW.PrintMore PL

/-- what UndirectWeighted holds behind oneWay -/
structure Uw (w W : World) (how : Int) (bp b5 b6 b8 : Nat) : Prop where
  h5 : W.heap[b5]? = some (.cells #[.int .i64 how] 3 (0, 0))
  h6 : W.heap[b6]? = some (.cells #[.bool false, .slice none 0 0, .slice none 0 0] 25 (0, 0))
  h8 : W.heap[b8]? = some (.cells #[.pointer (some ⟨bp, 0, none⟩)] 75 (0, 0))
  bel : Below w.heap.size w W
  l6 : w.heap.size ≤ b6

theorem Uw.below {w W W' : World} {how : Int} {bp b5 b6 b8 : Nat} (h : Uw w W how bp b5 b6 b8) (hb : Below W.heap.size W W') : Uw w W' how bp b5 b6 b8 :=
  ⟨(hb.block _ (blk_lt h.h5)).trans h.h5, (hb.block _ (blk_lt h.h6)).trans h.h6, (hb.block _ (blk_lt h.h8)).trans h.h8, h.bel.trans (hb.mono h.bel.size), h.l6⟩

theorem Uw.cells {w W : World} {how : Int} {bp b5 b6 b8 : Nat} (h : Uw w W how bp b5 b6 b8) : W.cell? ⟨b5, 0, none⟩ = some (.int .i64 how) ∧ W.cell? ⟨b6, 0, none⟩ = some (.bool false) ∧ W.cell? ⟨b6, 1, none⟩ = some (.slice none 0 0) ∧ W.cell? ⟨b6, 2, none⟩ = some (.slice none 0 0) ∧
    (∀ k, W.frozen? ⟨b6, k, none⟩ = false) ∧ W.cell? ⟨b8, 0, none⟩ = some (.pointer (some ⟨bp, 0, none⟩)) := by
  refine ⟨?_, ?_, ?_, ?_, fun k => blk_frozen h.h6 k, ?_⟩
  · rw [blk_cell h.h5]; rfl
  · rw [blk_cell h.h6]; rfl
  · rw [blk_cell h.h6]; rfl
  · rw [blk_cell h.h6]; rfl
  · rw [blk_cell h.h8]; rfl

end Go.Proofs.YtfkmpnpliadohaaGreat.R

set_option linter.unusedVariables false
set_option linter.unusedSimpArgs false
/- impl.UndirectWeighted of a good graph. -/
namespace Go.Proofs.YtfkmpnpliadohaaGreat.R
open Go.RowKit Go.Lab Go.Maps Go.Proofs.YtfkmpnpliadohaaGreatW.PrintWords Go.Proofs.YtfkmpnpliadohaaGreatW.PrintLast Go.Proofs.YtfkmpnpliadohaaGreatW.PrintMore PL

@[go_sem] theorem run_store_func {P : Program} {w : World} {a : Addr} {m : Mode} (f : Fn) (b c : Array Value) : (store a (.func f b c) m).run P w = stored P w a (.func f b c) m := run_store P w a _ m rfl

theorem R_of_nums {w : World} {base : Nat} {e : TypeId} {v : Value} {xs : List Int} (h : w.ownsRow base e 1 v xs.length (nums .i64 xs)) : Kd.R (Kd.int .i64) e w base (fun _ => True) v xs := by
  refine ⟨fun _ _ => trivial, nums .i64 xs, h, by rw [nums_length]; exact (Nat.mul_one _).symm, fun j p hj => ?_⟩
  show List.take 1 (List.drop (j * 1) (nums .i64 xs)) = [.int .i64 p]
  obtain ⟨hl, rfl⟩ := List.getElem?_eq_some_iff.1 hj
  rw [Nat.mul_one, List.drop_eq_getElem_cons (by rw [nums_length]; exact hl)]
  simp [nums]

end Go.Proofs.YtfkmpnpliadohaaGreat.R
