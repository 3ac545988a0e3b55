import Derived.Test.YtgiebjihceggjaaM
set_option linter.unusedVariables false
set_option linter.unusedSimpArgs false
namespace Go.Proofs.Ytgiebjihceggjaa
open Go.RowKit Go.Proofs.YtgiebjihceggjaaW.PrintWords Go.Proofs.YtgiebjihceggjaaW.PrintLast Go.Proofs.YtgiebjihceggjaaW.PrintMore PFnGenTree

/-- the ends of edges -/
def endsE (es : List (Int × Int)) : List Int := es.flatMap fun e => [e.1, e.2]

theorem cell_set3 (w : World) (o b i : Nat) (x y z : Value) (h : b ≠ o) : (((w.setCell ⟨o, 0, none⟩ x).setCell ⟨o, 1, none⟩ y).setCell ⟨o, 2, none⟩ z).cell? ⟨b, i, none⟩ = w.cell? ⟨b, i, none⟩ := by
  refine World.cell?_of_block (a := ⟨b, i, none⟩) ?_
  rw [Below.heap_setCell _ _ _ _ h, Below.heap_setCell _ _ _ _ h, Below.heap_setCell _ _ _ _ h]

def zG : Obj := Obj.cells #[.bool false, .slice none 0 0, .slice none 0 0] 25

theorem Gs.mk1 {w w1 W1 : World} {d : Bool} {v : Value} {ns : List Int} (hW : W1 = (w.alloc zG).drew) (hb : Below W1.heap.size W1 w1) (ho : w1.ownsRow W1.heap.size 3 1 v ns.length (nums .i64 ns)) :
    Gs w (w1.alloc (.cells #[.bool d, v, .slice none 0 0] 25)) w1.heap.size d v ns (.slice none 0 0) [] := by
  have hs : W1.heap.size = w.heap.size + 1 := by rw [hW]; simp
  have hs2 := hb.size
  have hB : Below w.heap.size w w1 := by
    have h1 : Below w.heap.size w W1 := by rw [hW]; exact ((Below.refl _ _).alloc (Nat.le_refl _) _).drew
    exact h1.trans (hb.mono (by omega))
  have ho2 : w1.ownsRow w.heap.size 3 1 v ns.length (nums .i64 ns) := own_weaken ho (by omega)
  have hal : Below w1.heap.size w1 (w1.alloc (.cells #[.bool d, v, .slice none 0 0] 25)) := (Below.refl _ _).alloc (Nat.le_refl _) _
  refine ⟨heap_alloc_new _ _, by omega, pw_own_below ho2 hal, World.ownsRow_nil _ _ _ _, ?_, hB.alloc (by omega) _⟩
  rw [hal.block _ (by omega), hb.block _ (by omega), hW]
  exact heap_alloc_new w zG

theorem Gs.mk2 {w w1 W2 : World} {d : Bool} {v : Value} {ns : List Int} (hW : W2 = ((w.alloc zG).alloc zG).drew) (hb : Below W2.heap.size W2 w1) (ho : w1.ownsRow W2.heap.size 3 1 v ns.length (nums .i64 ns)) :
    Gs w (((w1.setCell ⟨w.heap.size + 1, 0, none⟩ (.bool d)).setCell ⟨w.heap.size + 1, 1, none⟩ v).setCell ⟨w.heap.size + 1, 2, none⟩ (.slice none 0 0)) (w.heap.size + 1) d v ns (.slice none 0 0) [] := by
  have hs : W2.heap.size = w.heap.size + 2 := by rw [hW]; simp
  have hs2 := hb.size
  have hB : Below w.heap.size w w1 := by
    have h1 : Below w.heap.size w W2 := by rw [hW]; exact (((Below.refl _ _).alloc (Nat.le_refl _) _).alloc (by simp) _).drew
    exact h1.trans (hb.mono (by omega))
  have ho2 : w1.ownsRow w.heap.size 3 1 v ns.length (nums .i64 ns) := own_weaken ho (by omega)
  have hh : w1.heap[w.heap.size + 1]? = some (.cells #[.bool false, .slice none 0 0, .slice none 0 0] 25 (0, 0)) := by
    rw [hb.block (w.heap.size + 1) (by omega), hW]
    have := heap_alloc_new (w.alloc zG) zG
    rw [show (w.alloc zG).heap.size = w.heap.size + 1 by simp] at this
    exact this
  have hr : w1.heap[w.heap.size]? = some (.cells #[.bool false, .slice none 0 0, .slice none 0 0] 25 (0, 0)) := by
    rw [hb.block (w.heap.size) (by omega), hW]
    show ((w.alloc zG).alloc zG).heap[w.heap.size]? = _
    rw [Below.heap_alloc _ _ _ (by simp)]
    exact heap_alloc_new w zG
  refine ⟨?_, by omega, ?_, World.ownsRow_nil _ _ _ _, ?_, ((hB.setCell (by simp) _).setCell (by simp) _).setCell (by simp) _⟩
  · have h1 := blk_set (blk_set (blk_set hh 0 (.bool d)) 1 v) 2 (.slice none 0 0)
    simpa using h1
  · refine own_of_heap ho2 (fun k hk => ?_)
    have hk2 : w.heap.size + 2 ≤ k := by have := own_base ho k hk; omega
    rw [Below.heap_setCell _ _ _ _ (by simp; omega), Below.heap_setCell _ _ _ _ (by simp; omega), Below.heap_setCell _ _ _ _ (by simp; omega)]
  · rw [Below.heap_setCell _ _ _ _ (by simp), Below.heap_setCell _ _ _ _ (by simp), Below.heap_setCell _ _ _ _ (by simp)]
    exact hr

theorem endsE_length (es : List (Int × Int)) : (endsE es).length = es.length * 2 := by
  induction es with
  | nil => rfl
  | cons e es ih => unfold endsE at ih ⊢; rw [List.flatMap_cons, List.length_append, ih]; simp; omega

/-- the state of graphOf behind k edges -/
def GOk (w wr : World) (ob : Nat) (d : Bool) (ns : List Int) (es : List (Int × Int)) (k : Nat) : Prop := ∃ vN vE, Gs w wr ob d vN (ns ++ endsE (es.take k)) vE ((es.take k).map (orE d))

theorem far_cell {w w1 : World} {ob base n : Nat} {cs : Array Value} {t e : TypeId} {size : Nat} {v : Value} {xs : List Value} (hb : w.heap[ob]? = some (.cells cs t (0, 0))) (ho : w.ownsRow base e size v n xs) (hg : w.grownBy w1 v.ownBlock) (i : Nat) (x : Value) (hx : cs[i]? = some x) (hte : t ≠ e) :
    w1.cell? ⟨ob, i, none⟩ = some x ∧ w1.frozen? ⟨ob, i, none⟩ = false := by
  have hh : w1.heap[ob]? = some (.cells cs t (0, 0)) := by
    rw [hg.block ob (blk_lt hb) (fun hc => ?_), hb]
    obtain ⟨c', hc'⟩ := own_block ho hc.symm
    exact hte (blk_type hb hc')
  exact ⟨by rw [blk_cell hh]; exact hx, blk_frozen hh _⟩

/-- the graph in the making, with what a walk reads of it -/
structure GsC (w wr : World) (ob bp : Nat) (d : Bool) (vN : Value) (ns : List Int) (vE : Value) (es : List S30) : Prop where
  gs : Gs w wr ob d vN ns vE es
  c1 : wr.cell? ⟨ob, 1, none⟩ = some vN
  c2 : wr.cell? ⟨ob, 2, none⟩ = some vE
  c0 : wr.cell? ⟨bp, 0, none⟩ = some (.bool d)
  z : bp < w.heap.size
theorem GsC.mk' {w wr : World} {ob bp : Nat} {d : Bool} {vN vE : Value} {ns : List Int} {es : List S30} (h : Gs w wr ob d vN ns vE es) (hz : bp < w.heap.size) (hc : w.cell? ⟨bp, 0, none⟩ = some (.bool d)) : GsC w wr ob bp d vN ns vE es :=
  ⟨h, by rw [blk_cell h.blk]; rfl, by rw [blk_cell h.blk]; rfl, (h.bel.cell (p := ⟨bp, 0, none⟩) hz).trans hc, hz⟩
theorem GsC.below {w wr w1 : World} {ob bp : Nat} {d : Bool} {vN vE : Value} {ns : List Int} {es : List S30} (h : GsC w wr ob bp d vN ns vE es) (hb : Below wr.heap.size wr w1) : GsC w w1 ob bp d vN ns vE es :=
  ⟨h.gs.below hb, by rw [blk_cell (h.gs.below hb).blk]; rfl, by rw [blk_cell (h.gs.below hb).blk]; rfl, (hb.cell (p := ⟨bp, 0, none⟩) (Nat.lt_of_lt_of_le h.z h.gs.bel.size)).trans h.c0, h.z⟩
theorem from_Gs {w wr : World} {ob bp : Nat} {d : Bool} {vN vE : Value} {ns : List Int} {es : List S30} (h : GsC w wr ob bp d vN ns vE es) (u v : Int) :
    Calls Try.prog 91 #[.agg #[nodeV u, nodeV v]] wr fun e w1 => e = .returned (nodeV u) ∧ GsC w w1 ob bp d vN ns vE es :=
  (edgeFrom_any (nodeV u) (nodeV v) wr).mono fun e w1 ⟨he, hb⟩ => ⟨he, h.below hb⟩
theorem to_Gs {w wr : World} {ob bp : Nat} {d : Bool} {vN vE : Value} {ns : List Int} {es : List S30} (h : GsC w wr ob bp d vN ns vE es) (u v : Int) (cs : Array Value) (t : TypeId) :
    Calls Try.prog 93 #[.agg #[nodeV u, nodeV v]] wr fun e w1 => e = .returned (nodeV v) ∧ GsC w w1 ob bp d vN ns vE es ∧ GsC w (w1.alloc (.cells cs t)) ob bp d vN ns vE es :=
  (edgeTo_any (nodeV u) (nodeV v) wr).mono fun e w1 ⟨he, hb⟩ => ⟨he, h.below hb, (h.below hb).below ((Below.refl _ _).alloc (Nat.le_refl _) _)⟩

theorem GsC.far {w wr w1 : World} {ob bp : Nat} {d : Bool} {vN vE : Value} {ns : List Int} {es : List S30} (h : GsC w wr ob bp d vN ns vE es) (hg : wr.grownBy w1 vE.ownBlock) : w1.cell? ⟨bp, 0, none⟩ = some (.bool d) := by
  have h1 := h.gs.bel.size
  have h2 : w1.heap[bp]? = wr.heap[bp]? := hg.block bp (Nat.lt_of_lt_of_le h.z h1) (fun hc => by
    have := own_base h.gs.ownE bp hc.symm
    have := h.z
    omega)
  rw [World.cell?_of_block (a := ⟨bp, 0, none⟩) h2]; exact h.c0

theorem set_far {w : World} {b o i j : Nat} {x : Value} (h : w.cell? ⟨b, j, none⟩ = some x) (hb : b ≠ o) : ∀ y, (w.setCell ⟨o, i, none⟩ y).cell? ⟨b, j, none⟩ = some x := fun y => by
  rw [World.cell?_of_block (a := ⟨b, j, none⟩) (Below.heap_setCell _ _ _ _ hb)]; exact h

theorem ordered_Gs {w wr : World} {ob bp : Nat} {d : Bool} {vN vE : Value} {ns : List Int} {es : List S30} (h : GsC w wr ob bp d vN ns vE es) (u v : Int) :
    Calls Try.prog 23 #[.bool d, .agg #[.int .i64 u, .int .i64 v, .int .i64 0]] wr fun e w1 => e = .returned (.agg #[.int .i64 (orE d (u, v)).f0, .int .i64 (orE d (u, v)).f1, .int .i64 (orE d (u, v)).f2]) ∧ GsC w w1 ob bp d vN ns vE es ∧ GsC w (w1.alloc (.cells #[.int .i64 (orE d (u, v)).f0, .int .i64 (orE d (u, v)).f1, .int .i64 (orE d (u, v)).f2] 30)) ob bp d vN ns vE es :=
  (ordered_any d u v wr).mono fun e w1 ⟨he, hb⟩ => ⟨he, h.below hb, (h.below hb).below ((Below.refl _ _).alloc (Nat.le_refl _) _)⟩

theorem news3 (w : World) (x : S30) (t : TypeId) : ∀ j u, (enc30 x)[j]? = some u → (w.alloc (.cells #[.int .i64 x.f0, .int .i64 x.f1, .int .i64 x.f2] t)).cell? ((⟨w.heap.size, 0, none⟩ : Addr).add j) = some u := by
  intro j u hu
  rw [add_plain, blk_cell (heap_alloc_new w (.cells #[.int .i64 x.f0, .int .i64 x.f1, .int .i64 x.f2] t))]
  match j, hu with
  | 0, hu => exact hu
  | 1, hu => exact hu
  | 2, hu => exact hu
  | j + 3, hu => simp [enc30] at hu

theorem Gs.cells {w wr : World} {ob : Nat} {d : Bool} {vN vE : Value} {ns : List Int} {es : List S30} (h : Gs w wr ob d vN ns vE es) : wr.cell? ⟨ob, 1, none⟩ = some vN ∧ wr.cell? ⟨ob, 2, none⟩ = some vE :=
  ⟨by rw [blk_cell h.blk]; rfl, by rw [blk_cell h.blk]; rfl⟩

theorem Gs.all {w wr : World} {ob : Nat} {d : Bool} {vN vE : Value} {ns : List Int} {es : List S30} (h : Gs w wr ob d vN ns vE es) :
    wr.cell? ⟨ob, 0, none⟩ = some (.bool d) ∧ wr.cell? ⟨ob, 1, none⟩ = some vN ∧ wr.cell? ⟨ob, 2, none⟩ = some vE ∧
    wr.cell? ⟨w.heap.size, 0, none⟩ = some (.bool false) ∧ wr.cell? ⟨w.heap.size, 1, none⟩ = some (.slice none 0 0) ∧ wr.cell? ⟨w.heap.size, 2, none⟩ = some (.slice none 0 0) ∧
    wr.frozen? ⟨w.heap.size, 0, none⟩ = false ∧ wr.frozen? ⟨w.heap.size, 1, none⟩ = false ∧ wr.frozen? ⟨w.heap.size, 2, none⟩ = false :=
  ⟨by rw [blk_cell h.blk]; rfl, by rw [blk_cell h.blk]; rfl, by rw [blk_cell h.blk]; rfl, by rw [blk_cell h.res]; rfl, by rw [blk_cell h.res]; rfl, by rw [blk_cell h.res]; rfl, blk_frozen h.res _, blk_frozen h.res _, blk_frozen h.res _⟩

theorem gs_end {w wr : World} {ob : Nat} {d : Bool} {vN vE x y z : Value} {ns : List Int} {es : List S30} (h : Gs w wr ob d vN ns vE es) :
    (((wr.setCell ⟨w.heap.size, 0, none⟩ x).setCell ⟨w.heap.size, 1, none⟩ y).setCell ⟨w.heap.size, 2, none⟩ z).ownsRow w.heap.size 3 1 vN ns.length (nums .i64 ns) ∧
    (((wr.setCell ⟨w.heap.size, 0, none⟩ x).setCell ⟨w.heap.size, 1, none⟩ y).setCell ⟨w.heap.size, 2, none⟩ z).ownsRow w.heap.size 30 3 vE es.length (flE es) ∧
    Below w.heap.size w (((wr.setCell ⟨w.heap.size, 0, none⟩ x).setCell ⟨w.heap.size, 1, none⟩ y).setCell ⟨w.heap.size, 2, none⟩ z) := by
  have hm : ∀ (k : Nat) (c : Array Value) (t : TypeId), wr.heap[k]? = some (Obj.cells c t (0, 0)) → t ≠ 25 → (((wr.setCell ⟨w.heap.size, 0, none⟩ x).setCell ⟨w.heap.size, 1, none⟩ y).setCell ⟨w.heap.size, 2, none⟩ z).heap[k]? = wr.heap[k]? := by
    intro k c t hk ht
    have hne : k ≠ w.heap.size := by rintro rfl; exact ht (blk_type hk h.res)
    rw [Below.heap_setCell _ _ _ _ hne, Below.heap_setCell _ _ _ _ hne, Below.heap_setCell _ _ _ _ hne]
  refine ⟨own_of_heap h.ownN (fun k hk => ?_), own_of_heap h.ownE (fun k hk => ?_), ((h.bel.setCell (Nat.le_refl _) _).setCell (Nat.le_refl _) _).setCell (Nat.le_refl _) _⟩
  · obtain ⟨c, hc⟩ := own_block h.ownN hk; exact hm k c 3 hc (by decide)
  · obtain ⟨c, hc⟩ := own_block h.ownE hk; exact hm k c 30 hc (by decide)

theorem news2 (w : World) (x y : Value) (t : TypeId) : ∀ j u, [x, y][j]? = some u → (w.alloc (.cells #[x, y] t)).cell? ((⟨w.heap.size, 0, none⟩ : Addr).add j) = some u := by
  intro j u hu
  rw [add_plain, blk_cell (heap_alloc_new w (.cells #[x, y] t))]
  match j, hu with
  | 0, hu => exact hu
  | 1, hu => exact hu
  | j + 2, hu => simp at hu

def gof.T5 : Bool × List (List Nat × List Nat) := (true, [([], []), ([0], [0]), ([], []), ([2], [2]), ([3, 3], [3]), ([], []), ([5, 4], [5]), ([6, 6], [6]), ([4, 7], [4, 7]), ([1, 8, 7], [1, 8]), ([0, 1, 2, 3, 4, 5, 6, 7, 8, 9], []), ([10, 9, 9, 0, 1, 2, 3, 4, 5, 6, 7, 8, 9], [9, 10])])
def gof.B5 : List Nat := [0, 1, 0, 4, 12, 0, 60, 124, 252, 511, 1023, 2047]
theorem gof.tab5 : rtab .any (opsOf Try.f11 5) = gof.T5 := by kernel_rfl
theorem gof.bits5 : waitsOk gof.T5.2 gof.B5 = true := by kernel_rfl
def gof.T6 : Bool × List (List Nat × List Nat) := (true, [([], []), ([0], [0]), ([], []), ([2], [2]), ([3], [3]), ([4], [4]), ([], []), ([6], [6]), ([7, 7], [7]), ([], []), ([9, 8], [9]), ([10, 10], [10]), ([8, 11], [8, 11]), ([5, 12, 11], [5, 12]), ([13], [13]), ([1, 14, 13], [1, 14]), ([0, 1, 2, 3, 4, 5, 6, 7, 8, 9, 10, 11, 12, 13, 14, 15], []), ([16, 15, 15, 0, 1, 2, 3, 4, 5, 6, 7, 8, 9, 10, 11, 12, 13, 14, 15], [15, 16])])
def gof.B6 : List Nat := [0, 1, 0, 4, 12, 28, 0, 64, 192, 0, 960, 1984, 4032, 8188, 16380, 32767, 65535, 131071]
theorem gof.tab6 : rtab .any (opsOf Try.f11 6) = gof.T6 := by kernel_rfl
theorem gof.bits6 : waitsOk gof.T6.2 gof.B6 = true := by kernel_rfl

set_option maxHeartbeats 8000000 in
set_option maxRecDepth 100000 in
theorem graphOf_any (base bp : Nat) (d : Bool) (vn : Value) (ns : List Int) (ve : Value) (es : List (Int × Int)) (w : World) (h : Bld w base bp d vn ns ve es) (hn : ns.length ≤ 1000) (he : es.length ≤ 1000) (hnd : (es.map (orE d)).Pairwise (· ≠ ·)) :
    Calls Try.prog 11 #[.pointer (some ⟨bp, 0, none⟩)] w fun e w' => ∃ vN vE, e = .returned (.agg #[.bool d, vN, vE]) ∧ w'.ownsRow w.heap.size 3 1 vN (cpt (srt (ns ++ endsE es))).length (nums .i64 (cpt (srt (ns ++ endsE es)))) ∧ w'.ownsRow w.heap.size 30 3 vE (srtE (es.map (orE d))).length (flE (srtE (es.map (orE d)))) ∧ Below w.heap.size w w' := by
  have HB := Aside0.mk h
  have hp0 : w.cell? ⟨bp, 0, none⟩ = some (.bool d) := by rw [blk_cell h.blk]; rfl
  have hp1 : w.cell? ⟨bp, 1, none⟩ = some vn := by rw [blk_cell h.blk]; rfl
  have hp2 : w.cell? ⟨bp, 2, none⟩ = some ve := by rw [blk_cell h.blk]; rfl
  have hbz := blk_lt h.blk
  obtain ⟨V, C, hV⟩ := own_slice h.ownN
  obtain ⟨V2, C2, hV2⟩ := own_slice h.ownE
  subst hV hV2
  clear h
  go_enter Try.func11, Try.ntmps11
  go_upto_region 1 with fail
  go_cut [3] from 6 (fun s3 w' => ∃ ob, s3 = .pointer (some ⟨ob, 0, none⟩) ∧ Aside0 (∃ A c, Gs w w' ob d (.slice A ns.length c) ns (.slice none 0 0) []))
  case first =>
    obtain ⟨W1, hW1⟩ : ∃ W1, W1 = (w.alloc (Obj.cells #[.bool false, .slice none 0 0, .slice none 0 0] 25)).drew := ⟨_, rfl⟩
    obtain ⟨W2, hW2⟩ : ∃ W2, W2 = ((w.alloc (Obj.cells #[.bool false, .slice none 0 0, .slice none 0 0] 25)).alloc (Obj.cells #[.bool false, .slice none 0 0, .slice none 0 0] 25)).drew := ⟨_, rfl⟩
    have hB1 : Below w.heap.size w W1 := by rw [hW1]; exact ((Below.refl _ _).alloc (Nat.le_refl _) _).drew
    have hB2 : Below w.heap.size w W2 := by rw [hW2]; exact (((Below.refl _ _).alloc (Nat.le_refl _) _).alloc (by simp) _).drew
    have F1 := Aside0.mk (And.intro hW1 (And.intro (pw_own_below HB.out.ownN hB1) (And.intro ((hB1.cell (p := ⟨bp, 0, none⟩) hbz).trans hp0) (And.intro ((hB1.cell (p := ⟨bp, 1, none⟩) hbz).trans hp1) (Nat.lt_of_lt_of_le hbz hB1.size)))))
    have F2 := Aside0.mk (And.intro hW2 (And.intro (pw_own_below HB.out.ownN hB2) (And.intro ((hB2.cell (p := ⟨bp, 0, none⟩) hbz).trans hp0) (And.intro ((hB2.cell (p := ⟨bp, 1, none⟩) hbz).trans hp1) (Nat.lt_of_lt_of_le hbz hB2.size)))))
    have F3 := Aside0.mk (show ∀ w1, Below W2.heap.size W2 w1 → w1.cell? ⟨w.heap.size + 1, 0, none⟩ = some (.bool false) ∧ w1.cell? ⟨w.heap.size + 1, 1, none⟩ = some (.slice none 0 0) ∧ w1.cell? ⟨w.heap.size + 1, 2, none⟩ = some (.slice none 0 0) ∧ w1.frozen? ⟨w.heap.size + 1, 0, none⟩ = false ∧ w1.frozen? ⟨w.heap.size + 1, 1, none⟩ = false ∧ w1.frozen? ⟨w.heap.size + 1, 2, none⟩ = false by
      intro w1 hb
      have hh : w1.heap[w.heap.size + 1]? = some (.cells #[.bool false, .slice none 0 0, .slice none 0 0] 25 (0, 0)) := by
        rw [hb.block (w.heap.size + 1) (by rw [hW2]; simp), hW2]
        have := heap_alloc_new (w.alloc (Obj.cells #[.bool false, .slice none 0 0, .slice none 0 0] 25)) (Obj.cells #[.bool false, .slice none 0 0, .slice none 0 0] 25)
        rw [show (w.alloc (Obj.cells #[.bool false, .slice none 0 0, .slice none 0 0] 25)).heap.size = w.heap.size + 1 by simp] at this
        exact this
      exact ⟨by rw [blk_cell hh]; rfl, by rw [blk_cell hh]; rfl, by rw [blk_cell hh]; rfl, blk_frozen hh _, blk_frozen hh _, blk_frozen hh _⟩)
    clear hB1 hB2 hW1 hW2
    have hnb : bp ≠ w.heap.size + 1 := by omega
    go_region_held3 (fun w' => w'.cell? ⟨bp, 0, none⟩ = some (.bool d) ∧ w'.cell? ⟨bp, 1, none⟩ = some (.slice V ns.length C))
      (first | exact And.intro hk0 hk1 | exact And.intro ((cell_set3 _ _ _ _ _ _ _ hnb).trans hk0) ((cell_set3 _ _ _ _ _ _ _ hnb).trans hk1) | exact And.intro ((Below.cell ((Below.refl _ _).alloc (Nat.le_refl _) _) hz1).trans hk0) ((Below.cell ((Below.refl _ _).alloc (Nat.le_refl _) _) hz1).trans hk1) | go_keep | (constructor <;> go_keep))
      (first
        | (go_at_call 21; rw [← F1.out.1]; refine (numbers_any base (.slice V ns.length C) ns _ F1.out.2.1 (by omega)).mono ?_; rintro e w1 ⟨A1, c1, rfl, hown, hbel⟩; have hz1 : bp < w1.heap.size := Nat.lt_of_lt_of_le F1.out.2.2.2.2 hbel.size; have hk0 := (hbel.cell (p := ⟨bp, 0, none⟩) F1.out.2.2.2.2).trans F1.out.2.2.1; have hk1 := (hbel.cell (p := ⟨bp, 1, none⟩) F1.out.2.2.2.2).trans F1.out.2.2.2.1)
        | (go_at_call 21; rw [← F2.out.1]; refine (numbers_any base (.slice V ns.length C) ns _ F2.out.2.1 (by omega)).mono ?_; rintro e w1 ⟨A1, c1, rfl, hown, hbel⟩; have hz1 : bp < w1.heap.size := Nat.lt_of_lt_of_le F2.out.2.2.2.2 hbel.size; have hk0 := (hbel.cell (p := ⟨bp, 0, none⟩) F2.out.2.2.2.2).trans F2.out.2.2.1; have hk1 := (hbel.cell (p := ⟨bp, 1, none⟩) F2.out.2.2.2.2).trans F2.out.2.2.2.1; obtain ⟨g0, g1, g2, g3, g4, g5⟩ := F3.out w1 hbel))
    all_goals
      go_wp2
      go_meet
    · case rel => exact ⟨_, rfl, ⟨A1, c1, Gs.mk1 F1.out.1 hbel hown⟩⟩
    · case rel => exact ⟨_, rfl, ⟨A1, c1, Gs.mk2 F2.out.1 hbel hown⟩⟩
  case rest =>
    obtain ⟨ob, rfl, HG⟩ := hcut
    obtain ⟨A1, c1, hG⟩ := HG.out
    have HGO := Aside0.mk (show GOk w wc ob d ns es 0 from ⟨_, _, by simpa [endsE] using hG⟩)
    have hp2' : wc.cell? ⟨bp, 2, none⟩ = some (.slice V2 es.length C2) := (hG.bel.cell (p := ⟨bp, 2, none⟩) hbz).trans hp2
    have hob := hG.hb
    obtain ⟨i0, hi, hz0, hz1, hz2⟩ := info_parts Try.info3
    have HI := Aside0.mk (And.intro hi (And.intro hz0 (And.intro hz1 hz2)))
    obtain ⟨i1, hi', hz0', hz1', hz2'⟩ := info_parts info30
    have HI2 := Aside0.mk (And.intro hi' (And.intro hz0' (And.intro hz1' hz2')))
    clear hG HG hi hz0 hz1 hz2 hi' hz0' hz1' hz2'
    go_wp2_with fail
    go_loopw [21] (fun t21 wr => ∃ k : Nat, k ≤ es.length ∧ t21 = .int .i64 k ∧ Aside0 (GOk w wr ob d ns es k)) (fun t21 _ => es.length - (intOf t21).toNat)
    case atStart => exact ⟨0, Nat.zero_le _, rfl, HGO⟩
    case round =>
      clear HGO
      obtain ⟨k, hk, rfl, HR⟩ := hrel
      by_cases hlt : k < es.length
      · obtain ⟨vN, vE, hG⟩ := HR.out
        obtain ⟨g, cap, hv, hgb, hgl⟩ := HB.out.ownE.form (by omega)
        injection hv with e1 e2 e3
        subst e1 e3
        have hc : wr.cell? ⟨g, k, none⟩ = some (edgeV (es.getD k (0, 0))) := by
          have h1 := HB.out.ownE.cells (g := g) rfl k (edgeV (es.getD k (0, 0))) (by simp [List.getD_eq_getElem?_getD, hlt])
          rw [add_plain] at h1
          rw [hG.bel.cell (p := ⟨g, k, none⟩) hgl]; exact h1
        have hts : es.take (k + 1) = es.take k ++ [es.getD k (0, 0)] := by
          rw [List.take_succ_eq_append_getElem hlt]; simp [List.getD_eq_getElem?_getD, hlt]
        have HTS := Aside0.mk hts
        clear hts
        generalize es.getD k (0, 0) = e at hc HTS
        obtain ⟨u, v⟩ := e
        obtain ⟨VN, CN, rfl⟩ := own_slice hG.ownN
        obtain ⟨VE, CE, rfl⟩ := own_slice hG.ownE
        have HG := Aside0.mk hG
        have HL := Aside0.mk (show (ns ++ endsE (es.take k)).length ≤ 3000 ∧ ((es.take k).map (orE d)).length ≤ 1000 from ⟨by rw [List.length_append, endsE_length, List.length_take]; omega, by rw [List.length_map, List.length_take]; omega⟩)
        clear hG HR
        generalize hns : ns ++ endsE (es.take k) = ms at HG HL
        generalize hes : (es.take k).map (orE d) = fs at HG HL
        have HNS := Aside0.mk (show ns ++ endsE (es.take (k + 1)) = ms ++ [u, v] by rw [HTS.out, ← hns]; simp [endsE])
        have HFS := Aside0.mk (show (es.take (k + 1)).map (orE d) = fs ++ [orE d (u, v)] by rw [HTS.out, ← hes]; simp)
        unfold edgeV at hc
        go_upto_region 5 with fail
        go_cut [] from 22 to 53 (fun w' => Aside0 (∃ vN', Gs w w' ob d vN' (ms ++ [u, v]) (.slice VE fs.length CE) fs))
        case first =>
          have m1 := meth_From (nodeV u) (nodeV v)
          have m2 := meth_To (nodeV u) (nodeV v)
          have G0 := GsC.mk' (HG.out.below (w1 := wr.drew) ⟨rfl, rfl, rfl, Nat.le_refl _, fun _ _ => rfl⟩) hbz hp0
          obtain ⟨-, p1, p2, p3, -⟩ := id G0
          have G0 := Aside0.mk G0
          have hl1 := HL.out.1
          clear HG
          refine start_ (n := 12) (S := fun w' => w'.cell? ⟨ob, 1, none⟩ = some (.slice VN ms.length CN)) (ds := [9, 11]) #[false, false, false, false, false, false, false, false, false, false, false, false] (by kernel_rfl) rfl rfl p1 (fun hHeld => ?_)
          refine with_tabW gof.tab5 gof.bits5 (fun HT_ HW_ => ?_)
          refine pure_ (i := 0) (N := some 25) (v := ?_) (a' := ?_) #[true, false, false, false, false, false, false, false, false, false, false, false] rfl rfl (any_of HT_.out (by kernel_rfl)) (fun _ _ _ h => h) (Or.inl ⟨by rfl, ?_⟩) ?_ ?_
          rotate_left
          · intro w'
            go_simp
            with_reducible rfl
          rotate_left
          · simp only [Act.put, List.setIfInBounds_toArray, List.set_cons_zero, List.set_cons_succ, i64_w, i32_w]
            rfl
          refine pure_ (i := 2) (N := some 27) (v := ?_) (a' := ?_) #[true, false, true, false, false, false, false, false, false, false, false, false] rfl rfl (any_of HT_.out (by kernel_rfl)) (fun _ _ _ h => h) (Or.inl ⟨by rfl, ?_⟩) ?_ ?_
          rotate_left
          · intro w'
            go_simp
            with_reducible rfl
          rotate_left
          · simp only [Act.put, List.setIfInBounds_toArray, List.set_cons_zero, List.set_cons_succ, i64_w, i32_w]
            rfl
          refine pure_ (i := 5) (N := some 30) (v := ?_) (a' := ?_) #[true, false, true, false, false, true, false, false, false, false, false, false] rfl rfl (any_of HT_.out (by kernel_rfl)) (fun _ _ _ h => h) (Or.inl ⟨by rfl, ?_⟩) ?_ ?_
          rotate_left
          · intro w'
            go_simp
            with_reducible rfl
          rotate_left
          · simp only [Act.put, List.setIfInBounds_toArray, List.set_cons_zero, List.set_cons_succ, i64_w, i32_w]
            rfl
          refine take_ (i := 1) (N := some 26) (v := ?_) (a' := ?_) #[true, true, true, false, false, true, false, false, false, false, false, false] rfl rfl (take_ofW HT_.out HW_.out (by kernel_rfl)) (fun _ _ _ h => h) (Or.inl ⟨by rfl, ?_⟩) hHeld ?_ ?_
          rotate_left
          · intro w' s0
            go_simp
            with_reducible rfl
          rotate_left
          · simp only [Act.put, List.setIfInBounds_toArray, List.set_cons_zero, List.set_cons_succ, i64_w, i32_w]
            rfl
          refine one_ (i := 3) (N := some 28) #[true, true, true, true, false, true, false, false, false, false, false, false] rfl rfl (one_of HT_.out (by kernel_rfl)) (by decide) (fun K hK => ?_)
          refine call_ 91 #[.agg #[nodeV u, nodeV v]] (by rfl) rfl ?_ ((from_Gs G0.out u v).mono ?_)
          · go_simp
          rintro e w1 ⟨rfl, g1⟩
          refine ⟨_, rfl, ?_⟩
          have G1 := Aside0.mk g1
          refine hK.out _ _ g1.c1 (fun hHeld => ?_)
          clear hK K
          refine norm_ (a' := ?_) ?_ ?_
          rotate_left
          · show Act.put _ (some 28) _ = _
            simp only [Act.put, List.setIfInBounds_toArray, List.set_cons_zero, List.set_cons_succ, i64_w, i32_w]
            rfl
          refine one_ (i := 4) (N := some 29) #[true, true, true, true, true, true, false, false, false, false, false, false] rfl rfl (one_of HT_.out (by kernel_rfl)) (by decide) (fun K hK => ?_)
          refine call_ 22 #[nodeV u] (by rfl) rfl ?_ ((number_any u _).mono ?_)
          · go_simp
          rintro e w5 ⟨rfl, rfl⟩
          refine ⟨_, rfl, ?_⟩
          refine hK.out _ _ hHeld (fun hHeld => ?_)
          clear hK K
          refine norm_ (a' := ?_) ?_ ?_
          rotate_left
          · show Act.put _ (some 29) _ = _
            simp only [Act.put, List.setIfInBounds_toArray, List.set_cons_zero, List.set_cons_succ, i64_w, i32_w]
            rfl
          refine one_ (i := 6) (N := some 31) #[true, true, true, true, true, true, true, false, false, false, false, false] rfl rfl (one_of HT_.out (by kernel_rfl)) (by decide) (fun K hK => ?_)
          refine call_ 93 #[.agg #[nodeV u, nodeV v]] (by rfl) rfl ?_ ((to_Gs G1.out u v #[.int .i64 u, .int .i64 v] 3).mono ?_)
          · go_simp
          rintro e w2 ⟨rfl, g2, g3⟩
          refine ⟨_, rfl, ?_⟩
          have G2 := Aside0.mk g2
          have G3 := Aside0.mk g3
          refine hK.out _ _ g2.c1 (fun hHeld => ?_)
          clear hK K
          refine norm_ (a' := ?_) ?_ ?_
          rotate_left
          · show Act.put _ (some 31) _ = _
            simp only [Act.put, List.setIfInBounds_toArray, List.set_cons_zero, List.set_cons_succ, i64_w, i32_w]
            rfl
          refine one_ (i := 7) (N := some 32) #[true, true, true, true, true, true, true, true, false, false, false, false] rfl rfl (one_of HT_.out (by kernel_rfl)) (by decide) (fun K hK => ?_)
          refine call_ 22 #[nodeV v] (by rfl) rfl ?_ ((number_any v _).mono ?_)
          · go_simp
          rintro e w6 ⟨rfl, rfl⟩
          refine ⟨_, rfl, ?_⟩
          refine hK.out _ _ hHeld (fun hHeld => ?_)
          clear hK K
          refine norm_ (a' := ?_) ?_ ?_
          rotate_left
          · show Act.put _ (some 32) _ = _
            simp only [Act.put, List.setIfInBounds_toArray, List.set_cons_zero, List.set_cons_succ, i64_w, i32_w]
            rfl
          refine one_ (i := 8) (N := some 33) #[true, true, true, true, true, true, true, true, true, false, false, false] rfl rfl (one_of HT_.out (by kernel_rfl)) (by decide) (fun K hK => ?_)
          refine value_ (w1 := ?_) (v := ?_) (by rfl) rfl ?_ ?_
          rotate_left 2
          · go_simp
            constructor
            · rfl
            · rfl
          refine hK.out _ _ G3.out.c1 (fun hHeld => ?_)
          clear hK K
          refine norm_ (a' := ?_) ?_ ?_
          rotate_left
          · show Act.put _ (some 33) _ = _
            simp only [Act.put, List.setIfInBounds_toArray, List.set_cons_zero, List.set_cons_succ, i64_w, i32_w]
            rfl
          refine last_ (i := 9) (N := some 34) #[true, true, true, true, true, true, true, true, true, true, false, false] rfl rfl (one_of HT_.out (by kernel_rfl)) (by decide) (fun K hK => ?_)
          refine step_append_lies _ (by rfl) _ _ _ (by rfl) w.heap.size 3 i0 _ 1 8 Try.underlying22 HI.out.1 HI.out.2.1 HI.out.2.2.1 HI.out.2.2.2 rfl (by omega) (.slice VN ms.length CN) ms.length (nums .i64 ms) (by rfl) (by exact G3.out.gs.ownN) ⟨w2.heap.size, 0, none⟩ 2 2 [.int .i64 u, .int .i64 v] (by rfl) (by rfl) (by exact news2 _ _ _ _) (by simp [Value.oneCell']) (by omega) (by unfold maxLen; omega) (by omega) (by have := G2.out.gs.bel.size; simp; omega) _ rfl ?_
          intro gg cap w4 hown4 hgr4 hat4 hlt4
          have G4 := Aside0.mk (And.intro hown4 hgr4)
          obtain ⟨hd3, hf3⟩ := far_cell G3.out.gs.blk G3.out.gs.ownN hgr4 1 _ rfl (by decide)
          clear hown4 hgr4 hat4 hlt4
          refine hK.out _ _ ?_
          clear hK K
          refine norm_ (a' := ?_) ?_ ?_
          rotate_left
          · show Act.put _ (some 34) _ = _
            simp only [Act.put, List.setIfInBounds_toArray, List.set_cons_zero, List.set_cons_succ, i64_w, i32_w]
            rfl
          refine pure_ (i := 10) (N := some 35) (v := ?_) (a' := ?_) #[true, true, true, true, true, true, true, true, true, true, true, false] rfl rfl (any_of HT_.out (by kernel_rfl)) (fun _ _ _ h => h) (Or.inl ⟨by rfl, ?_⟩) ?_ ?_
          rotate_left
          · intro w'
            go_simp
            with_reducible rfl
          rotate_left
          · simp only [Act.put, List.setIfInBounds_toArray, List.set_cons_zero, List.set_cons_succ, i64_w, i32_w]
            rfl
          refine last_ (i := 11) (N := none) #[true, true, true, true, true, true, true, true, true, true, true, true] rfl rfl (one_of HT_.out (by kernel_rfl)) (by decide) (fun K hK => ?_)
          refine skip_ (w1 := ?_) (by rfl) rfl ?_ ?_
          rotate_left
          · go_simp
            rfl
          refine hK.out _ _ ?_
          clear hK K
          refine done_ (done_of HT_.out (by kernel_rfl)) ?_
          try go_wp2
          go_meet
          case rel => exact ⟨⟨_, Gs.putN (ns' := ms ++ [u, v]) G3.out.gs (by simpa [nums] using G4.out.1) G4.out.2⟩⟩
        case rest =>
          obtain ⟨vN', hG1⟩ := hcut.out
          obtain ⟨VM, CM, rfl⟩ := own_slice hG1.ownN
          have HG1 := Aside0.mk hG1
          have hHL := HL.out
          clear hcut hG1 HG
          go_upto_region 6 with fail
          have m1 := meth_From (nodeV u) (nodeV v)
          have m2 := meth_To (nodeV u) (nodeV v)
          have G0 := GsC.mk' (HG1.out.below (w1 := wc.drew) ⟨rfl, rfl, rfl, Nat.le_refl _, fun _ _ => rfl⟩) hbz hp0
          obtain ⟨-, p1, p2, p3, -⟩ := id G0
          have G0 := Aside0.mk G0
          have hl1 := HL.out.2
          clear HG1
          refine start_ (n := 18) (S := fun w' => w'.cell? ⟨ob, 2, none⟩ = some (.slice VE fs.length CE) ∧ w'.cell? ⟨bp, 0, none⟩ = some (.bool d)) (ds := [15, 17]) #[false, false, false, false, false, false, false, false, false, false, false, false, false, false, false, false, false, false] (by kernel_rfl) rfl rfl ⟨p2, p3⟩ (fun hHeld => ?_)
          refine with_tabW gof.tab6 gof.bits6 (fun HT_ HW_ => ?_)
          refine pure_ (i := 0) (N := some 36) (v := ?_) (a' := ?_) #[true, false, false, false, false, false, false, false, false, false, false, false, false, false, false, false, false, false] rfl rfl (any_of HT_.out (by kernel_rfl)) (fun _ _ _ h => h) (Or.inl ⟨by rfl, ?_⟩) ?_ ?_
          rotate_left
          · intro w'
            go_simp
            with_reducible rfl
          rotate_left
          · simp only [Act.put, List.setIfInBounds_toArray, List.set_cons_zero, List.set_cons_succ, i64_w, i32_w]
            rfl
          refine pure_ (i := 2) (N := some 38) (v := ?_) (a' := ?_) #[true, false, true, false, false, false, false, false, false, false, false, false, false, false, false, false, false, false] rfl rfl (any_of HT_.out (by kernel_rfl)) (fun _ _ _ h => h) (Or.inl ⟨by rfl, ?_⟩) ?_ ?_
          rotate_left
          · intro w'
            go_simp
            with_reducible rfl
          rotate_left
          · simp only [Act.put, List.setIfInBounds_toArray, List.set_cons_zero, List.set_cons_succ, i64_w, i32_w]
            rfl
          refine pure_ (i := 3) (N := some 39) (v := ?_) (a' := ?_) #[true, false, true, true, false, false, false, false, false, false, false, false, false, false, false, false, false, false] rfl rfl (any_of HT_.out (by kernel_rfl)) (fun _ _ _ h => h) (Or.inl ⟨by rfl, ?_⟩) ?_ ?_
          rotate_left
          · intro w'
            go_simp
            with_reducible rfl
          rotate_left
          · simp only [Act.put, List.setIfInBounds_toArray, List.set_cons_zero, List.set_cons_succ, i64_w, i32_w]
            rfl
          refine pure_ (i := 4) (N := some 40) (v := ?_) (a' := ?_) #[true, false, true, true, true, false, false, false, false, false, false, false, false, false, false, false, false, false] rfl rfl (any_of HT_.out (by kernel_rfl)) (fun _ _ _ h => h) (Or.inl ⟨by rfl, ?_⟩) ?_ ?_
          rotate_left
          · intro w'
            go_simp
            with_reducible rfl
          rotate_left
          · simp only [Act.put, List.setIfInBounds_toArray, List.set_cons_zero, List.set_cons_succ, i64_w, i32_w]
            rfl
          refine pure_ (i := 6) (N := some 42) (v := ?_) (a' := ?_) #[true, false, true, true, true, false, true, false, false, false, false, false, false, false, false, false, false, false] rfl rfl (any_of HT_.out (by kernel_rfl)) (fun _ _ _ h => h) (Or.inl ⟨by rfl, ?_⟩) ?_ ?_
          rotate_left
          · intro w'
            go_simp
            with_reducible rfl
          rotate_left
          · simp only [Act.put, List.setIfInBounds_toArray, List.set_cons_zero, List.set_cons_succ, i64_w, i32_w]
            rfl
          refine pure_ (i := 9) (N := some 45) (v := ?_) (a' := ?_) #[true, false, true, true, true, false, true, false, false, true, false, false, false, false, false, false, false, false] rfl rfl (any_of HT_.out (by kernel_rfl)) (fun _ _ _ h => h) (Or.inl ⟨by rfl, ?_⟩) ?_ ?_
          rotate_left
          · intro w'
            go_simp
            with_reducible rfl
          rotate_left
          · simp only [Act.put, List.setIfInBounds_toArray, List.set_cons_zero, List.set_cons_succ, i64_w, i32_w]
            rfl
          refine take_ (i := 1) (N := some 37) (v := ?_) (a' := ?_) #[true, true, true, true, true, false, true, false, false, true, false, false, false, false, false, false, false, false] rfl rfl (take_ofW HT_.out HW_.out (by kernel_rfl)) (fun _ _ _ h => h) (Or.inl ⟨by rfl, ?_⟩) hHeld ?_ ?_
          rotate_left
          · rintro w' ⟨s0, s1⟩
            go_simp
            with_reducible rfl
          rotate_left
          · simp only [Act.put, List.setIfInBounds_toArray, List.set_cons_zero, List.set_cons_succ, i64_w, i32_w]
            rfl
          refine take_ (i := 5) (N := some 41) (v := ?_) (a' := ?_) #[true, true, true, true, true, true, true, false, false, true, false, false, false, false, false, false, false, false] rfl rfl (take_ofW HT_.out HW_.out (by kernel_rfl)) (fun _ _ _ h => h) (Or.inl ⟨by rfl, ?_⟩) hHeld ?_ ?_
          rotate_left
          · rintro w' ⟨s0, s1⟩
            go_simp
            with_reducible rfl
          rotate_left
          · simp only [Act.put, List.setIfInBounds_toArray, List.set_cons_zero, List.set_cons_succ, i64_w, i32_w]
            rfl
          refine one_ (i := 7) (N := some 43) #[true, true, true, true, true, true, true, true, false, true, false, false, false, false, false, false, false, false] rfl rfl (one_of HT_.out (by kernel_rfl)) (by decide) (fun K hK => ?_)
          refine call_ 91 #[.agg #[nodeV u, nodeV v]] (by rfl) rfl ?_ ((from_Gs G0.out u v).mono ?_)
          · go_simp
          rintro e w1 ⟨rfl, g1⟩
          refine ⟨_, rfl, ?_⟩
          have G1 := Aside0.mk g1
          refine hK.out _ _ ⟨g1.c2, g1.c0⟩ (fun hHeld => ?_)
          clear hK K
          refine norm_ (a' := ?_) ?_ ?_
          rotate_left
          · show Act.put _ (some 43) _ = _
            simp only [Act.put, List.setIfInBounds_toArray, List.set_cons_zero, List.set_cons_succ, i64_w, i32_w]
            rfl
          refine one_ (i := 8) (N := some 44) #[true, true, true, true, true, true, true, true, true, true, false, false, false, false, false, false, false, false] rfl rfl (one_of HT_.out (by kernel_rfl)) (by decide) (fun K hK => ?_)
          refine call_ 22 #[nodeV u] (by rfl) rfl ?_ ((number_any u _).mono ?_)
          · go_simp
          rintro e w5 ⟨rfl, rfl⟩
          refine ⟨_, rfl, ?_⟩
          refine hK.out _ _ hHeld (fun hHeld => ?_)
          clear hK K
          refine norm_ (a' := ?_) ?_ ?_
          rotate_left
          · show Act.put _ (some 44) _ = _
            simp only [Act.put, List.setIfInBounds_toArray, List.set_cons_zero, List.set_cons_succ, i64_w, i32_w]
            rfl
          refine one_ (i := 10) (N := some 46) #[true, true, true, true, true, true, true, true, true, true, true, false, false, false, false, false, false, false] rfl rfl (one_of HT_.out (by kernel_rfl)) (by decide) (fun K hK => ?_)
          refine call_ 93 #[.agg #[nodeV u, nodeV v]] (by rfl) rfl ?_ ((to_Gs G1.out u v #[] 3).mono ?_)
          · go_simp
          rintro e w2 ⟨rfl, g2, -⟩
          refine ⟨_, rfl, ?_⟩
          have G2 := Aside0.mk g2
          refine hK.out _ _ ⟨g2.c2, g2.c0⟩ (fun hHeld => ?_)
          clear hK K
          refine norm_ (a' := ?_) ?_ ?_
          rotate_left
          · show Act.put _ (some 46) _ = _
            simp only [Act.put, List.setIfInBounds_toArray, List.set_cons_zero, List.set_cons_succ, i64_w, i32_w]
            rfl
          refine one_ (i := 11) (N := some 47) #[true, true, true, true, true, true, true, true, true, true, true, true, false, false, false, false, false, false] rfl rfl (one_of HT_.out (by kernel_rfl)) (by decide) (fun K hK => ?_)
          refine call_ 22 #[nodeV v] (by rfl) rfl ?_ ((number_any v _).mono ?_)
          · go_simp
          rintro e w6 ⟨rfl, rfl⟩
          refine ⟨_, rfl, ?_⟩
          refine hK.out _ _ hHeld (fun hHeld => ?_)
          clear hK K
          refine norm_ (a' := ?_) ?_ ?_
          rotate_left
          · show Act.put _ (some 47) _ = _
            simp only [Act.put, List.setIfInBounds_toArray, List.set_cons_zero, List.set_cons_succ, i64_w, i32_w]
            rfl
          refine pure_ (i := 12) (N := some 48) (v := ?_) (a' := ?_) #[true, true, true, true, true, true, true, true, true, true, true, true, true, false, false, false, false, false] rfl rfl (any_of HT_.out (by kernel_rfl)) (fun _ _ _ h => h) (Or.inl ⟨by rfl, ?_⟩) ?_ ?_
          rotate_left
          · intro w'
            go_simp
            with_reducible rfl
          rotate_left
          · simp only [Act.put, List.setIfInBounds_toArray, List.set_cons_zero, List.set_cons_succ, i64_w, i32_w]
            rfl
          refine one_ (i := 13) (N := some 49) #[true, true, true, true, true, true, true, true, true, true, true, true, true, true, false, false, false, false] rfl rfl (one_of HT_.out (by kernel_rfl)) (by decide) (fun K hK => ?_)
          refine call_ 23 #[.bool d, .agg #[.int .i64 u, .int .i64 v, .int .i64 0]] (by rfl) rfl ?_ ((ordered_Gs G2.out u v).mono ?_)
          · go_simp
          rintro e w7 ⟨rfl, g5, g3⟩
          refine ⟨_, rfl, ?_⟩
          have G5 := Aside0.mk g5
          have G3 := Aside0.mk g3
          refine hK.out _ _ ⟨g5.c2, g5.c0⟩ (fun hHeld => ?_)
          clear hK K
          refine norm_ (a' := ?_) ?_ ?_
          rotate_left
          · show Act.put _ (some 49) _ = _
            simp only [Act.put, List.setIfInBounds_toArray, List.set_cons_zero, List.set_cons_succ, i64_w, i32_w]
            rfl
          refine one_ (i := 14) (N := some 50) #[true, true, true, true, true, true, true, true, true, true, true, true, true, true, true, false, false, false] rfl rfl (one_of HT_.out (by kernel_rfl)) (by decide) (fun K hK => ?_)
          refine value_ (w1 := ?_) (v := ?_) (by rfl) rfl ?_ ?_
          rotate_left 2
          · go_simp
            constructor
            · rfl
            · rfl
          refine hK.out _ _ ⟨G3.out.c2, G3.out.c0⟩ (fun hHeld => ?_)
          clear hK K
          refine norm_ (a' := ?_) ?_ ?_
          rotate_left
          · show Act.put _ (some 50) _ = _
            simp only [Act.put, List.setIfInBounds_toArray, List.set_cons_zero, List.set_cons_succ, i64_w, i32_w]
            rfl
          refine last_ (i := 15) (N := some 51) #[true, true, true, true, true, true, true, true, true, true, true, true, true, true, true, true, false, false] rfl rfl (one_of HT_.out (by kernel_rfl)) (by decide) (fun K hK => ?_)
          refine step_append_lies _ (by rfl) _ _ _ (by rfl) w.heap.size 30 i1 _ 3 24 Try.underlying23 HI2.out.1 HI2.out.2.1 HI2.out.2.2.1 HI2.out.2.2.2 rfl (by omega) (.slice VE fs.length CE) fs.length (flE fs) (by rfl) (by exact G3.out.gs.ownE) ⟨w7.heap.size, 0, none⟩ 1 1 (enc30 (orE d (u, v))) (by rfl) (by rfl) (by exact news3 _ _ _) (by simp [enc30, Value.oneCell']) (by omega) (by unfold maxLen; omega) (by omega) (by have := G5.out.gs.bel.size; simp; omega) _ rfl ?_
          intro gg cap w4 hown4 hgr4 hat4 hlt4
          have G4 := Aside0.mk (And.intro hown4 hgr4)
          obtain ⟨hd3, hf3⟩ := far_cell G3.out.gs.blk G3.out.gs.ownE hgr4 2 _ rfl (by decide)
          clear hown4 hgr4 hat4 hlt4
          refine hK.out _ _ ?_
          clear hK K
          refine norm_ (a' := ?_) ?_ ?_
          rotate_left
          · show Act.put _ (some 51) _ = _
            simp only [Act.put, List.setIfInBounds_toArray, List.set_cons_zero, List.set_cons_succ, i64_w, i32_w]
            rfl
          refine pure_ (i := 16) (N := some 52) (v := ?_) (a' := ?_) #[true, true, true, true, true, true, true, true, true, true, true, true, true, true, true, true, true, false] rfl rfl (any_of HT_.out (by kernel_rfl)) (fun _ _ _ h => h) (Or.inl ⟨by rfl, ?_⟩) ?_ ?_
          rotate_left
          · intro w'
            go_simp
            with_reducible rfl
          rotate_left
          · simp only [Act.put, List.setIfInBounds_toArray, List.set_cons_zero, List.set_cons_succ, i64_w, i32_w]
            rfl
          refine last_ (i := 17) (N := none) #[true, true, true, true, true, true, true, true, true, true, true, true, true, true, true, true, true, true] rfl rfl (one_of HT_.out (by kernel_rfl)) (by decide) (fun K hK => ?_)
          refine skip_ (w1 := ?_) (by rfl) rfl ?_ ?_
          rotate_left
          · go_simp
            rfl
          refine hK.out _ _ ?_
          clear hK K
          refine done_ (done_of HT_.out (by kernel_rfl)) ?_
          go_wp2
          go_roundw
          case rel => exact ⟨k + 1, by omega, by go_num, ⟨_, _, by have h := Gs.putE (es' := fs ++ [orE d (u, v)]) G3.out.gs (by simpa [flE] using G4.out.1) G4.out.2; rw [HNS.out, HFS.out]; exact h⟩⟩
          case measure => simp [intOf]; omega
      · have hk' : k = es.length := by omega
        obtain ⟨vN, vE, hG⟩ := HR.out
        rw [hk', List.take_length] at hG
        clear HR
        obtain ⟨VN, CN, rfl⟩ := own_slice hG.ownN
        obtain ⟨VE, CE, rfl⟩ := own_slice hG.ownE
        have hml : (ns ++ endsE es).length ≤ 3000 := by rw [List.length_append, endsE_length]; omega
        have hfl : (es.map (orE d)).length ≤ 1000 := by rw [List.length_map]; omega
        have HND := Aside0.mk hnd
        clear hnd
        generalize hms : ns ++ endsE es = ms at hG hml
        generalize hfs : es.map (orE d) = fs at hG hfl HND
        have HMS := Aside0.mk hms
        have HFS := Aside0.mk hfs
        clear hms hfs
        obtain ⟨p1, p2⟩ := hG.cells
        have HG := Aside0.mk hG
        have HSD := Aside0.mk (show (srtE fs).Pairwise (· ≠ ·) from (srtE_perm fs).nodup_iff.2 HND.out)
        clear hG
        go_wp2_with (first
          | (go_at_call 18; refine (sort_own w.heap.size _ ms _ HG.out.ownN (by omega)).mono ?_; rintro e w1 ⟨rfl, hown, hgr⟩; have G1 := Aside0.mk (Gs.rowN (ns' := srt ms) HG.out (by rw [srt_length]; exact hown) hgr); clear hown hgr; obtain ⟨q1, q2⟩ := G1.out.cells)
          | (go_at_call 19; refine (compact_own w.heap.size _ (srt ms) _ (by have := G1.out.ownN; rw [srt_length] at this ⊢; exact this) (by rw [srt_length]; omega)).mono ?_; rintro e w2 ⟨A2, m2, c2, rfl, rfl, hown, hob2, hgr⟩; obtain ⟨r1, rf1⟩ := far_cell G1.out.blk G1.out.ownN hgr 1 _ rfl (by decide); have G2 := Aside0.mk (Gs.putN (ns' := cpt (srt ms)) G1.out hown hgr); clear hown hgr; obtain ⟨s1, s2⟩ := G2.out.cells)
          | (go_at_call 24; refine (sortF_own w.heap.size _ fs _ G2.out.ownE (by omega)).mono ?_; rintro e w3 ⟨rfl, hown, hgr⟩; have G3 := Aside0.mk (Gs.rowE (es' := srtE fs) G2.out (by rw [srtE_length]; exact hown) hgr); clear hown hgr; obtain ⟨t1, t2⟩ := G3.out.cells)
          | (go_at_call 26; refine (compactE_own w.heap.size _ (srtE fs) _ (by have := G3.out.ownE; rw [srtE_length] at this ⊢; exact this) (by rw [srtE_length]; omega) (HSD.out)).mono ?_; rintro e w4 ⟨rfl, hdr⟩; have G4 := Aside0.mk (G3.out.below hdr.below); clear hdr; obtain ⟨x1, x2⟩ := G4.out.cells; have xf := blk_frozen G4.out.blk 2; have G5 := Aside0.mk (Gs.putE (es' := srtE fs) G4.out G4.out.ownE ⟨rfl, rfl, rfl, Nat.le_refl _, fun _ _ _ => rfl⟩); obtain ⟨y0, y1, y2, z0, z1, z2, zf0, zf1, zf2⟩ := G5.out.all))
        refine bodyPost_ret (v := .agg #[.bool d, .slice A2 (cpt (srt ms)).length c2, .slice VE fs.length CE]) (by simp [results, Try.results11, go_sem, *]) rfl ⟨_, _, rfl, ?_⟩
        rw [HMS.out, HFS.out]
        exact gs_end G5.out
end Go.Proofs.Ytgiebjihceggjaa
