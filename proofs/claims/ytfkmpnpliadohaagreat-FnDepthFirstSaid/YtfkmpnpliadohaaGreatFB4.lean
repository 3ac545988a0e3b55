import Derived.Test.YtfkmpnpliadohaaGreatFB1
import Derived.Maps.OwnSet
import Derived.Deep.RegionHeld3
import Derived.BigRegion
import Derived.Laws.MakeOwn
import Derived.BigQuiet
import Derived.Test.YtfkmpnpliadohaaGreatFB2
set_option linter.unusedVariables false
set_option linter.unusedSimpArgs false
/- Frames: what changes between two places of the heap alone. -/
namespace Go.Proofs.YtfkmpnpliadohaaGreat.R
open Go.RowKit Go.Lab Go.Proofs.YtfkmpnpliadohaaGreatW.PrintWords Go.Proofs.YtfkmpnpliadohaaGreatW.PrintLast Go.Proofs.YtfkmpnpliadohaaGreatW.PrintMore PL

def nodeV (x : Int) : Value := .iface 118 (.int .i64 x)
theorem Tryz.info105 : (Tryz.prog.info? 105).map (fun i => (i.zero, i.size, i.bytes)) = some (some .nilIface, 1, 16) := by kernel_rfl
def nodeVs (xs : List Int) : List Value := xs.map nodeV

/-- of what was there, what lies from lo on and below B alone may change -/
structure Mid (lo B : Nat) (w w' : World) : Prop where
  os : w'.os = w.os
  tape : w'.tape = w.tape
  output : w'.output = w.output
  size : w.heap.size ≤ w'.heap.size
  block : ∀ k, k < w.heap.size → (k < lo ∨ B ≤ k) → w'.heap[k]? = w.heap[k]?

theorem Mid.refl (lo B : Nat) (w : World) : Mid lo B w w := ⟨rfl, rfl, rfl, Nat.le_refl _, fun _ _ _ => rfl⟩
theorem Mid.trans {lo B : Nat} {a b c : World} (h : Mid lo B a b) (k : Mid lo B b c) : Mid lo B a c :=
  ⟨k.os.trans h.os, k.tape.trans h.tape, k.output.trans h.output, Nat.le_trans h.size k.size, fun i hi ho => (k.block i (Nat.lt_of_lt_of_le hi h.size) ho).trans (h.block i hi ho)⟩
theorem Mid.below {lo B : Nat} {w w' : World} (h : Mid lo B w w') (hlo : lo ≤ w.heap.size) : Below lo w w' :=
  ⟨h.os, h.tape, h.output, h.size, fun k hk => h.block k (by omega) (.inl hk)⟩
theorem Mid.of_below {lo B : Nat} {w w' : World} (h : Below w.heap.size w w') : Mid lo B w w' :=
  ⟨h.os, h.tape, h.output, h.size, fun k hk _ => h.block k hk⟩
theorem Mid.of_grown {lo B : Nat} {w w' : World} {row : Option Nat} (h : w.grownBy w' row) (hr : ∀ k, row = some k → k < w.heap.size → lo ≤ k ∧ k < B) : Mid lo B w w' :=
  ⟨h.os, h.tape, h.output, h.size, fun k hk ho => h.block k hk (fun e => by have := hr k e.symm hk; omega)⟩
theorem Mid.set {lo B : Nat} (w : World) (a : Addr) (v : Value) (h1 : lo ≤ a.block) (h2 : a.block < B) : Mid lo B w (w.setCell a v) :=
  ⟨rfl, rfl, rfl, by simp [World.setCell], fun k _ ho => Below.heap_setCell _ _ _ _ (by omega)⟩
theorem Mid.wide {lo B lo' B' : Nat} {w w' : World} (h : Mid lo B w w') (h1 : lo' ≤ lo) (h2 : B ≤ B') : Mid lo' B' w w' :=
  ⟨h.os, h.tape, h.output, h.size, fun k hk ho => h.block k hk (by omega)⟩
theorem Mid.own {lo B : Nat} {w w' : World} (h : Mid lo B w w') {base : Nat} {e : TypeId} {size n : Nat} {v : Value} {xs : List Value} (ho : w.ownsRow base e size v n xs) (hk : ∀ k, v.ownBlock = some k → k < lo ∨ B ≤ k) : w'.ownsRow base e size v n xs :=
  own_move ho fun k hv => by
    obtain ⟨c, hc⟩ := own_block ho hv
    exact h.block k (blk_lt hc) (hk k hv)

/-- an iterator over nodes in order, in block b; k - 1 is its place -/
structure OIt (lo B : Nat) (w : World) (b : Nat) (xs : List Int) (k : Nat) : Prop where
  ex : ∃ v, w.heap[b]? = some (.cells #[.int .i64 ((k : Int) - 1), v] 357 (0, 0)) ∧ w.ownsRow lo 105 1 v xs.length (nodeVs xs) ∧ (∀ q, v.ownBlock = some q → q < B)
  hb : lo ≤ b ∧ b < B
  hk : k ≤ xs.length + 1

theorem OIt.far {lo B : Nat} {w w' : World} {b : Nat} {xs : List Int} {k : Nat} (h : OIt lo B w b xs k) (hk : ∀ q, lo ≤ q → q < B → w'.heap[q]? = w.heap[q]?) : OIt lo B w' b xs k := by
  obtain ⟨v, h1, h2, h3⟩ := h.ex
  exact ⟨⟨v, (hk b h.hb.1 h.hb.2).trans h1, own_move h2 (fun q hq => hk q (own_base h2 q hq) (h3 q hq)), h3⟩, h.hb, h.hk⟩

theorem OIt.lt {lo B : Nat} {w : World} {b : Nat} {xs : List Int} {k : Nat} (h : OIt lo B w b xs k) : b < w.heap.size := by
  obtain ⟨v, h1, _⟩ := h.ex
  exact blk_lt h1

theorem OIt.to {lo B : Nat} {w : World} {b : Nat} {xs : List Int} {k : Nat} (h : OIt lo B w b xs k) (k' : Nat) (hk : k' ≤ xs.length + 1) : OIt lo B (w.setCell ⟨b, 0, none⟩ (.int .i64 ((k' : Int) - 1))) b xs k' := by
  obtain ⟨v, h1, h2, h3⟩ := h.ex
  refine ⟨⟨v, ?_, ?_, h3⟩, h.hb, hk⟩
  · have := blk_set h1 0 (.int .i64 ((k' : Int) - 1))
    simpa using this
  · refine own_move h2 fun q hq => Below.heap_setCell _ _ _ _ ?_
    rintro rfl
    obtain ⟨c, hc⟩ := own_block h2 hq
    exact absurd (blk_type h1 hc) (by decide)

/-- the same iterator, seen from wider places -/
theorem OIt.wide {lo B lo' B' : Nat} {w : World} {b : Nat} {xs : List Int} {k : Nat} (h : OIt lo B w b xs k) (h1 : lo' ≤ lo) (h2 : B ≤ B') : OIt lo' B' w b xs k := by
  obtain ⟨v, e1, e2, e3⟩ := h.ex
  exact ⟨⟨v, e1, own_less e2 h1, fun q hq => Nat.lt_of_lt_of_le (e3 q hq) h2⟩, ⟨Nat.le_trans h1 h.hb.1, Nat.lt_of_lt_of_le h.hb.2 h2⟩, h.hk⟩
end Go.Proofs.YtfkmpnpliadohaaGreat.R

set_option linter.unusedVariables false
set_option linter.unusedSimpArgs false
/- The iterator over nodes in order. -/
namespace Go.Proofs.YtfkmpnpliadohaaGreat.R
open Go.RowKit Go.Lab Go.Proofs.YtfkmpnpliadohaaGreatW.PrintWords Go.Proofs.YtfkmpnpliadohaaGreatW.PrintLast Go.Proofs.YtfkmpnpliadohaaGreatW.PrintMore PL

theorem OIt.cells {lo B : Nat} {w : World} {b : Nat} {xs : List Int} {k : Nat} (h : OIt lo B w b xs k) : ∃ A c, w.cell? ⟨b, 0, none⟩ = some (.int .i64 ((k : Int) - 1)) ∧ w.cell? ⟨b, 1, none⟩ = some (.slice A xs.length c) ∧ w.frozen? ⟨b, 0, none⟩ = false ∧
    (∀ i (hi : i < xs.length), ∃ g, A = some ⟨g, 0, none⟩ ∧ w.cell? ⟨g, i, none⟩ = some (nodeV xs[i]) ∧ g < w.heap.size ∧ xs.length ≤ c) := by
  obtain ⟨v, h1, h2, h3⟩ := h.ex
  obtain ⟨A, c, rfl⟩ := own_slice h2
  refine ⟨A, c, by rw [blk_cell h1]; rfl, by rw [blk_cell h1]; rfl, blk_frozen h1 _, fun i hi => ?_⟩
  obtain ⟨g, c', e1, hvb, hgl⟩ := h2.form (by omega)
  injection e1 with e1 _ e3
  subst e1 e3
  refine ⟨g, rfl, ?_, hgl, own_le h2⟩
  have := h2.cells (g := g) rfl i (nodeV xs[i]) (by simp [nodeVs, hi])
  rw [add_plain] at this
  exact this

theorem Mid.drew (lo B : Nat) (w : World) : Mid lo B w w.drew := ⟨rfl, rfl, rfl, Nat.le_refl _, fun _ _ _ => rfl⟩
theorem OIt.drew {lo B : Nat} {w : World} {b : Nat} {xs : List Int} {k : Nat} (h : OIt lo B w b xs k) : OIt lo B w.drew b xs k := h.far fun _ _ _ => rfl

theorem OIt.to' {lo B : Nat} {w : World} {b : Nat} {xs : List Int} {k : Nat} (h : OIt lo B w b xs k) (k' : Nat) (hk : k' ≤ xs.length + 1) (v : Int) (hv : v = (k' : Int) - 1) : OIt lo B (w.setCell ⟨b, 0, none⟩ (.int .i64 v)) b xs k' := by
  subst hv; exact h.to k' hk

set_option maxHeartbeats 4000000 in
set_option maxRecDepth 100000 in
theorem next_any (lo B b k : Nat) (xs : List Int) (w : World) (h : OIt lo B w b xs k) (hl : xs.length ≤ 100000) :
    Calls Tryz.prog 357 #[.pointer (some ⟨b, 0, none⟩)] w fun e w' => e = .returned (.bool (decide (k < xs.length))) ∧ OIt lo B w' b xs (if k < xs.length then k + 1 else xs.length + 1) ∧ Mid lo B w w' := by
  have HO := Aside0.mk h
  obtain ⟨A, c, h0, h1, hf, hx⟩ := h.cells
  have hk := h.hk
  have hb := h.lt
  have hb2 := h.hb
  have hwr : IntKind.u64.wrap (IntKind.u64.wrap ((k : Int) - 1) + 1) = (k : Int) := by
    simp only [IntKind.wrap_u64]; omega
  clear h hx
  by_cases hlt : k < xs.length
  · rw [if_pos hlt]
    have hd : decide (k < xs.length) = true := by simpa using hlt
    have hdd : decide ((k : Int) < (xs.length : Int)) = true := by simpa using hlt
    rw [hd]
    have HE := Aside0.mk (HO.out.to' (k + 1) (by omega) (k : Int) (by omega)).drew
    go_enter Tryz.func357, Tryz.ntmps357
    go_wp2_with fail
    go_region
    all_goals
      go_wp2
      go_ret
      exact ⟨rfl, HE.out, (Mid.set _ _ _ hb2.1 hb2.2).trans (Mid.drew lo B _)⟩
  · rw [if_neg hlt]
    have hd : decide (k < xs.length) = false := by simpa using hlt
    have hdd : decide ((k : Int) < (xs.length : Int)) = false := by simpa using hlt
    rw [hd]
    have HE := Aside0.mk (HO.out.to' (xs.length + 1) (by omega) (xs.length : Int) (by omega)).drew
    go_enter Tryz.func357, Tryz.ntmps357
    go_wp2_with fail
    go_region
    all_goals
      go_wp2
      go_ret
      exact ⟨rfl, HE.out, (Mid.set _ _ _ hb2.1 hb2.2).trans (Mid.drew lo B _)⟩
end Go.Proofs.YtfkmpnpliadohaaGreat.R

set_option linter.unusedVariables false
set_option linter.unusedSimpArgs false
/- Node, Reset, NewOrderedNodes, and the iterator over all nodes of a plain graph. -/
namespace Go.Proofs.YtfkmpnpliadohaaGreat.R
open Go.RowKit Go.Lab Go.Proofs.YtfkmpnpliadohaaGreatW.PrintWords Go.Proofs.YtfkmpnpliadohaaGreatW.PrintLast Go.Proofs.YtfkmpnpliadohaaGreatW.PrintMore PL

set_option maxHeartbeats 4000000 in
set_option maxRecDepth 100000 in
theorem nodeI_any (lo B b k : Nat) (xs : List Int) (w : World) (h : OIt lo B w b xs (k + 1)) (hk : k < xs.length) (hl : xs.length ≤ 100000) :
    Calls Tryz.prog 358 #[.pointer (some ⟨b, 0, none⟩)] w fun e w' => e = .returned (nodeV xs[k]) ∧ Drawn0 w w' := by
  obtain ⟨A, c, h0, h1, hf, hx⟩ := h.cells
  obtain ⟨g, rfl, hg, hgl, hc⟩ := hx k hk
  have hb := h.lt
  rw [show (((k + 1 : Nat) : Int) - 1) = (k : Int) by omega] at h0
  clear h hx
  have hi1 : (0 : Int) ≤ (k : Int) := by omega
  have hi2 : (k : Int) < (xs.length : Int) := by omega
  have hd1 : decide ((xs.length : Int) ≤ (k : Int)) = false := by simp; omega
  have hd2 : decide ((k : Int) < 0) = false := by simp
  generalize xs[k] = x at hg
  go_enter Tryz.func358, Tryz.ntmps358
  go_wp2_with fail
  go_quiet (fail)
  go_wp2_with fail
  go_quiet (fail)
  go_wp2
  go_ret
  exact ⟨rfl, by repeat (first | exact Drawn0.refl _ | apply Drawn0.step)⟩

set_option maxHeartbeats 400000 in
theorem new_any (A : Option Addr) (n c : Nat) (w : World) :
    Calls Tryz.prog 280 #[.slice A n c] w fun e w' => e = .returned (.pointer (some ⟨w.heap.size, 0, none⟩)) ∧ w.alloc (.cells #[.int .i64 (-1), .slice A n c] 357) = w' := by
  go_enter Tryz.func280, Tryz.ntmps280
  go_wp2
  go_ret
  exact ⟨rfl, rfl⟩

/-- a row of nodes with a new iterator -/
theorem OIt.made {w wr : World} {v : Value} {xs : List Int} (ho : wr.ownsRow w.heap.size 105 1 v xs.length (nodeVs xs)) (hw : w.heap.size ≤ wr.heap.size) :
    OIt w.heap.size (wr.heap.size + 1) (wr.alloc (.cells #[.int .i64 (-1), v] 357)) wr.heap.size xs 0 :=
  ⟨⟨v, heap_alloc_new _ _, ho.alloc _, fun q hq => Nat.lt_succ_of_lt (ho.lt q hq).2⟩, ⟨hw, Nat.lt_succ_self _⟩, Nat.zero_le _⟩

theorem PlOk.idsC {w : World} {base bp : Nat} {p : Pl} (h : PlOk w base bp p) : ∃ A c, w.cell? ⟨bp, 0, none⟩ = some (.slice A p.ids.length c) ∧ Kd.C (Kd.int .i64) w A p.ids.length p.ids ∧ bp < w.heap.size := by
  obtain ⟨ro, ri, vi, vo, vn, hp⟩ := h
  obtain ⟨A, c, rfl, hr⟩ := own_reads hp.ids
  exact ⟨A, c, by rw [blk_cell hp.blk]; rfl, Kd.C_of_reads hr, blk_lt hp.blk⟩

theorem make_nodes (n : Nat) (hn : n ≤ 1000) (W : World) : (Instr.makeSlice 110 (.int .i64 0) (.int .i64 (n : Int))).run Tryz.prog W = .ok (.slice (some ⟨W.heap.size, 0, none⟩) 0 n) (W.alloc (.cells (madeCells #[.nilIface] n) 105)) := by
  obtain ⟨i0, hi, hz0, hz1, hz2⟩ := info_parts Tryz.info105
  have := run_make (P := Tryz.prog) W 110 105 i0 .nilIface Tryz.underlying110 hi hz0 .i64 .i64 0 n (by omega) (by omega) (by rw [hz2]; omega) (by omega)
  simpa [hz1, Value.cells] using this

end Go.Proofs.YtfkmpnpliadohaaGreat.R

set_option linter.unusedVariables false
set_option linter.unusedSimpArgs false
/- The iterator over the nodes of two iterators, each once. -/
namespace Go.Proofs.YtfkmpnpliadohaaGreat.R
open Go.RowKit Go.Lab Go.Maps Go.Proofs.YtfkmpnpliadohaaGreatW.PrintWords Go.Proofs.YtfkmpnpliadohaaGreatW.PrintLast Go.Proofs.YtfkmpnpliadohaaGreatW.PrintMore PL

theorem law2 : Keyed Tryz.prog 2 := int_keyed Tryz.underlying2
theorem zero4 (w : World) : (zeroValue 4).run Tryz.prog w = .ok (.bool false) w := by kernel_rfl

theorem plainElem_bool_inv {P : Program} {e : TypeId} (he : P.underlying e = some .bool) {v : Value} {z : DataW Unit × List MemPlace} (h : plainElem P e v = some z) : ∃ c, v = .bool c ∧ z = (.lit (.bool c), []) := by
  unfold plainElem at h
  rw [he] at h
  cases v <;> simp at h
  exact ⟨_, rfl, h.symm⟩

/-- the map of the pair: whether a number is marked -/
abbrev UMap (w : World) (mb n : Nat) (D : DataW Unit) : Prop := w.ownsMap Tryz.prog 2 (plainElem Tryz.prog 4) mb n D

theorem UMap.look {w : World} {mb n : Nat} {D : DataW Unit} (h : UMap w mb n D) {x : Int} (hx : (Lit.int .i64 x).wf = true) :
    ∃ c, (Instr.lookup 365 (.map (some mb)) (.int .i64 x) false).run Tryz.prog w = .ok (.bool c) w ∧ D.atKey (.int .i64 x) (.lit (.bool false)) = .lit (.bool c) := by
  obtain ⟨v, ps, hrun, hv⟩ := h.lookup law2 Tryz.underlying365 (zero4 w) (plainElem_bool Tryz.underlying4 false) (keyOf_int_mk Tryz.underlying2 hx)
  obtain ⟨c, rfl, hc⟩ := plainElem_bool_inv Tryz.underlying4 hv
  exact ⟨c, hrun, congrArg Prod.fst hc⟩

/-- what the marks are -/
def Marks (D : DataW Unit) (p : Int → Bool) : Prop := ∀ x, D.atKey (.int .i64 x) (.lit (.bool false)) = .lit (.bool (p x))

theorem Marks.put {D : DataW Unit} {p : Int → Bool} (h : Marks D p) (ht : IsMap D) (y : Int) (b : Bool) : Marks (D.put (.int .i64 y) (.lit (.bool b))) fun x => if x = y then b else p x := by
  intro x
  by_cases hx : x = y
  · subst hx
    rw [atKey_put_same ht (by trivial)]; simp
  · rw [atKey_put_other (by intro e; injection e with _ e; exact hx e)]
    simp [hx, h x]

/-- the iterator of two iterators, in block b -/
structure PIn (lo : Nat) (w : World) (b : Nat) (xs ys : List Int) (i j : Nat) (cur : Value) (la Ba ba lb Bb bb mb n : Nat) (c1 c2 : Int) (D : DataW Unit) : Prop where
  blk : w.heap[b]? = some (.cells #[.iface 354 (.pointer (some ⟨ba, 0, none⟩)), .iface 354 (.pointer (some ⟨bb, 0, none⟩)), cur, .int .i64 c1, .int .i64 c2, .map (some mb)] 367 (0, 0))
  ia : OIt la Ba w ba xs i
  ib : OIt lb Bb w bb ys j
  ap : Ba ≤ lb ∨ Bb ≤ la
  ha : lo ≤ la
  hb : lo ≤ lb
  ma : Ba ≤ mb
  mb' : Bb ≤ mb
  mlt : mb < b
  map : UMap w mb n D

section
variable {lo : Nat} {w w1 : World} {b : Nat} {xs ys : List Int} {i j : Nat} {cur : Value} {la Ba ba lb Bb bb mb n : Nat} {c1 c2 : Int} {D : DataW Unit}

theorem PIn.lt (h : PIn lo w b xs ys i j cur la Ba ba lb Bb bb mb n c1 c2 D) : b < w.heap.size := blk_lt h.blk
theorem PIn.lolt (h : PIn lo w b xs ys i j cur la Ba ba lb Bb bb mb n c1 c2 D) : lo ≤ b := by
  have := h.ia.hb; have := h.ha; have := h.ma; have := h.mlt; omega

theorem UMap.stay {mb n : Nat} {D : DataW Unit} (h : UMap w mb n D) (hk : w1.heap[mb]? = w.heap[mb]?) : UMap w1 mb n D := by
  obtain ⟨es, clock, hb, F, hs, hD⟩ := h
  exact ⟨es, clock, hk.trans hb, F, hs, hD⟩

theorem PIn.same (h : PIn lo w b xs ys i j cur la Ba ba lb Bb bb mb n c1 c2 D) (hs : w1.heap = w.heap) : PIn lo w1 b xs ys i j cur la Ba ba lb Bb bb mb n c1 c2 D :=
  ⟨by rw [hs]; exact h.blk, h.ia.far fun _ _ _ => by rw [hs], h.ib.far fun _ _ _ => by rw [hs], h.ap, h.ha, h.hb, h.ma, h.mb', h.mlt, h.map.stay (by rw [hs])⟩

theorem PIn.put (h : PIn lo w b xs ys i j cur la Ba ba lb Bb bb mb n c1 c2 D) {n' : Nat} {D' : DataW Unit} (hm : UMap w1 mb n' D') (hg : w.grownBy w1 (some mb)) : PIn lo w1 b xs ys i j cur la Ba ba lb Bb bb mb n' c1 c2 D' := by
  have h2 := h.mlt
  have hk : ∀ q, q < w.heap.size → q ≠ mb → w1.heap[q]? = w.heap[q]? := fun q hq hne => hg.block q hq (fun e => hne (Option.some.inj e))
  have hml := h.map.lt
  refine ⟨(hk b h.lt (by omega)).trans h.blk, h.ia.far fun q _ h4 => hk q ?_ ?_, h.ib.far fun q _ h4 => hk q ?_ ?_, h.ap, h.ha, h.hb, h.ma, h.mb', h.mlt, hm⟩
  all_goals have := h.ma; have := h.mb'; omega

/-- a cell of the pair's own block is written -/
theorem PIn.cell (h : PIn lo w b xs ys i j cur la Ba ba lb Bb bb mb n c1 c2 D) (k : Nat) (v : Value) : (∀ q, q ≠ b → (w.setCell ⟨b, k, none⟩ v).heap[q]? = w.heap[q]?) ∧ OIt la Ba (w.setCell ⟨b, k, none⟩ v) ba xs i ∧ OIt lb Bb (w.setCell ⟨b, k, none⟩ v) bb ys j ∧ UMap (w.setCell ⟨b, k, none⟩ v) mb n D := by
  have h2 := h.mlt
  have hk : ∀ q, q ≠ b → (w.setCell ⟨b, k, none⟩ v).heap[q]? = w.heap[q]? := fun q hq => Below.heap_setCell _ _ _ _ (fun e => hq e)
  refine ⟨hk, h.ia.far fun q _ h4 => hk q ?_, h.ib.far fun q _ h4 => hk q ?_, h.map.stay (hk mb (by omega))⟩
  all_goals have := h.ma; have := h.mb'; omega

theorem PIn.cells (h : PIn lo w b xs ys i j cur la Ba ba lb Bb bb mb n c1 c2 D) : w.cell? ⟨b, 0, none⟩ = some (.iface 354 (.pointer (some ⟨ba, 0, none⟩))) ∧ w.cell? ⟨b, 1, none⟩ = some (.iface 354 (.pointer (some ⟨bb, 0, none⟩))) ∧ w.cell? ⟨b, 2, none⟩ = some cur ∧
    w.cell? ⟨b, 3, none⟩ = some (.int .i64 c1) ∧ w.cell? ⟨b, 4, none⟩ = some (.int .i64 c2) ∧ w.cell? ⟨b, 5, none⟩ = some (.map (some mb)) ∧ (∀ k, w.frozen? ⟨b, k, none⟩ = false) ∧ b < w.heap.size := by
  refine ⟨?_, ?_, ?_, ?_, ?_, ?_, fun k => blk_frozen h.blk _, h.lt⟩
  all_goals rw [blk_cell h.blk]; rfl
end
end Go.Proofs.YtfkmpnpliadohaaGreat.R

namespace Go.Proofs.YtfkmpnpliadohaaGreat.R
open Go.RowKit Go.Lab Go.Proofs.YtfkmpnpliadohaaGreatW.PrintWords Go.Proofs.YtfkmpnpliadohaaGreatW.PrintLast Go.Proofs.YtfkmpnpliadohaaGreatW.PrintMore PL

set_option maxHeartbeats 1000000 in
theorem hasBetween_any (base bp : Nat) (p : Pl) (u v : Int) (w : World) (h : PlOk w base bp p) (hs : p.ids.Pairwise (· < ·)) (hg : p.Good) :
    Calls Tryz.prog 331 #[.agg #[.pointer (some ⟨bp, 0, none⟩)], .int .i64 u, .int .i64 v] w fun e w' => e = .returned (.bool (p.has u v)) ∧ Below w.heap.size w w' := by
  have HW := Aside0.mk (h.below ((Below.refl _ _).alloc (Nat.le_refl _) (.cells #[.pointer (some ⟨bp, 0, none⟩)] 177)))
  have HS := Aside0.mk hs
  have HG := Aside0.mk hg
  have HF := Aside0.mk (show p.has u v = (p.find u v).isSome from rfl)
  obtain ⟨f, hf⟩ : ∃ f, f = p.find u v := ⟨_, rfl⟩
  rw [← hf] at HF
  have HFF := Aside0.mk hf
  obtain ⟨b, hb⟩ : ∃ b, b = p.has u v := ⟨_, rfl⟩
  rw [← hb] at HF ⊢
  clear h hs hg hf hb
  cases f with
  | none =>
    have hb : b = false := HF.out
    subst hb
    go_enter Tryz.func331, Tryz.ntmps331
    go_wp2_with (go_at_call 279; refine (find_any base bp p _ _ _ HW.out HS.out HG.out).mono ?_; rintro e' w1 ⟨rfl, hbel⟩; rw [← HFF.out]; unfold arcV; have HBEL := Aside0.mk hbel; clear hbel)
    go_ret
    refine ⟨rfl, ?_⟩
    have h1 := Below.up ((Below.refl w.heap.size w).alloc (Nat.le_refl _) _) HBEL.out (Nat.le_refl _)
    exact h1.alloc h1.size _
  | some a =>
    have hb : b = true := HF.out
    subst hb
    go_enter Tryz.func331, Tryz.ntmps331
    go_wp2_with (go_at_call 279; refine (find_any base bp p _ _ _ HW.out HS.out HG.out).mono ?_; rintro e' w1 ⟨rfl, hbel⟩; rw [← HFF.out]; unfold arcV; have HBEL := Aside0.mk hbel; clear hbel)
    go_ret
    refine ⟨rfl, ?_⟩
    have h1 := Below.up ((Below.refl w.heap.size w).alloc (Nat.le_refl _) _) HBEL.out (Nat.le_refl _)
    exact h1.alloc h1.size _


end Go.Proofs.YtfkmpnpliadohaaGreat.R

set_option linter.unusedVariables false
set_option linter.unusedSimpArgs false
/- What a plain graph of directed edges holds, in the words of its list of edges. -/
namespace Go.Proofs.YtfkmpnpliadohaaGreat.R
open Go.RowKit Go.Lab Go.Proofs.YtfkmpnpliadohaaGreatW.PrintWords Go.Proofs.YtfkmpnpliadohaaGreatW.PrintLast Go.Proofs.YtfkmpnpliadohaaGreatW.PrintMore PL

/-- the weight of the last edge from u to v -/
def arcW (es : List S38) (u v : Int) : Option Int := es.foldl (fun o e => if e.f0 = u ∧ e.f1 = v then some e.f2 else o) none

theorem arcW_snoc (es : List S38) (e : S38) (u v : Int) : arcW (es ++ [e]) u v = if e.f0 = u ∧ e.f1 = v then some e.f2 else arcW es u v := by
  unfold arcW; rw [List.foldl_append]; rfl

theorem snoc_ind {α : Type} {P : List α → Prop} (l : List α) (h0 : P []) (h1 : ∀ l a, P l → P (l ++ [a])) : P l := by
  rw [← List.reverse_reverse l]
  generalize l.reverse = m
  induction m with
  | nil => exact h0
  | cons a m ih => rw [List.reverse_cons]; exact h1 _ _ ih

theorem arcW_mem {es : List S38} {u v n : Int} (h : arcW es u v = some n) : ∃ e ∈ es, e.f0 = u ∧ e.f1 = v ∧ e.f2 = n := by
  revert h
  refine snoc_ind (P := fun es => arcW es u v = some n → ∃ e ∈ es, e.f0 = u ∧ e.f1 = v ∧ e.f2 = n) es (fun h => by cases h) fun es e ih h => ?_
  rw [arcW_snoc] at h
  split at h
  · rename_i hc
    injection h with h
    exact ⟨e, by simp, hc.1, hc.2, h⟩
  · obtain ⟨e', h1, h2⟩ := ih h
    exact ⟨e', by simp [h1], h2⟩

theorem arcW_some {es : List S38} {u v : Int} : (arcW es u v).isSome = true ↔ ∃ e ∈ es, e.f0 = u ∧ e.f1 = v := by
  constructor
  · intro h
    obtain ⟨n, hn⟩ := Option.isSome_iff_exists.1 h
    obtain ⟨e, h1, h2, h3, _⟩ := arcW_mem hn
    exact ⟨e, h1, h2, h3⟩
  · rintro ⟨e, h1, h2, h3⟩
    revert h1
    refine snoc_ind (P := fun es => e ∈ es → (arcW es u v).isSome = true) es (fun h => by cases h) fun es e' ih h1 => ?_
    rw [arcW_snoc]
    split
    · rfl
    · rename_i hc
      rw [List.mem_append, List.mem_singleton] at h1
      rcases h1 with h1 | rfl
      · exact ih h1
      · exact absurd ⟨h2, h3⟩ hc

theorem keys_get (l : List (Int × Nat)) (i : Nat) (h : i < (keys l).length) : (keys l)[i] = (l[i]'(by simpa [keys] using h)).1 := by simp [keys]

theorem mem_setA {l : List (Int × Nat)} (hs : (keys l).Pairwise (· < ·)) (k : Int) (x : Nat) (a : Int × Nat) : a ∈ setA l k x ↔ a = (k, x) ∨ (a ∈ l ∧ a.1 ≠ k) := by
  unfold setA
  by_cases hm : k ∈ keys l
  · rw [if_pos hm]
    obtain ⟨hr, he⟩ := (rank_mem hs k).1 hm
    have hr' : rank (keys l) k < l.length := by rw [keys_length] at hr; exact hr
    constructor
    · intro h
      obtain ⟨j, hj, rfl⟩ := List.getElem_of_mem h
      rw [List.length_set] at hj
      rw [List.getElem_set]
      split
      · exact .inl rfl
      · rename_i hne
        refine .inr ⟨List.getElem_mem _, fun hk => hne ?_⟩
        have h1 : (keys l)[j]'(by rw [keys_length]; exact hj) = k := by rw [keys_get]; exact hk
        rcases Nat.lt_trichotomy (rank (keys l) k) j with h2 | h2 | h2
        · have := List.pairwise_iff_getElem.1 hs _ _ hr (by rw [keys_length]; exact hj) h2; omega
        · exact h2
        · have := List.pairwise_iff_getElem.1 hs _ _ (by rw [keys_length]; exact hj) hr h2; omega
    · rintro (rfl | ⟨h1, h2⟩)
      · exact List.mem_iff_getElem.2 ⟨rank (keys l) k, by rw [List.length_set]; exact hr', by simp⟩
      · obtain ⟨j, hj, rfl⟩ := List.getElem_of_mem h1
        refine List.mem_iff_getElem.2 ⟨j, by rw [List.length_set]; exact hj, ?_⟩
        rw [List.getElem_set, if_neg]
        rintro rfl
        rw [keys_get] at he
        exact h2 he
  · rw [if_neg hm]
    unfold insAt
    have hne : ∀ a ∈ l, a.1 ≠ k := fun a ha h => hm (List.mem_map.2 ⟨a, ha, h⟩)
    have hl : a ∈ l ↔ a ∈ l.take (rank (keys l) k) ∨ a ∈ l.drop (rank (keys l) k) := by
      rw [← List.mem_append, List.take_append_drop]
    rw [List.mem_append, List.mem_cons]
    constructor
    · rintro (h | h | h)
      · exact .inr ⟨hl.2 (.inl h), hne _ (hl.2 (.inl h))⟩
      · exact .inl h
      · exact .inr ⟨hl.2 (.inr h), hne _ (hl.2 (.inr h))⟩
    · rintro (h | ⟨h, _⟩)
      · exact .inr (.inl h)
      · rcases hl.1 h with h | h
        · exact .inl h
        · exact .inr (.inr h)

/-- what the rows of a plain graph are for a list of edges -/
structure Adj (zs : List Int) (es : List S38) (p : Pl) : Prop where
  ids : p.ids = srt zs
  lo : p.out.length = (srt zs).length
  li : p.inn.length = (srt zs).length
  out : ∀ i, i < (srt zs).length → ∀ a, a ∈ p.out.getD i [] ↔ ∃ k n, k < (srt zs).length ∧ a = ((k : Int), floatOfInt .f64 n) ∧ arcW es ((srt zs).getD i 0) ((srt zs).getD k 0) = some n
  inn : ∀ i, i < (srt zs).length → ∀ a, a ∈ p.inn.getD i [] ↔ ∃ k n, k < (srt zs).length ∧ a = ((k : Int), floatOfInt .f64 n) ∧ arcW es ((srt zs).getD k 0) ((srt zs).getD i 0) = some n

theorem getD_srt_inj {ids : List Int} (h : ids.Pairwise (· < ·)) {i j : Nat} (hi : i < ids.length) (hj : j < ids.length) (he : ids.getD i 0 = ids.getD j 0) : i = j := by
  simp only [List.getD_eq_getElem?_getD, List.getElem?_eq_getElem hi, List.getElem?_eq_getElem hj, Option.getD_some] at he
  rcases Nat.lt_trichotomy i j with h1 | h1 | h1
  · have := List.pairwise_iff_getElem.1 h _ _ hi hj h1; omega
  · exact h1
  · have := List.pairwise_iff_getElem.1 h _ _ hj hi h1; omega

theorem rank_at {ids : List Int} (h : ids.Pairwise (· < ·)) {t : Int} (ht : t ∈ ids) : rank ids t < ids.length ∧ ids.getD (rank ids t) 0 = t := by
  obtain ⟨hr, he⟩ := (rank_mem h t).1 ht
  exact ⟨hr, by simp [List.getD_eq_getElem?_getD, List.getElem?_eq_getElem hr, he]⟩

theorem getD_set_self {α : Type} (L : List α) (i : Nat) (x d : α) (h : i < L.length) : (L.set i x).getD i d = x := by
  simp [List.getD_eq_getElem?_getD, h]
theorem getD_set_other {α : Type} (L : List α) (i j : Nat) (x d : α) (h : i ≠ j) : (L.set i x).getD j d = L.getD j d := by
  simp [List.getD_eq_getElem?_getD, h]

theorem Adj.step {zs : List Int} {es : List S38} {p : Pl} (h : Adj zs es p) (hg : p.Good) (hs : (srt zs).Pairwise (· < ·)) (e : S38) (h0 : e.f0 ∈ srt zs) (h1 : e.f1 ∈ srt zs) : Adj zs (es ++ [e]) (layE true p e) := by
  obtain ⟨a0, b0⟩ := rank_at hs h0
  obtain ⟨a1, b1⟩ := rank_at hs h1
  have hl : layE true p e = (p.outs (rank (srt zs) e.f0) (rank (srt zs) e.f1) (floatOfInt .f64 e.f2)).inns (rank (srt zs) e.f1) (rank (srt zs) e.f0) (floatOfInt .f64 e.f2) := by
    unfold layE Pl.lay; rw [h.ids]; rfl
  rw [hl]
  refine ⟨h.ids, ?_, ?_, ?_, ?_⟩
  · show (p.out.set _ _).length = _; rw [List.length_set]; exact h.lo
  · show (p.inn.set _ _).length = _; rw [List.length_set]; exact h.li
  · intro i hi a
    show a ∈ (p.out.set (rank (srt zs) e.f0) (setA (p.out.getD (rank (srt zs) e.f0) []) (rank (srt zs) e.f1 : Nat) (floatOfInt .f64 e.f2))).getD i [] ↔ _
    by_cases hr : rank (srt zs) e.f0 = i
    · subst hr
      rw [getD_set_self _ _ _ _ (by rw [h.lo]; exact a0), mem_setA (hg.out _).1, b0, h.out _ a0, b0]
      constructor
      · rintro (rfl | ⟨⟨k, n, hk, rfl, hn⟩, hne⟩)
        · exact ⟨_, e.f2, a1, rfl, by rw [arcW_snoc, b1, if_pos ⟨rfl, rfl⟩]⟩
        · refine ⟨k, n, hk, rfl, ?_⟩
          rw [arcW_snoc, if_neg]
          · exact hn
          · rintro ⟨_, hh⟩
            have := getD_srt_inj hs a1 hk (by rw [b1, hh])
            subst this
            exact hne rfl
      · rintro ⟨k, n, hk, rfl, hn⟩
        rw [arcW_snoc] at hn
        by_cases hkk : k = rank (srt zs) e.f1
        · subst hkk
          rw [b1, if_pos ⟨rfl, rfl⟩] at hn
          injection hn with hn
          subst hn
          exact .inl rfl
        · rw [if_neg] at hn
          · refine .inr ⟨⟨k, n, hk, rfl, hn⟩, ?_⟩
            show ¬ (k : Int) = _
            omega
          · rintro ⟨_, hh⟩
            exact hkk (getD_srt_inj hs hk a1 (by rw [b1, hh]))
    · rw [getD_set_other _ _ _ _ _ hr, h.out i hi]
      have hne : ∀ k, arcW (es ++ [e]) ((srt zs).getD i 0) ((srt zs).getD k 0) = arcW es ((srt zs).getD i 0) ((srt zs).getD k 0) := by
        intro k
        rw [arcW_snoc, if_neg]
        rintro ⟨hh, _⟩
        exact hr (getD_srt_inj hs a0 hi (by rw [b0, hh]))
      simp only [hne]
  · intro i hi a
    show a ∈ (p.inn.set (rank (srt zs) e.f1) (setA (p.inn.getD (rank (srt zs) e.f1) []) (rank (srt zs) e.f0 : Nat) (floatOfInt .f64 e.f2))).getD i [] ↔ _
    by_cases hr : rank (srt zs) e.f1 = i
    · subst hr
      rw [getD_set_self _ _ _ _ (by rw [h.li]; exact a1), mem_setA (hg.inn _).1, b1, h.inn _ a1, b1]
      constructor
      · rintro (rfl | ⟨⟨k, n, hk, rfl, hn⟩, hne⟩)
        · exact ⟨_, e.f2, a0, rfl, by rw [arcW_snoc, b0, if_pos ⟨rfl, rfl⟩]⟩
        · refine ⟨k, n, hk, rfl, ?_⟩
          rw [arcW_snoc, if_neg]
          · exact hn
          · rintro ⟨hh, _⟩
            have := getD_srt_inj hs a0 hk (by rw [b0, hh])
            subst this
            exact hne rfl
      · rintro ⟨k, n, hk, rfl, hn⟩
        rw [arcW_snoc] at hn
        by_cases hkk : k = rank (srt zs) e.f0
        · subst hkk
          rw [b0, if_pos ⟨rfl, rfl⟩] at hn
          injection hn with hn
          subst hn
          exact .inl rfl
        · rw [if_neg] at hn
          · refine .inr ⟨⟨k, n, hk, rfl, hn⟩, ?_⟩
            show ¬ (k : Int) = _
            omega
          · rintro ⟨hh, _⟩
            exact hkk (getD_srt_inj hs hk a0 (by rw [b0, hh]))
    · rw [getD_set_other _ _ _ _ _ hr, h.inn i hi]
      have hne : ∀ k, arcW (es ++ [e]) ((srt zs).getD k 0) ((srt zs).getD i 0) = arcW es ((srt zs).getD k 0) ((srt zs).getD i 0) := by
        intro k
        rw [arcW_snoc, if_neg]
        rintro ⟨_, hh⟩
        exact hr (getD_srt_inj hs a1 hi (by rw [b1, hh]))
      simp only [hne]

theorem pl0_adj (zs : List Int) : Adj zs [] (pl0 (srt zs)) := by
  have hr : ∀ i, (List.replicate (srt zs).length ([] : List (Int × Nat))).getD i [] = [] := by
    intro i
    rw [List.getD_eq_getElem?_getD, List.getElem?_replicate]; split <;> rfl
  refine ⟨rfl, by simp [pl0], by simp [pl0], ?_, ?_⟩
  all_goals
    intro i hi a
    unfold pl0
    rw [hr]
    constructor
    · intro h; cases h
    · rintro ⟨k, n, _, _, hn⟩; cases hn

theorem plOf_adj (zs : List Int) (hz : zs.length ≤ 1000) (h : (srt zs).Pairwise (· < ·)) (es : List S38) (he : es.all (goodE zs) = true) : Adj zs es (plOf true zs es) := by
  revert he
  refine snoc_ind (P := fun es => es.all (goodE zs) = true → Adj zs es (plOf true zs es)) es (fun _ => pl0_adj zs) fun es e ih he => ?_
  rw [List.all_append, Bool.and_eq_true] at he
  have he2 : goodE zs e = true := by simpa using he.2
  rw [plOf_snoc]
  unfold goodE at he2
  simp only [Bool.and_eq_true, decide_eq_true_eq] at he2
  exact (ih he.1).step (plOf_good true zs hz h es he.1) h e ((mem_srt _ _).2 he2.1.1.1.1) ((mem_srt _ _).2 he2.1.1.1.2)

/-- the nodes to which edges lead from u -/
def outN (zs : List Int) (es : List S38) (u : Int) : List Int := (srt zs).filter fun v => (arcW es u v).isSome
/-- the nodes from which edges lead to u -/
def innN (zs : List Int) (es : List S38) (u : Int) : List Int := (srt zs).filter fun v => (arcW es v u).isSome

theorem int_ext {l1 l2 : List Int} (h1 : l1.Pairwise (· < ·)) (h2 : l2.Pairwise (· < ·)) (hm : ∀ x, x ∈ l1 ↔ x ∈ l2) : l1 = l2 := by
  induction l1 generalizing l2 with
  | nil =>
    cases l2 with
    | nil => rfl
    | cons y r => exact absurd ((hm y).2 (by simp)) (by simp)
  | cons x r ih =>
    cases l2 with
    | nil => exact absurd ((hm x).1 (by simp)) (by simp)
    | cons y s =>
      rw [List.pairwise_cons] at h1 h2
      have e : x = y := by
        have a := (hm x).1 (by simp)
        have b := (hm y).2 (by simp)
        rw [List.mem_cons] at a b
        rcases a with a | a
        · exact a
        · rcases b with b | b
          · exact b.symm
          · have := h2.1 _ a; have := h1.1 _ b; omega
      subst e
      rw [ih h1.2 h2.2]
      intro z
      constructor
      · intro hz
        have := (hm z).1 (by simp [hz])
        rw [List.mem_cons] at this
        rcases this with rfl | h
        · exact absurd (h1.1 _ hz) (by omega)
        · exact h
      · intro hz
        have := (hm z).2 (by simp [hz])
        rw [List.mem_cons] at this
        rcases this with rfl | h
        · exact absurd (h2.1 _ hz) (by omega)
        · exact h

theorem ends_eq {ids : List Int} (hs : ids.Pairwise (· < ·)) {l : List (Int × Nat)} (hl : GoodRow ids.length l) {f : Int → Option Int}
    (hm : ∀ a, a ∈ l ↔ ∃ k n, k < ids.length ∧ a = ((k : Int), floatOfInt .f64 n) ∧ f (ids.getD k 0) = some n) : l.map (fun a => ids.getD a.1.toNat 0) = ids.filter fun v => (f v).isSome := by
  refine int_ext ?_ (hs.filter _) fun v => ?_
  · rw [List.pairwise_map]
    have h1 : l.Pairwise fun a b => a.1 < b.1 := by
      have := hl.1
      unfold keys at this
      rw [List.pairwise_map] at this
      exact this
    refine h1.imp_of_mem ?_
    intro a b ha hb hab
    obtain ⟨ka, _, hka, rfl, _⟩ := (hm a).1 ha
    obtain ⟨kb, _, hkb, rfl, _⟩ := (hm b).1 hb
    have hab : (ka : Int) < (kb : Int) := hab
    show ids.getD ((ka : Int)).toNat 0 < ids.getD ((kb : Int)).toNat 0
    simp only [Int.toNat_natCast, List.getD_eq_getElem?_getD, List.getElem?_eq_getElem hka, List.getElem?_eq_getElem hkb, Option.getD_some]
    exact List.pairwise_iff_getElem.1 hs _ _ hka hkb (by omega)
  · rw [List.mem_map, List.mem_filter]
    constructor
    · rintro ⟨a, ha, rfl⟩
      obtain ⟨k, n, hk, rfl, hn⟩ := (hm a).1 ha
      show ids.getD ((k : Int)).toNat 0 ∈ ids ∧ _
      rw [Int.toNat_natCast]
      refine ⟨?_, by rw [hn]; rfl⟩
      simp only [List.getD_eq_getElem?_getD, List.getElem?_eq_getElem hk, Option.getD_some]
      exact List.getElem_mem _
    · rintro ⟨h1, h2⟩
      obtain ⟨n, hn⟩ := Option.isSome_iff_exists.1 h2
      obtain ⟨a, b⟩ := rank_at hs h1
      exact ⟨((rank ids v : Nat), floatOfInt .f64 n), (hm _).2 ⟨_, n, a, rfl, by rw [b]; exact hn⟩, by show ids.getD ((rank ids v : Nat) : Int).toNat 0 = v; rw [Int.toNat_natCast, b]⟩

theorem Adj.outN {zs : List Int} {es : List S38} {p : Pl} (h : Adj zs es p) (hg : p.Good) (hs : (srt zs).Pairwise (· < ·)) {u : Int} (hu : u ∈ srt zs) :
    (p.out.getD (rank p.ids u) []).map (fun a => p.ids.getD a.1.toNat 0) = outN zs es u := by
  obtain ⟨a, b⟩ := rank_at hs hu
  have hrow := hg.out (rank p.ids u)
  rw [h.ids] at hrow ⊢
  exact ends_eq hs hrow (f := fun v => arcW es u v) fun c => by rw [h.out _ a, b]

theorem Adj.innN {zs : List Int} {es : List S38} {p : Pl} (h : Adj zs es p) (hg : p.Good) (hs : (srt zs).Pairwise (· < ·)) {u : Int} (hu : u ∈ srt zs) :
    (p.inn.getD (rank p.ids u) []).map (fun a => p.ids.getD a.1.toNat 0) = innN zs es u := by
  obtain ⟨a, b⟩ := rank_at hs hu
  have hrow := hg.inn (rank p.ids u)
  rw [h.ids] at hrow ⊢
  exact ends_eq hs hrow (f := fun v => arcW es v u) fun c => by rw [h.inn _ a, b]

theorem Adj.find {zs : List Int} {es : List S38} {p : Pl} (h : Adj zs es p) (hg : p.Good) (hs : (srt zs).Pairwise (· < ·)) {u v : Int} (hu : u ∈ srt zs) (hv : v ∈ srt zs) :
    p.find u v = (arcW es u v).map fun n => (((rank (srt zs) v : Nat) : Int), floatOfInt .f64 n) := by
  obtain ⟨a, b⟩ := rank_at hs hu
  obtain ⟨a', b'⟩ := rank_at hs hv
  have hrow := hg.out (rank p.ids u)
  have hm := h.out _ a
  unfold Pl.find Pl.row
  rw [h.ids] at hrow ⊢
  cases hn : arcW es u v with
  | none =>
    rw [if_neg]
    · rfl
    · rintro ⟨_, _, hk⟩
      obtain ⟨x, hx, hx2⟩ := List.mem_map.1 hk
      obtain ⟨k, n, hk1, rfl, hk2⟩ := (hm x).1 hx
      have : k = rank (srt zs) v := by have h9 : (k : Int) = ((rank (srt zs) v : Nat) : Int) := hx2; omega
      subst this
      rw [b, b', hn] at hk2
      cases hk2
  | some n =>
    have hmem : (((rank (srt zs) v : Nat) : Int), floatOfInt .f64 n) ∈ p.out.getD (rank (srt zs) u) [] := (hm _).2 ⟨_, n, a', rfl, by rw [b, b']; exact hn⟩
    have hk : ((rank (srt zs) v : Nat) : Int) ∈ keys (p.out.getD (rank (srt zs) u) []) := List.mem_map.2 ⟨_, hmem, rfl⟩
    rw [if_pos ⟨hu, hv, hk⟩]
    obtain ⟨hr, he⟩ := (rank_mem hrow.1 _).1 hk
    rw [keys_get] at he
    have hr' : rank (keys (p.out.getD (rank (srt zs) u) [])) ((rank (srt zs) v : Nat) : Int) < (p.out.getD (rank (srt zs) u) []).length := by rw [keys_length] at hr; exact hr
    rw [List.getElem?_eq_getElem hr']
    show _ = some _
    congr 1
    obtain ⟨k, n', hk1, e1, hk2⟩ := (hm _).1 (List.getElem_mem hr')
    rw [e1] at he ⊢
    have : k = rank (srt zs) v := by have h9 : (k : Int) = ((rank (srt zs) v : Nat) : Int) := he; omega
    subst this
    rw [b, b', hn] at hk2
    injection hk2 with hk2
    rw [hk2]
end Go.Proofs.YtfkmpnpliadohaaGreat.R

set_option linter.unusedVariables false
set_option linter.unusedSimpArgs false
/- The graph without directions, in the words of the list of edges. -/
namespace Go.Proofs.YtfkmpnpliadohaaGreat.R
open Go.RowKit Go.Lab Go.Proofs.YtfkmpnpliadohaaGreatW.PrintWords Go.Proofs.YtfkmpnpliadohaaGreatW.PrintLast Go.Proofs.YtfkmpnpliadohaaGreatW.PrintMore PL

/-- two lists in one: what the second one has more -/
def both (xs ys : List Int) : List Int := xs ++ ys.filter fun v => !decide (v ∈ xs)
/-- the neighbours of u -/
def nbs (zs : List Int) (es : List S38) (u : Int) : List Int := srt (both (outN zs es u) (innN zs es u))

theorem lt_nodup {l : List Int} (h : l.Pairwise (· < ·)) : l.Nodup := h.imp (fun h => by omega)

theorem both_nodup {xs ys : List Int} (hx : xs.Nodup) (hy : ys.Nodup) : (both xs ys).Nodup := by
  unfold both
  rw [List.nodup_append]
  refine ⟨hx, hy.filter _, fun a ha b hb e => ?_⟩
  subst e
  rw [List.mem_filter] at hb
  simp [ha] at hb

theorem mem_both (xs ys : List Int) (v : Int) : v ∈ both xs ys ↔ v ∈ xs ∨ v ∈ ys := by
  unfold both
  rw [List.mem_append, List.mem_filter]
  by_cases h : v ∈ xs <;> simp [h]

theorem nbs_eq {zs : List Int} (hs : (srt zs).Pairwise (· < ·)) (es : List S38) (u : Int) : nbs zs es u = (srt zs).filter fun v => (arcW es u v).isSome || (arcW es v u).isSome := by
  have h1 : (outN zs es u).Pairwise (· < ·) := hs.filter _
  have h2 : (innN zs es u).Pairwise (· < ·) := hs.filter _
  refine int_ext (srt_lt (both_nodup (lt_nodup h1) (lt_nodup h2))) (hs.filter _) fun v => ?_
  unfold nbs
  rw [mem_srt, mem_both]
  unfold outN innN
  simp only [List.mem_filter, Bool.or_eq_true]
  constructor
  · rintro (⟨a, b⟩ | ⟨a, b⟩)
    · exact ⟨a, .inl b⟩
    · exact ⟨a, .inr b⟩
  · rintro ⟨a, b | b⟩
    · exact .inl ⟨a, b⟩
    · exact .inr ⟨a, b⟩

theorem arcW_le {zs : List Int} {es : List S38} (he : es.all (goodE zs) = true) {u v n : Int} (h : arcW es u v = some n) : -1099511627776 ≤ n ∧ n ≤ 1099511627776 := by
  obtain ⟨e, hm, _, _, rfl⟩ := arcW_mem h
  have := List.all_eq_true.1 he e hm
  unfold goodE at this
  simp only [Bool.and_eq_true, Bool.not_eq_true', decide_eq_true_eq, decide_eq_false_iff_not] at this
  omega

theorem arcW_self {zs : List Int} {es : List S38} (he : es.all (goodE zs) = true) (u : Int) : arcW es u u = none := by
  cases h : arcW es u u with
  | none => rfl
  | some n =>
    obtain ⟨e, hm, h1, h2, _⟩ := arcW_mem h
    have := List.all_eq_true.1 he e hm
    unfold goodE at this
    simp only [Bool.and_eq_true, Bool.not_eq_true', decide_eq_true_eq, decide_eq_false_iff_not] at this
    exact absurd (h1.trans h2.symm) this.1.1.2

end Go.Proofs.YtfkmpnpliadohaaGreat.R

set_option linter.unusedVariables false
set_option linter.unusedSimpArgs false
/- The methods of the iterator of two iterators. -/
namespace Go.Proofs.YtfkmpnpliadohaaGreat.R
open Go.RowKit Go.Lab Go.Maps Go.Proofs.YtfkmpnpliadohaaGreatW.PrintWords Go.Proofs.YtfkmpnpliadohaaGreatW.PrintLast Go.Proofs.YtfkmpnpliadohaaGreatW.PrintMore PL

theorem meth_ONext (a : Addr) (w : World) : (method 487 354 (.pointer (some a)) "Next").run Tryz.prog w = .ok (357, .pointer (some a)) w := by kernel_rfl
theorem meth_ONode (a : Addr) (w : World) : (method 487 354 (.pointer (some a)) "Node").run Tryz.prog w = .ok (358, .pointer (some a)) w := by kernel_rfl
theorem meth_ID (x : Int) (w : World) : (method 487 118 (.int .i64 x) "ID").run Tryz.prog w = .ok (290, .int .i64 x) w := by kernel_rfl

set_option maxHeartbeats 400000 in
theorem nodeID_any (n : Int) (w : World) :
    Calls Tryz.prog 290 #[.int .i64 n] w fun e w' => e = .returned (.int .i64 n) ∧ w = w' := by
  go_enter Tryz.func290, Tryz.ntmps290
  go_wp2
  go_ret
  exact ⟨rfl, rfl⟩

/-- where an iterator stands -/
def posI (w : World) (b : Nat) : Nat := match w.cell? ⟨b, 0, none⟩ with | some (.int _ n) => (n + 1).toNat | _ => 0
theorem OIt.pos {lo B : Nat} {w : World} {b : Nat} {xs : List Int} {k : Nat} (h : OIt lo B w b xs k) : posI w b = k := by
  obtain ⟨A, c, h0, _⟩ := h.cells
  unfold posI
  rw [h0]
  show ((k : Int) - 1 + 1).toNat = k
  omega

/-- what is left of two iterators -/
def rest (xs ys : List Int) (i j : Nat) : List Int := xs.drop i ++ (ys.drop j).filter fun v => !decide (v ∈ xs)
def uniq (xs ys : List Int) : Int → Bool := fun x => decide (x ∈ ys) && !decide (x ∈ xs)

structure PIt (lo B : Nat) (w : World) (b : Nat) (xs ys r : List Int) (cur : Value) : Prop where
  ex : ∃ i j la Ba ba lb Bb bb mb n c1 c2 D, PIn lo w b xs ys i j cur la Ba ba lb Bb bb mb n c1 c2 D ∧ Marks D (uniq xs ys) ∧ r = rest xs ys i j ∧ b < B

theorem Mid.drewN (lo B : Nat) (w : World) (n : Nat) : Mid lo B w (w.drewN n) := Mid.of_below (Drawn0.below ⟨⟨n, rfl⟩⟩)

theorem nodeI_q (lo B b k : Nat) (xs : List Int) (w : World) (h : OIt lo B w b xs (k + 1)) (hk : k < xs.length) (hl : xs.length ≤ 100000) :
    Calls Tryz.prog 358 #[.pointer (some ⟨b, 0, none⟩)] w fun e w' => e = .returned (.iface 118 (.int .i64 xs[k])) ∧ ∃ n, w' = w.drewN n :=
  (nodeI_any lo B b k xs w h hk hl).mono fun _ _ ⟨h1, h2⟩ => ⟨h1, h2.out⟩
end Go.Proofs.YtfkmpnpliadohaaGreat.R

set_option linter.unusedVariables false
set_option linter.unusedSimpArgs false
/- newNodeIteratorPair. -/
namespace Go.Proofs.YtfkmpnpliadohaaGreat.R
open Go.RowKit Go.Lab Go.Maps Go.Proofs.YtfkmpnpliadohaaGreatW.PrintWords Go.Proofs.YtfkmpnpliadohaaGreatW.PrintLast Go.Proofs.YtfkmpnpliadohaaGreatW.PrintMore PL

theorem Marks.to {D : DataW Unit} {p q : Int → Bool} (h : Marks D p) (he : ∀ x, p x = q x) : Marks D q := fun x => by rw [h x, he x]

theorem PIn.made {lo la Ba ba lb Bb bb : Nat} {xs ys : List Int} {w : World} (ha : OIt la Ba w ba xs 0) (hb : OIt lb Bb w bb ys 0) (hap : Ba ≤ lb ∨ Bb ≤ la) (hla : lo ≤ la) (hlb : lo ≤ lb) (hBa : Ba ≤ w.heap.size) (hBb : Bb ≤ w.heap.size) :
    PIn lo ((w.alloc (.map #[] 0)).alloc (.cells #[.iface 354 (.pointer (some ⟨ba, 0, none⟩)), .iface 354 (.pointer (some ⟨bb, 0, none⟩)), .nilIface, .int .i64 0, .int .i64 0, .map (some w.heap.size)] 367)) (w.heap.size + 1) xs ys 0 0 .nilIface la Ba ba lb Bb bb w.heap.size 0 0 0 (.map []) := by
  have hb1 : ∀ q, q < w.heap.size → ((w.alloc (.map #[] 0)).alloc (.cells #[.iface 354 (.pointer (some ⟨ba, 0, none⟩)), .iface 354 (.pointer (some ⟨bb, 0, none⟩)), .nilIface, .int .i64 0, .int .i64 0, .map (some w.heap.size)] 367)).heap[q]? = w.heap[q]? :=
    fun q hq => (((Below.refl w.heap.size w).alloc (Nat.le_refl _) (.map #[] 0)).alloc (by simp) _).block q hq
  refine ⟨?_, ha.far fun q _ h => hb1 q (by omega), hb.far fun q _ h => hb1 q (by omega), hap, hla, hlb, hBa, hBb, Nat.lt_succ_self _, (World.ownsMap_made w _ _ _).alloc _⟩
  have := heap_alloc_new (w.alloc (.map #[] 0)) (.cells #[.iface 354 (.pointer (some ⟨ba, 0, none⟩)), .iface 354 (.pointer (some ⟨bb, 0, none⟩)), .nilIface, .int .i64 0, .int .i64 0, .map (some w.heap.size)] 367)
  simpa using this

theorem Below.set (lo : Nat) (w : World) (a : Addr) {v : Value} (h : lo ≤ a.block) : Below lo w (w.setCell a v) :=
  ⟨rfl, rfl, rfl, by simp [World.setCell], fun k hk => Below.heap_setCell _ _ _ _ (by omega)⟩
end Go.Proofs.YtfkmpnpliadohaaGreat.R

set_option linter.unusedVariables false
set_option linter.unusedSimpArgs false
/- impl.number; impl.iterated over both kinds of iterators. -/
namespace Go.Proofs.YtfkmpnpliadohaaGreat.R
open Go.RowKit Go.Lab Go.Maps Go.Proofs.YtfkmpnpliadohaaGreatW.PrintWords Go.Proofs.YtfkmpnpliadohaaGreatW.PrintLast Go.Proofs.YtfkmpnpliadohaaGreatW.PrintMore PL

theorem PIt.far {lo B : Nat} {w w1 : World} {b : Nat} {xs ys r : List Int} {cur : Value} (h : PIt lo B w b xs ys r cur) (hk : ∀ q, q < B → w1.heap[q]? = w.heap[q]?) : PIt lo B w1 b xs ys r cur := by
  obtain ⟨i, j, la, Ba, ba, lb, Bb, bb, mb, n, c1, c2, D, hP, hM, hr, hB⟩ := h.ex
  have h1 := hP.mlt
  have h2 := hP.ma
  have h3 := hP.mb'
  exact ⟨⟨i, j, la, Ba, ba, lb, Bb, bb, mb, n, c1, c2, D, ⟨(hk b hB).trans hP.blk, hP.ia.far fun q _ h => hk q (by omega), hP.ib.far fun q _ h => hk q (by omega), hP.ap, hP.ha, hP.hb, hP.ma, hP.mb', hP.mlt, hP.map.stay (hk mb (by omega))⟩, hM, hr, hB⟩⟩
theorem PIt.lo {lo B : Nat} {w : World} {b : Nat} {xs ys r : List Int} {cur : Value} (h : PIt lo B w b xs ys r cur) : lo ≤ w.heap.size := by
  obtain ⟨i, j, la, Ba, ba, lb, Bb, bb, mb, n, c1, c2, D, hP, hM, hr, hB⟩ := h.ex
  have := hP.lolt; have := hP.lt; omega

set_option maxHeartbeats 400000 in
theorem number_any (n : Int) (w : World) :
    Calls Tryz.prog 66 #[.iface 118 (.int .i64 n)] w fun e w' => e = .returned (.int .i64 n) ∧ w = w' := by
  have m1 := meth_ID n
  go_enter Tryz.func66, Tryz.ntmps66
  go_wp2_with (go_at_call 290; refine (nodeID_any _ _).mono ?_; rintro e w' ⟨rfl, rfl⟩)
  go_ret
  exact ⟨rfl, rfl⟩

end Go.Proofs.YtfkmpnpliadohaaGreat.R
