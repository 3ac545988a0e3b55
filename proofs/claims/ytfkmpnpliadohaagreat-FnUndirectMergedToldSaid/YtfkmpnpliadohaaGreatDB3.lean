import Derived.Test.YtfkmpnpliadohaaGreatDB1
import Derived.Maps.OwnSet
import Derived.Deep.RegionHeld3
import Derived.BigRegion
import Derived.Laws.MakeOwn
import Derived.BigQuiet
import Derived.Test.YtfkmpnpliadohaaGreatDB2
set_option linter.unusedVariables false
set_option linter.unusedSimpArgs false
set_option linter.unusedVariables false
set_option linter.unusedSimpArgs false
/- Frames: what changes between two places of the heap alone. -/
namespace Go.Proofs.YtfkmpnpliadohaaGreat.R
open Go.RowKit Go.Lab Go.Proofs.YtfkmpnpliadohaaGreatW.PrintWords Go.Proofs.YtfkmpnpliadohaaGreatW.PrintLast Go.Proofs.YtfkmpnpliadohaaGreatW.PrintMore PL

def nodeV (x : Int) : Value := .iface 118 (.int .i64 x)
def nodeOr (b : Bool) (x : Int) : Value := if b then nodeV x else .nilIface
theorem Tryz.info105 : (Tryz.prog.info? 105).map (fun i => (i.zero, i.size, i.bytes)) = some (some .nilIface, 1, 16) := by kernel_rfl
def nodeVs (xs : List Int) : List Value := xs.map nodeV

/-- of what was there, what lies from lo on and below B alone may change -/
structure Mid (lo B : Nat) (w w' : World) : Prop where
  os : w'.os = w.os
  tape : w'.tape = w.tape
  output : w'.output = w.output
  size : w.heap.size ≤ w'.heap.size
  block : ∀ k, k < w.heap.size → (k < lo ∨ B ≤ k) → w'.heap[k]? = w.heap[k]?

theorem Mid.refl (lo B : Nat) (w : World) : Mid lo B w w := ⟨rfl, rfl, rfl, Nat.le_refl _, fun _ _ _ => rfl⟩
theorem Mid.trans {lo B : Nat} {a b c : World} (h : Mid lo B a b) (k : Mid lo B b c) : Mid lo B a c :=
  ⟨k.os.trans h.os, k.tape.trans h.tape, k.output.trans h.output, Nat.le_trans h.size k.size, fun i hi ho => (k.block i (Nat.lt_of_lt_of_le hi h.size) ho).trans (h.block i hi ho)⟩
theorem Mid.below {lo B : Nat} {w w' : World} (h : Mid lo B w w') (hlo : lo ≤ w.heap.size) : Below lo w w' :=
  ⟨h.os, h.tape, h.output, h.size, fun k hk => h.block k (by omega) (.inl hk)⟩
theorem Mid.of_below {lo B : Nat} {w w' : World} (h : Below w.heap.size w w') : Mid lo B w w' :=
  ⟨h.os, h.tape, h.output, h.size, fun k hk _ => h.block k hk⟩
theorem Mid.of_grown {lo B : Nat} {w w' : World} {row : Option Nat} (h : w.grownBy w' row) (hr : ∀ k, row = some k → k < w.heap.size → lo ≤ k ∧ k < B) : Mid lo B w w' :=
  ⟨h.os, h.tape, h.output, h.size, fun k hk ho => h.block k hk (fun e => by have := hr k e.symm hk; omega)⟩
theorem Mid.set {lo B : Nat} (w : World) (a : Addr) (v : Value) (h1 : lo ≤ a.block) (h2 : a.block < B) : Mid lo B w (w.setCell a v) :=
  ⟨rfl, rfl, rfl, by simp [World.setCell], fun k _ ho => Below.heap_setCell _ _ _ _ (by omega)⟩
theorem Mid.wide {lo B lo' B' : Nat} {w w' : World} (h : Mid lo B w w') (h1 : lo' ≤ lo) (h2 : B ≤ B') : Mid lo' B' w w' :=
  ⟨h.os, h.tape, h.output, h.size, fun k hk ho => h.block k hk (by omega)⟩
theorem Mid.own {lo B : Nat} {w w' : World} (h : Mid lo B w w') {base : Nat} {e : TypeId} {size n : Nat} {v : Value} {xs : List Value} (ho : w.ownsRow base e size v n xs) (hk : ∀ k, v.ownBlock = some k → k < lo ∨ B ≤ k) : w'.ownsRow base e size v n xs :=
  own_move ho fun k hv => by
    obtain ⟨c, hc⟩ := own_block ho hv
    exact h.block k (blk_lt hc) (hk k hv)

/-- an iterator over nodes in order, in block b; k - 1 is its place -/
structure OIt (lo B : Nat) (w : World) (b : Nat) (xs : List Int) (k : Nat) : Prop where
  ex : ∃ v, w.heap[b]? = some (.cells #[.int .i64 ((k : Int) - 1), v] 357 (0, 0)) ∧ w.ownsRow lo 105 1 v xs.length (nodeVs xs) ∧ (∀ q, v.ownBlock = some q → q < B)
  hb : lo ≤ b ∧ b < B
  hk : k ≤ xs.length + 1

theorem OIt.far {lo B : Nat} {w w' : World} {b : Nat} {xs : List Int} {k : Nat} (h : OIt lo B w b xs k) (hk : ∀ q, lo ≤ q → q < B → w'.heap[q]? = w.heap[q]?) : OIt lo B w' b xs k := by
  obtain ⟨v, h1, h2, h3⟩ := h.ex
  exact ⟨⟨v, (hk b h.hb.1 h.hb.2).trans h1, own_move h2 (fun q hq => hk q (own_base h2 q hq) (h3 q hq)), h3⟩, h.hb, h.hk⟩

theorem OIt.lt {lo B : Nat} {w : World} {b : Nat} {xs : List Int} {k : Nat} (h : OIt lo B w b xs k) : b < w.heap.size := by
  obtain ⟨v, h1, _⟩ := h.ex
  exact blk_lt h1

theorem OIt.to {lo B : Nat} {w : World} {b : Nat} {xs : List Int} {k : Nat} (h : OIt lo B w b xs k) (k' : Nat) (hk : k' ≤ xs.length + 1) : OIt lo B (w.setCell ⟨b, 0, none⟩ (.int .i64 ((k' : Int) - 1))) b xs k' := by
  obtain ⟨v, h1, h2, h3⟩ := h.ex
  refine ⟨⟨v, ?_, ?_, h3⟩, h.hb, hk⟩
  · have := blk_set h1 0 (.int .i64 ((k' : Int) - 1))
    simpa using this
  · refine own_move h2 fun q hq => Below.heap_setCell _ _ _ _ ?_
    rintro rfl
    obtain ⟨c, hc⟩ := own_block h2 hq
    exact absurd (blk_type h1 hc) (by decide)

/-- the same iterator, seen from wider places -/
theorem OIt.wide {lo B lo' B' : Nat} {w : World} {b : Nat} {xs : List Int} {k : Nat} (h : OIt lo B w b xs k) (h1 : lo' ≤ lo) (h2 : B ≤ B') : OIt lo' B' w b xs k := by
  obtain ⟨v, e1, e2, e3⟩ := h.ex
  exact ⟨⟨v, e1, own_less e2 h1, fun q hq => Nat.lt_of_lt_of_le (e3 q hq) h2⟩, ⟨Nat.le_trans h1 h.hb.1, Nat.lt_of_lt_of_le h.hb.2 h2⟩, h.hk⟩
end Go.Proofs.YtfkmpnpliadohaaGreat.R

set_option linter.unusedVariables false
set_option linter.unusedSimpArgs false
/- The iterator over nodes in order. -/
namespace Go.Proofs.YtfkmpnpliadohaaGreat.R
open Go.RowKit Go.Lab Go.Proofs.YtfkmpnpliadohaaGreatW.PrintWords Go.Proofs.YtfkmpnpliadohaaGreatW.PrintLast Go.Proofs.YtfkmpnpliadohaaGreatW.PrintMore PL

theorem OIt.cells {lo B : Nat} {w : World} {b : Nat} {xs : List Int} {k : Nat} (h : OIt lo B w b xs k) : ∃ A c, w.cell? ⟨b, 0, none⟩ = some (.int .i64 ((k : Int) - 1)) ∧ w.cell? ⟨b, 1, none⟩ = some (.slice A xs.length c) ∧ w.frozen? ⟨b, 0, none⟩ = false ∧
    (∀ i (hi : i < xs.length), ∃ g, A = some ⟨g, 0, none⟩ ∧ w.cell? ⟨g, i, none⟩ = some (nodeV xs[i]) ∧ g < w.heap.size ∧ xs.length ≤ c) := by
  obtain ⟨v, h1, h2, h3⟩ := h.ex
  obtain ⟨A, c, rfl⟩ := own_slice h2
  refine ⟨A, c, by rw [blk_cell h1]; rfl, by rw [blk_cell h1]; rfl, blk_frozen h1 _, fun i hi => ?_⟩
  obtain ⟨g, c', e1, hvb, hgl⟩ := h2.form (by omega)
  injection e1 with e1 _ e3
  subst e1 e3
  refine ⟨g, rfl, ?_, hgl, own_le h2⟩
  have := h2.cells (g := g) rfl i (nodeV xs[i]) (by simp [nodeVs, hi])
  rw [add_plain] at this
  exact this

theorem Mid.drew (lo B : Nat) (w : World) : Mid lo B w w.drew := ⟨rfl, rfl, rfl, Nat.le_refl _, fun _ _ _ => rfl⟩
theorem OIt.drew {lo B : Nat} {w : World} {b : Nat} {xs : List Int} {k : Nat} (h : OIt lo B w b xs k) : OIt lo B w.drew b xs k := h.far fun _ _ _ => rfl

theorem OIt.to' {lo B : Nat} {w : World} {b : Nat} {xs : List Int} {k : Nat} (h : OIt lo B w b xs k) (k' : Nat) (hk : k' ≤ xs.length + 1) (v : Int) (hv : v = (k' : Int) - 1) : OIt lo B (w.setCell ⟨b, 0, none⟩ (.int .i64 v)) b xs k' := by
  subst hv; exact h.to k' hk

set_option maxHeartbeats 4000000 in
set_option maxRecDepth 100000 in
theorem next_any (lo B b k : Nat) (xs : List Int) (w : World) (h : OIt lo B w b xs k) (hl : xs.length ≤ 100000) :
    Calls Tryz.prog 357 #[.pointer (some ⟨b, 0, none⟩)] w fun e w' => e = .returned (.bool (decide (k < xs.length))) ∧ OIt lo B w' b xs (if k < xs.length then k + 1 else xs.length + 1) ∧ Mid lo B w w' := by
  have HO := Aside0.mk h
  obtain ⟨A, c, h0, h1, hf, hx⟩ := h.cells
  have hk := h.hk
  have hb := h.lt
  have hb2 := h.hb
  have hwr : IntKind.u64.wrap (IntKind.u64.wrap ((k : Int) - 1) + 1) = (k : Int) := by
    simp only [IntKind.wrap_u64]; omega
  clear h hx
  by_cases hlt : k < xs.length
  · rw [if_pos hlt]
    have hd : decide (k < xs.length) = true := by simpa using hlt
    have hdd : decide ((k : Int) < (xs.length : Int)) = true := by simpa using hlt
    rw [hd]
    have HE := Aside0.mk (HO.out.to' (k + 1) (by omega) (k : Int) (by omega)).drew
    go_enter Tryz.func357, Tryz.ntmps357
    go_wp2_with fail
    go_region
    all_goals
      go_wp2
      go_ret
      exact ⟨rfl, HE.out, (Mid.set _ _ _ hb2.1 hb2.2).trans (Mid.drew lo B _)⟩
  · rw [if_neg hlt]
    have hd : decide (k < xs.length) = false := by simpa using hlt
    have hdd : decide ((k : Int) < (xs.length : Int)) = false := by simpa using hlt
    rw [hd]
    have HE := Aside0.mk (HO.out.to' (xs.length + 1) (by omega) (xs.length : Int) (by omega)).drew
    go_enter Tryz.func357, Tryz.ntmps357
    go_wp2_with fail
    go_region
    all_goals
      go_wp2
      go_ret
      exact ⟨rfl, HE.out, (Mid.set _ _ _ hb2.1 hb2.2).trans (Mid.drew lo B _)⟩
end Go.Proofs.YtfkmpnpliadohaaGreat.R

set_option linter.unusedVariables false
set_option linter.unusedSimpArgs false
/- Node, Reset, NewOrderedNodes, and the iterator over all nodes of a plain graph. -/
namespace Go.Proofs.YtfkmpnpliadohaaGreat.R
open Go.RowKit Go.Lab Go.Proofs.YtfkmpnpliadohaaGreatW.PrintWords Go.Proofs.YtfkmpnpliadohaaGreatW.PrintLast Go.Proofs.YtfkmpnpliadohaaGreatW.PrintMore PL

set_option maxHeartbeats 4000000 in
set_option maxRecDepth 100000 in
theorem nodeI_any (lo B b k : Nat) (xs : List Int) (w : World) (h : OIt lo B w b xs (k + 1)) (hk : k < xs.length) (hl : xs.length ≤ 100000) :
    Calls Tryz.prog 358 #[.pointer (some ⟨b, 0, none⟩)] w fun e w' => e = .returned (nodeV xs[k]) ∧ Drawn0 w w' := by
  obtain ⟨A, c, h0, h1, hf, hx⟩ := h.cells
  obtain ⟨g, rfl, hg, hgl, hc⟩ := hx k hk
  have hb := h.lt
  rw [show (((k + 1 : Nat) : Int) - 1) = (k : Int) by omega] at h0
  clear h hx
  have hi1 : (0 : Int) ≤ (k : Int) := by omega
  have hi2 : (k : Int) < (xs.length : Int) := by omega
  have hd1 : decide ((xs.length : Int) ≤ (k : Int)) = false := by simp; omega
  have hd2 : decide ((k : Int) < 0) = false := by simp
  generalize xs[k] = x at hg
  go_enter Tryz.func358, Tryz.ntmps358
  go_wp2_with fail
  go_quiet (fail)
  go_wp2_with fail
  go_quiet (fail)
  go_wp2
  go_ret
  exact ⟨rfl, by repeat (first | exact Drawn0.refl _ | apply Drawn0.step)⟩

set_option maxHeartbeats 4000000 in
theorem reset_any (lo B b k : Nat) (xs : List Int) (w : World) (h : OIt lo B w b xs k) :
    Calls Tryz.prog 360 #[.pointer (some ⟨b, 0, none⟩)] w fun e w' => e = .returned (.tuple #[]) ∧ OIt lo B w' b xs 0 ∧ Mid lo B w w' := by
  obtain ⟨A, c, h0, h1, hf, hx⟩ := h.cells
  have HE := Aside0.mk (h.to 0 (by omega))
  have hb := h.lt
  have hb2 := h.hb
  clear h hx
  go_enter Tryz.func360, Tryz.ntmps360
  go_wp2
  go_end0
  exact ⟨rfl, HE.out, Mid.set _ _ _ hb2.1 hb2.2⟩

set_option maxHeartbeats 400000 in
theorem new_any (A : Option Addr) (n c : Nat) (w : World) :
    Calls Tryz.prog 280 #[.slice A n c] w fun e w' => e = .returned (.pointer (some ⟨w.heap.size, 0, none⟩)) ∧ w.alloc (.cells #[.int .i64 (-1), .slice A n c] 357) = w' := by
  go_enter Tryz.func280, Tryz.ntmps280
  go_wp2
  go_ret
  exact ⟨rfl, rfl⟩

/-- a row of nodes with a new iterator -/
theorem OIt.made {w wr : World} {v : Value} {xs : List Int} (ho : wr.ownsRow w.heap.size 105 1 v xs.length (nodeVs xs)) (hw : w.heap.size ≤ wr.heap.size) :
    OIt w.heap.size (wr.heap.size + 1) (wr.alloc (.cells #[.int .i64 (-1), v] 357)) wr.heap.size xs 0 :=
  ⟨⟨v, heap_alloc_new _ _, ho.alloc _, fun q hq => Nat.lt_succ_of_lt (ho.lt q hq).2⟩, ⟨hw, Nat.lt_succ_self _⟩, Nat.zero_le _⟩

theorem PlOk.idsC {w : World} {base bp : Nat} {p : Pl} (h : PlOk w base bp p) : ∃ A c, w.cell? ⟨bp, 0, none⟩ = some (.slice A p.ids.length c) ∧ Kd.C (Kd.int .i64) w A p.ids.length p.ids ∧ bp < w.heap.size := by
  obtain ⟨ro, ri, vi, vo, vn, hp⟩ := h
  obtain ⟨A, c, rfl, hr⟩ := own_reads hp.ids
  exact ⟨A, c, by rw [blk_cell hp.blk]; rfl, Kd.C_of_reads hr, blk_lt hp.blk⟩

theorem make_nodes (n : Nat) (hn : n ≤ 1000) (W : World) : (Instr.makeSlice 110 (.int .i64 0) (.int .i64 (n : Int))).run Tryz.prog W = .ok (.slice (some ⟨W.heap.size, 0, none⟩) 0 n) (W.alloc (.cells (madeCells #[.nilIface] n) 105)) := by
  obtain ⟨i0, hi, hz0, hz1, hz2⟩ := info_parts Tryz.info105
  have := run_make (P := Tryz.prog) W 110 105 i0 .nilIface Tryz.underlying110 hi hz0 .i64 .i64 0 n (by omega) (by omega) (by rw [hz2]; omega) (by omega)
  simpa [hz1, Value.cells] using this

set_option maxHeartbeats 2000000 in
set_option maxRecDepth 100000 in
theorem all_any (base bp : Nat) (p : Pl) (w : World) (h : PlOk w base bp p) (hn : p.ids.length ≤ 1000) :
    Calls Tryz.prog 277 #[.pointer (some ⟨bp, 0, none⟩)] w fun e w' => ∃ b, e = .returned (.iface 354 (.pointer (some ⟨b, 0, none⟩))) ∧ OIt w.heap.size w'.heap.size w' b p.ids 0 ∧ Below w.heap.size w w' := by
  obtain ⟨A, c, hcell, hC, hbl⟩ := h.idsC
  have HC := Aside0.mk hC
  obtain ⟨i0, hi, hz0, hz1, hz2⟩ := info_parts Tryz.info105
  have HI := Aside0.mk (And.intro hi (And.intro hz0 (And.intro hz1 hz2)))
  have hmk := make_nodes p.ids.length hn
  clear h hC hi hz0 hz1 hz2
  generalize p.ids = xs at *
  go_enter Tryz.func277, Tryz.ntmps277
  go_wp2
  go_loopw [3, 17] (fun v i wr => ∃ k : Nat, k ≤ xs.length ∧ i = .int .i64 k ∧ Aside0 (wr.ownsRow w.heap.size 105 1 v k (nodeVs (xs.take k)) ∧ Below w.heap.size w wr)) (fun _ i _ => xs.length - (intOf i).toNat)
  case atStart => exact ⟨0, Nat.zero_le _, rfl, ⟨World.ownsRow_made w _ xs.length (Nat.le_refl _) (by unfold maxLen; omega) (by rw [size_madeCells, Nat.mul_one]), (Below.refl _ _).alloc (Nat.le_refl _) _⟩⟩
  case round =>
    obtain ⟨k, hk, rfl, HR⟩ := hrel
    by_cases hlt : k < xs.length
    · have hbw := HR.out.2.size
      obtain ⟨ad, rfl, hc⟩ := C_int_at (Kd.C_below HC.out HR.out.2) k hlt
      have hts : nodeVs (xs.take (k + 1)) = nodeVs (xs.take k) ++ [nodeV (xs.getD k 0)] := by
        have hge : xs.getD k 0 = xs[k] := by simp [List.getD_eq_getElem?_getD, hlt]
        rw [hge, List.take_succ_eq_append_getElem hlt]; unfold nodeVs; rw [List.map_append]; rfl
      have HTS := Aside0.mk hts
      clear hts
      generalize xs.getD k 0 = x at hc HTS
      go_wp2_with (at_builtin; refine wpList_append_own _ rfl _ _ 110 rfl w.heap.size 105 i0 .nilIface 1 16 Tryz.underlying110 HI.out.1 HI.out.2.1 HI.out.2.2.1 HI.out.2.2.2 rfl (by decide) _ k (nodeVs (xs.take k)) rfl (World.ownsRow.alloc HR.out.1 _) ⟨wr.heap.size, 0, none⟩ 1 1 [nodeV x] rfl rfl (cell_one_new _ _ _) ?q2 ?q3 ?q4 ?q5 ?_)
      case q2 => intro u hu; simp at hu; subst hu; rfl
      case q3 => unfold maxLen; omega
      case q4 => omega
      case q5 => simp; omega
      intro v' w1 hown hgr _
      have HO := Aside0.mk hown
      have HGR := Aside0.mk hgr
      clear hown hgr
      go_wp2
      go_roundw
      case rel => exact ⟨k + 1, by omega, by go_num, ⟨by rw [HTS.out]; exact HO.out, (HR.out.2.alloc hbw _).grown HGR.out (by simp; omega) (fun q hq => own_base HR.out.1 q hq)⟩⟩
      case measure => simp [intOf]; omega
    · have hk' : k = xs.length := by omega
      have hts : xs.take k = xs := by rw [hk', List.take_length]
      have h1 := HR.out
      rw [hts, hk'] at h1
      obtain ⟨V, C, rfl⟩ := own_slice h1.1
      have H1 := Aside0.mk h1
      clear h1 hts HR
      go_wp2_with (go_at_call 280; refine (new_any _ _ _ _).mono ?_; rintro e w1 ⟨rfl, rfl⟩)
      go_ret
      exact ⟨wr.heap.size, rfl, by simpa using OIt.made H1.out.1 H1.out.2.size, H1.out.2.alloc H1.out.2.size _⟩
end Go.Proofs.YtfkmpnpliadohaaGreat.R

set_option linter.unusedVariables false
set_option linter.unusedSimpArgs false
/- The iterator over the nodes of two iterators, each once. -/
namespace Go.Proofs.YtfkmpnpliadohaaGreat.R
open Go.RowKit Go.Lab Go.Maps Go.Proofs.YtfkmpnpliadohaaGreatW.PrintWords Go.Proofs.YtfkmpnpliadohaaGreatW.PrintLast Go.Proofs.YtfkmpnpliadohaaGreatW.PrintMore PL

theorem law2 : Keyed Tryz.prog 2 := int_keyed Tryz.underlying2
theorem zero4 (w : World) : (zeroValue 4).run Tryz.prog w = .ok (.bool false) w := by kernel_rfl

theorem plainElem_bool_inv {P : Program} {e : TypeId} (he : P.underlying e = some .bool) {v : Value} {z : DataW Unit × List MemPlace} (h : plainElem P e v = some z) : ∃ c, v = .bool c ∧ z = (.lit (.bool c), []) := by
  unfold plainElem at h
  rw [he] at h
  cases v <;> simp at h
  exact ⟨_, rfl, h.symm⟩

/-- the map of the pair: whether a number is marked -/
abbrev UMap (w : World) (mb n : Nat) (D : DataW Unit) : Prop := w.ownsMap Tryz.prog 2 (plainElem Tryz.prog 4) mb n D

theorem UMap.look {w : World} {mb n : Nat} {D : DataW Unit} (h : UMap w mb n D) {x : Int} (hx : (Lit.int .i64 x).wf = true) :
    ∃ c, (Instr.lookup 365 (.map (some mb)) (.int .i64 x) false).run Tryz.prog w = .ok (.bool c) w ∧ D.atKey (.int .i64 x) (.lit (.bool false)) = .lit (.bool c) := by
  obtain ⟨v, ps, hrun, hv⟩ := h.lookup law2 Tryz.underlying365 (zero4 w) (plainElem_bool Tryz.underlying4 false) (keyOf_int_mk Tryz.underlying2 hx)
  obtain ⟨c, rfl, hc⟩ := plainElem_bool_inv Tryz.underlying4 hv
  exact ⟨c, hrun, congrArg Prod.fst hc⟩

theorem UMap.lookOk {w : World} {mb n : Nat} {D : DataW Unit} (h : UMap w mb n D) {x : Int} (hx : (Lit.int .i64 x).wf = true) :
    ∃ c, (Instr.lookup 365 (.map (some mb)) (.int .i64 x) true).run Tryz.prog w = .ok (.tuple #[.bool c, .bool (Maps.has D (.int .i64 x))]) w ∧ D.atKey (.int .i64 x) (.lit (.bool false)) = .lit (.bool c) := by
  obtain ⟨v, ps, hrun, hv⟩ := h.look_ok law2 Tryz.underlying365 (zero4 w) (plainElem_bool Tryz.underlying4 false) (keyOf_int_mk Tryz.underlying2 hx)
  obtain ⟨c, rfl, hc⟩ := plainElem_bool_inv Tryz.underlying4 hv
  exact ⟨c, hrun, congrArg Prod.fst hc⟩

/-- what the marks are -/
def Marks (D : DataW Unit) (p : Int → Bool) : Prop := ∀ x, D.atKey (.int .i64 x) (.lit (.bool false)) = .lit (.bool (p x))

theorem Marks.put {D : DataW Unit} {p : Int → Bool} (h : Marks D p) (ht : IsMap D) (y : Int) (b : Bool) : Marks (D.put (.int .i64 y) (.lit (.bool b))) fun x => if x = y then b else p x := by
  intro x
  by_cases hx : x = y
  · subst hx
    rw [atKey_put_same ht (by trivial)]; simp
  · rw [atKey_put_other (by intro e; injection e with _ e; exact hx e)]
    simp [hx, h x]

theorem step_mapUpdate_own {P : Program} {ops : Array Oper} {o : Oper} {a : Act} {w : World} {K : Act → World → Prop} {Q : Exit → Act → World → Prop} {E : Prop}
    (hg : o.guard = none) (hds : o.dst = none) (m x v : Operand) (t : TypeId) (hop : o.op = Op.mapUpdate t m x v)
    (k e : TypeId) (Kk : Keyed P k) (ht : P.underlying t = some (.map k e)) (R : Value → Option (DataW Unit × List MemPlace)) (b n : Nat) (D : DataW Unit)
    (hm : a.eval m = .map (some b)) (hown : w.ownsMap P k R b n D) (hn : n < maxLen) (key val : Value) (kl : Lit) (hx : a.eval x = key) (hv : a.eval v = val) (hkey : keyOf P k key = some kl)
    (d : DataW Unit) (ps : List MemPlace) (hval : R val = some (d, ps))
    (hK : ∀ w', w'.ownsMap P k R b (n + 1) (D.put kl d) → w.grownBy w' (some b) → K a w') :
    if Region.wanted o (yielded ops a.tmps) = true then Oper.wp P o a w K Q else E := by
  have hw : Region.wanted o (yielded ops a.tmps) = true := by simp [Region.wanted, hg]
  rw [if_pos hw]
  obtain ⟨w', hrun, r1, r2⟩ := hown.update Kk ht hn hkey hval
  unfold Oper.wp
  simp [execOp, hop, hm, hx, hv, hrun, Result.andThen]
  show K (a.put o.dst undef) w'
  rw [hds]
  exact hK w' r1 r2


/-- the iterator of two iterators, in block b -/
structure PIn (lo : Nat) (w : World) (b : Nat) (xs ys : List Int) (i j : Nat) (cur : Value) (la Ba ba lb Bb bb mb n : Nat) (c1 c2 : Int) (D : DataW Unit) : Prop where
  blk : w.heap[b]? = some (.cells #[.iface 354 (.pointer (some ⟨ba, 0, none⟩)), .iface 354 (.pointer (some ⟨bb, 0, none⟩)), cur, .int .i64 c1, .int .i64 c2, .map (some mb)] 367 (0, 0))
  ia : OIt la Ba w ba xs i
  ib : OIt lb Bb w bb ys j
  ap : Ba ≤ lb ∨ Bb ≤ la
  ha : lo ≤ la
  hb : lo ≤ lb
  ma : Ba ≤ mb
  mb' : Bb ≤ mb
  mlt : mb < b
  map : UMap w mb n D

section
variable {lo : Nat} {w w1 : World} {b : Nat} {xs ys : List Int} {i j : Nat} {cur : Value} {la Ba ba lb Bb bb mb n : Nat} {c1 c2 : Int} {D : DataW Unit}

theorem PIn.lt (h : PIn lo w b xs ys i j cur la Ba ba lb Bb bb mb n c1 c2 D) : b < w.heap.size := blk_lt h.blk
theorem PIn.lolt (h : PIn lo w b xs ys i j cur la Ba ba lb Bb bb mb n c1 c2 D) : lo ≤ b := by
  have := h.ia.hb; have := h.ha; have := h.ma; have := h.mlt; omega

theorem UMap.stay {mb n : Nat} {D : DataW Unit} (h : UMap w mb n D) (hk : w1.heap[mb]? = w.heap[mb]?) : UMap w1 mb n D := by
  obtain ⟨es, clock, hb, F, hs, hD⟩ := h
  exact ⟨es, clock, hk.trans hb, F, hs, hD⟩

theorem PIn.nextA (h : PIn lo w b xs ys i j cur la Ba ba lb Bb bb mb n c1 c2 D) {i' : Nat} (hi : OIt la Ba w1 ba xs i') (hm : Mid la Ba w w1) : PIn lo w1 b xs ys i' j cur la Ba ba lb Bb bb mb n c1 c2 D := by
  have h1 := h.ma
  have h2 := h.mlt
  refine ⟨(hm.block b h.lt (.inr (by omega))).trans h.blk, hi, ?_, h.ap, h.ha, h.hb, h.ma, h.mb', h.mlt, h.map.stay (hm.block mb h.map.lt (.inr h1))⟩
  refine h.ib.far fun q h3 h4 => ?_
  by_cases hq : q < w.heap.size
  · exact hm.block q hq (by have := h.ap; omega)
  · exact absurd (Nat.lt_of_lt_of_le h4 (Nat.le_trans h.mb' (Nat.le_of_lt h.map.lt))) hq

theorem PIn.nextB (h : PIn lo w b xs ys i j cur la Ba ba lb Bb bb mb n c1 c2 D) {j' : Nat} (hj : OIt lb Bb w1 bb ys j') (hm : Mid lb Bb w w1) : PIn lo w1 b xs ys i j' cur la Ba ba lb Bb bb mb n c1 c2 D := by
  have h1 := h.mb'
  have h2 := h.mlt
  refine ⟨(hm.block b h.lt (.inr (by omega))).trans h.blk, ?_, hj, h.ap, h.ha, h.hb, h.ma, h.mb', h.mlt, h.map.stay (hm.block mb h.map.lt (.inr h1))⟩
  refine h.ia.far fun q h3 h4 => ?_
  by_cases hq : q < w.heap.size
  · exact hm.block q hq (by have := h.ap; omega)
  · exact absurd (Nat.lt_of_lt_of_le h4 (Nat.le_trans h.ma (Nat.le_of_lt h.map.lt))) hq

theorem PIn.same (h : PIn lo w b xs ys i j cur la Ba ba lb Bb bb mb n c1 c2 D) (hs : w1.heap = w.heap) : PIn lo w1 b xs ys i j cur la Ba ba lb Bb bb mb n c1 c2 D :=
  ⟨by rw [hs]; exact h.blk, h.ia.far fun _ _ _ => by rw [hs], h.ib.far fun _ _ _ => by rw [hs], h.ap, h.ha, h.hb, h.ma, h.mb', h.mlt, h.map.stay (by rw [hs])⟩

theorem PIn.put (h : PIn lo w b xs ys i j cur la Ba ba lb Bb bb mb n c1 c2 D) {n' : Nat} {D' : DataW Unit} (hm : UMap w1 mb n' D') (hg : w.grownBy w1 (some mb)) : PIn lo w1 b xs ys i j cur la Ba ba lb Bb bb mb n' c1 c2 D' := by
  have h2 := h.mlt
  have hk : ∀ q, q < w.heap.size → q ≠ mb → w1.heap[q]? = w.heap[q]? := fun q hq hne => hg.block q hq (fun e => hne (Option.some.inj e))
  have hml := h.map.lt
  refine ⟨(hk b h.lt (by omega)).trans h.blk, h.ia.far fun q _ h4 => hk q ?_ ?_, h.ib.far fun q _ h4 => hk q ?_ ?_, h.ap, h.ha, h.hb, h.ma, h.mb', h.mlt, hm⟩
  all_goals have := h.ma; have := h.mb'; omega

/-- a cell of the pair's own block is written -/
theorem PIn.cell (h : PIn lo w b xs ys i j cur la Ba ba lb Bb bb mb n c1 c2 D) (k : Nat) (v : Value) : (∀ q, q ≠ b → (w.setCell ⟨b, k, none⟩ v).heap[q]? = w.heap[q]?) ∧ OIt la Ba (w.setCell ⟨b, k, none⟩ v) ba xs i ∧ OIt lb Bb (w.setCell ⟨b, k, none⟩ v) bb ys j ∧ UMap (w.setCell ⟨b, k, none⟩ v) mb n D := by
  have h2 := h.mlt
  have hk : ∀ q, q ≠ b → (w.setCell ⟨b, k, none⟩ v).heap[q]? = w.heap[q]? := fun q hq => Below.heap_setCell _ _ _ _ (fun e => hq e)
  refine ⟨hk, h.ia.far fun q _ h4 => hk q ?_, h.ib.far fun q _ h4 => hk q ?_, h.map.stay (hk mb (by omega))⟩
  all_goals have := h.ma; have := h.mb'; omega

theorem PIn.set2 (h : PIn lo w b xs ys i j cur la Ba ba lb Bb bb mb n c1 c2 D) (v : Value) : PIn lo (w.setCell ⟨b, 2, none⟩ v) b xs ys i j v la Ba ba lb Bb bb mb n c1 c2 D := by
  obtain ⟨_, x, y, z⟩ := h.cell 2 v
  exact ⟨by simpa using blk_set h.blk 2 v, x, y, h.ap, h.ha, h.hb, h.ma, h.mb', h.mlt, z⟩
theorem PIn.set3 (h : PIn lo w b xs ys i j cur la Ba ba lb Bb bb mb n c1 c2 D) (c : Int) : PIn lo (w.setCell ⟨b, 3, none⟩ (.int .i64 c)) b xs ys i j cur la Ba ba lb Bb bb mb n c c2 D := by
  obtain ⟨_, x, y, z⟩ := h.cell 3 (.int .i64 c)
  exact ⟨by simpa using blk_set h.blk 3 (.int .i64 c), x, y, h.ap, h.ha, h.hb, h.ma, h.mb', h.mlt, z⟩
theorem PIn.set4 (h : PIn lo w b xs ys i j cur la Ba ba lb Bb bb mb n c1 c2 D) (c : Int) : PIn lo (w.setCell ⟨b, 4, none⟩ (.int .i64 c)) b xs ys i j cur la Ba ba lb Bb bb mb n c1 c D := by
  obtain ⟨_, x, y, z⟩ := h.cell 4 (.int .i64 c)
  exact ⟨by simpa using blk_set h.blk 4 (.int .i64 c), x, y, h.ap, h.ha, h.hb, h.ma, h.mb', h.mlt, z⟩

theorem PIn.cells (h : PIn lo w b xs ys i j cur la Ba ba lb Bb bb mb n c1 c2 D) : w.cell? ⟨b, 0, none⟩ = some (.iface 354 (.pointer (some ⟨ba, 0, none⟩))) ∧ w.cell? ⟨b, 1, none⟩ = some (.iface 354 (.pointer (some ⟨bb, 0, none⟩))) ∧ w.cell? ⟨b, 2, none⟩ = some cur ∧
    w.cell? ⟨b, 3, none⟩ = some (.int .i64 c1) ∧ w.cell? ⟨b, 4, none⟩ = some (.int .i64 c2) ∧ w.cell? ⟨b, 5, none⟩ = some (.map (some mb)) ∧ (∀ k, w.frozen? ⟨b, k, none⟩ = false) ∧ b < w.heap.size := by
  refine ⟨?_, ?_, ?_, ?_, ?_, ?_, fun k => blk_frozen h.blk _, h.lt⟩
  all_goals rw [blk_cell h.blk]; rfl
end
end Go.Proofs.YtfkmpnpliadohaaGreat.R

namespace Go.Proofs.YtfkmpnpliadohaaGreat.R
open Go.RowKit Go.Lab Go.Proofs.YtfkmpnpliadohaaGreatW.PrintWords Go.Proofs.YtfkmpnpliadohaaGreatW.PrintLast Go.Proofs.YtfkmpnpliadohaaGreatW.PrintMore PL

set_option maxHeartbeats 1000000 in
theorem node_any (base bp : Nat) (p : Pl) (x : Int) (w : World) (h : PlOk w base bp p) (hs : p.ids.Pairwise (· < ·)) (hn : p.ids.length ≤ 1000) :
    Calls Tryz.prog 276 #[.pointer (some ⟨bp, 0, none⟩), .int .i64 x] w fun e w' => e = .returned (nodeOr (decide (x ∈ p.ids)) x) ∧ w = w' := by
  have HW := Aside0.mk h
  have HS := Aside0.mk hs
  by_cases hx : x ∈ p.ids
  · have hd : decide (x ∈ p.ids) = true := decide_eq_true hx
    clear h hs hx
    go_enter Tryz.func276, Tryz.ntmps276
    go_wp2_with (go_at_call 109; refine (pl_index base bp p _ _ HW.out HS.out hn).mono ?_; rintro e' w' ⟨rfl, rfl⟩)
    go_ret
    exact ⟨by rw [hd]; rfl, rfl⟩
  · have hd : decide (x ∈ p.ids) = false := decide_eq_false hx
    clear h hs hx
    go_enter Tryz.func276, Tryz.ntmps276
    go_wp2_with (go_at_call 109; refine (pl_index base bp p _ _ HW.out HS.out hn).mono ?_; rintro e' w' ⟨rfl, rfl⟩)
    go_ret
    exact ⟨by rw [hd]; rfl, rfl⟩

set_option maxHeartbeats 1000000 in
theorem nodeD_any (base bp : Nat) (p : Pl) (x : Int) (w : World) (h : PlOk w base bp p) (hs : p.ids.Pairwise (· < ·)) (hn : p.ids.length ≤ 1000) :
    Calls Tryz.prog 268 #[.agg #[.pointer (some ⟨bp, 0, none⟩)], .int .i64 x] w fun e w' => e = .returned (nodeOr (decide (x ∈ p.ids)) x) ∧ Below w.heap.size w w' := by
  have HW := Aside0.mk (h.below ((Below.refl _ _).alloc (Nat.le_refl _) (.cells #[.pointer (some ⟨bp, 0, none⟩)] 75)))
  have HS := Aside0.mk hs
  clear h hs
  go_enter Tryz.func268, Tryz.ntmps268
  go_wp2_with (go_at_call 276; refine (node_any base bp p _ _ HW.out HS.out hn).mono ?_; rintro e' w' ⟨rfl, rfl⟩)
  go_ret
  exact ⟨rfl, (Below.refl _ _).alloc (Nat.le_refl _) _⟩

end Go.Proofs.YtfkmpnpliadohaaGreat.R

set_option linter.unusedVariables false
set_option linter.unusedSimpArgs false
/- What a plain graph of directed edges holds, in the words of its list of edges. -/
namespace Go.Proofs.YtfkmpnpliadohaaGreat.R
open Go.RowKit Go.Lab Go.Proofs.YtfkmpnpliadohaaGreatW.PrintWords Go.Proofs.YtfkmpnpliadohaaGreatW.PrintLast Go.Proofs.YtfkmpnpliadohaaGreatW.PrintMore PL

/-- the weight of the last edge from u to v -/
def arcW (es : List S38) (u v : Int) : Option Int := es.foldl (fun o e => if e.f0 = u ∧ e.f1 = v then some e.f2 else o) none

theorem arcW_snoc (es : List S38) (e : S38) (u v : Int) : arcW (es ++ [e]) u v = if e.f0 = u ∧ e.f1 = v then some e.f2 else arcW es u v := by
  unfold arcW; rw [List.foldl_append]; rfl

theorem snoc_ind {α : Type} {P : List α → Prop} (l : List α) (h0 : P []) (h1 : ∀ l a, P l → P (l ++ [a])) : P l := by
  rw [← List.reverse_reverse l]
  generalize l.reverse = m
  induction m with
  | nil => exact h0
  | cons a m ih => rw [List.reverse_cons]; exact h1 _ _ ih

theorem arcW_mem {es : List S38} {u v n : Int} (h : arcW es u v = some n) : ∃ e ∈ es, e.f0 = u ∧ e.f1 = v ∧ e.f2 = n := by
  revert h
  refine snoc_ind (P := fun es => arcW es u v = some n → ∃ e ∈ es, e.f0 = u ∧ e.f1 = v ∧ e.f2 = n) es (fun h => by cases h) fun es e ih h => ?_
  rw [arcW_snoc] at h
  split at h
  · rename_i hc
    injection h with h
    exact ⟨e, by simp, hc.1, hc.2, h⟩
  · obtain ⟨e', h1, h2⟩ := ih h
    exact ⟨e', by simp [h1], h2⟩

theorem keys_get (l : List (Int × Nat)) (i : Nat) (h : i < (keys l).length) : (keys l)[i] = (l[i]'(by simpa [keys] using h)).1 := by simp [keys]

theorem mem_setA {l : List (Int × Nat)} (hs : (keys l).Pairwise (· < ·)) (k : Int) (x : Nat) (a : Int × Nat) : a ∈ setA l k x ↔ a = (k, x) ∨ (a ∈ l ∧ a.1 ≠ k) := by
  unfold setA
  by_cases hm : k ∈ keys l
  · rw [if_pos hm]
    obtain ⟨hr, he⟩ := (rank_mem hs k).1 hm
    have hr' : rank (keys l) k < l.length := by rw [keys_length] at hr; exact hr
    constructor
    · intro h
      obtain ⟨j, hj, rfl⟩ := List.getElem_of_mem h
      rw [List.length_set] at hj
      rw [List.getElem_set]
      split
      · exact .inl rfl
      · rename_i hne
        refine .inr ⟨List.getElem_mem _, fun hk => hne ?_⟩
        have h1 : (keys l)[j]'(by rw [keys_length]; exact hj) = k := by rw [keys_get]; exact hk
        rcases Nat.lt_trichotomy (rank (keys l) k) j with h2 | h2 | h2
        · have := List.pairwise_iff_getElem.1 hs _ _ hr (by rw [keys_length]; exact hj) h2; omega
        · exact h2
        · have := List.pairwise_iff_getElem.1 hs _ _ (by rw [keys_length]; exact hj) hr h2; omega
    · rintro (rfl | ⟨h1, h2⟩)
      · exact List.mem_iff_getElem.2 ⟨rank (keys l) k, by rw [List.length_set]; exact hr', by simp⟩
      · obtain ⟨j, hj, rfl⟩ := List.getElem_of_mem h1
        refine List.mem_iff_getElem.2 ⟨j, by rw [List.length_set]; exact hj, ?_⟩
        rw [List.getElem_set, if_neg]
        rintro rfl
        rw [keys_get] at he
        exact h2 he
  · rw [if_neg hm]
    unfold insAt
    have hne : ∀ a ∈ l, a.1 ≠ k := fun a ha h => hm (List.mem_map.2 ⟨a, ha, h⟩)
    have hl : a ∈ l ↔ a ∈ l.take (rank (keys l) k) ∨ a ∈ l.drop (rank (keys l) k) := by
      rw [← List.mem_append, List.take_append_drop]
    rw [List.mem_append, List.mem_cons]
    constructor
    · rintro (h | h | h)
      · exact .inr ⟨hl.2 (.inl h), hne _ (hl.2 (.inl h))⟩
      · exact .inl h
      · exact .inr ⟨hl.2 (.inr h), hne _ (hl.2 (.inr h))⟩
    · rintro (h | ⟨h, _⟩)
      · exact .inr (.inl h)
      · rcases hl.1 h with h | h
        · exact .inl h
        · exact .inr (.inr h)

/-- what the rows of a plain graph are for a list of edges -/
structure Adj (zs : List Int) (es : List S38) (p : Pl) : Prop where
  ids : p.ids = srt zs
  lo : p.out.length = (srt zs).length
  li : p.inn.length = (srt zs).length
  out : ∀ i, i < (srt zs).length → ∀ a, a ∈ p.out.getD i [] ↔ ∃ k n, k < (srt zs).length ∧ a = ((k : Int), floatOfInt .f64 n) ∧ arcW es ((srt zs).getD i 0) ((srt zs).getD k 0) = some n
  inn : ∀ i, i < (srt zs).length → ∀ a, a ∈ p.inn.getD i [] ↔ ∃ k n, k < (srt zs).length ∧ a = ((k : Int), floatOfInt .f64 n) ∧ arcW es ((srt zs).getD k 0) ((srt zs).getD i 0) = some n

theorem getD_srt_inj {ids : List Int} (h : ids.Pairwise (· < ·)) {i j : Nat} (hi : i < ids.length) (hj : j < ids.length) (he : ids.getD i 0 = ids.getD j 0) : i = j := by
  simp only [List.getD_eq_getElem?_getD, List.getElem?_eq_getElem hi, List.getElem?_eq_getElem hj, Option.getD_some] at he
  rcases Nat.lt_trichotomy i j with h1 | h1 | h1
  · have := List.pairwise_iff_getElem.1 h _ _ hi hj h1; omega
  · exact h1
  · have := List.pairwise_iff_getElem.1 h _ _ hj hi h1; omega

theorem rank_at {ids : List Int} (h : ids.Pairwise (· < ·)) {t : Int} (ht : t ∈ ids) : rank ids t < ids.length ∧ ids.getD (rank ids t) 0 = t := by
  obtain ⟨hr, he⟩ := (rank_mem h t).1 ht
  exact ⟨hr, by simp [List.getD_eq_getElem?_getD, List.getElem?_eq_getElem hr, he]⟩

theorem getD_set_self {α : Type} (L : List α) (i : Nat) (x d : α) (h : i < L.length) : (L.set i x).getD i d = x := by
  simp [List.getD_eq_getElem?_getD, h]
theorem getD_set_other {α : Type} (L : List α) (i j : Nat) (x d : α) (h : i ≠ j) : (L.set i x).getD j d = L.getD j d := by
  simp [List.getD_eq_getElem?_getD, h]

theorem Adj.step {zs : List Int} {es : List S38} {p : Pl} (h : Adj zs es p) (hg : p.Good) (hs : (srt zs).Pairwise (· < ·)) (e : S38) (h0 : e.f0 ∈ srt zs) (h1 : e.f1 ∈ srt zs) : Adj zs (es ++ [e]) (layE true p e) := by
  obtain ⟨a0, b0⟩ := rank_at hs h0
  obtain ⟨a1, b1⟩ := rank_at hs h1
  have hl : layE true p e = (p.outs (rank (srt zs) e.f0) (rank (srt zs) e.f1) (floatOfInt .f64 e.f2)).inns (rank (srt zs) e.f1) (rank (srt zs) e.f0) (floatOfInt .f64 e.f2) := by
    unfold layE Pl.lay; rw [h.ids]; rfl
  rw [hl]
  refine ⟨h.ids, ?_, ?_, ?_, ?_⟩
  · show (p.out.set _ _).length = _; rw [List.length_set]; exact h.lo
  · show (p.inn.set _ _).length = _; rw [List.length_set]; exact h.li
  · intro i hi a
    show a ∈ (p.out.set (rank (srt zs) e.f0) (setA (p.out.getD (rank (srt zs) e.f0) []) (rank (srt zs) e.f1 : Nat) (floatOfInt .f64 e.f2))).getD i [] ↔ _
    by_cases hr : rank (srt zs) e.f0 = i
    · subst hr
      rw [getD_set_self _ _ _ _ (by rw [h.lo]; exact a0), mem_setA (hg.out _).1, b0, h.out _ a0, b0]
      constructor
      · rintro (rfl | ⟨⟨k, n, hk, rfl, hn⟩, hne⟩)
        · exact ⟨_, e.f2, a1, rfl, by rw [arcW_snoc, b1, if_pos ⟨rfl, rfl⟩]⟩
        · refine ⟨k, n, hk, rfl, ?_⟩
          rw [arcW_snoc, if_neg]
          · exact hn
          · rintro ⟨_, hh⟩
            have := getD_srt_inj hs a1 hk (by rw [b1, hh])
            subst this
            exact hne rfl
      · rintro ⟨k, n, hk, rfl, hn⟩
        rw [arcW_snoc] at hn
        by_cases hkk : k = rank (srt zs) e.f1
        · subst hkk
          rw [b1, if_pos ⟨rfl, rfl⟩] at hn
          injection hn with hn
          subst hn
          exact .inl rfl
        · rw [if_neg] at hn
          · refine .inr ⟨⟨k, n, hk, rfl, hn⟩, ?_⟩
            show ¬ (k : Int) = _
            omega
          · rintro ⟨_, hh⟩
            exact hkk (getD_srt_inj hs hk a1 (by rw [b1, hh]))
    · rw [getD_set_other _ _ _ _ _ hr, h.out i hi]
      have hne : ∀ k, arcW (es ++ [e]) ((srt zs).getD i 0) ((srt zs).getD k 0) = arcW es ((srt zs).getD i 0) ((srt zs).getD k 0) := by
        intro k
        rw [arcW_snoc, if_neg]
        rintro ⟨hh, _⟩
        exact hr (getD_srt_inj hs a0 hi (by rw [b0, hh]))
      simp only [hne]
  · intro i hi a
    show a ∈ (p.inn.set (rank (srt zs) e.f1) (setA (p.inn.getD (rank (srt zs) e.f1) []) (rank (srt zs) e.f0 : Nat) (floatOfInt .f64 e.f2))).getD i [] ↔ _
    by_cases hr : rank (srt zs) e.f1 = i
    · subst hr
      rw [getD_set_self _ _ _ _ (by rw [h.li]; exact a1), mem_setA (hg.inn _).1, b1, h.inn _ a1, b1]
      constructor
      · rintro (rfl | ⟨⟨k, n, hk, rfl, hn⟩, hne⟩)
        · exact ⟨_, e.f2, a0, rfl, by rw [arcW_snoc, b0, if_pos ⟨rfl, rfl⟩]⟩
        · refine ⟨k, n, hk, rfl, ?_⟩
          rw [arcW_snoc, if_neg]
          · exact hn
          · rintro ⟨hh, _⟩
            have := getD_srt_inj hs a0 hk (by rw [b0, hh])
            subst this
            exact hne rfl
      · rintro ⟨k, n, hk, rfl, hn⟩
        rw [arcW_snoc] at hn
        by_cases hkk : k = rank (srt zs) e.f0
        · subst hkk
          rw [b0, if_pos ⟨rfl, rfl⟩] at hn
          injection hn with hn
          subst hn
          exact .inl rfl
        · rw [if_neg] at hn
          · refine .inr ⟨⟨k, n, hk, rfl, hn⟩, ?_⟩
            show ¬ (k : Int) = _
            omega
          · rintro ⟨hh, _⟩
            exact hkk (getD_srt_inj hs hk a0 (by rw [b0, hh]))
    · rw [getD_set_other _ _ _ _ _ hr, h.inn i hi]
      have hne : ∀ k, arcW (es ++ [e]) ((srt zs).getD k 0) ((srt zs).getD i 0) = arcW es ((srt zs).getD k 0) ((srt zs).getD i 0) := by
        intro k
        rw [arcW_snoc, if_neg]
        rintro ⟨_, hh⟩
        exact hr (getD_srt_inj hs a1 hi (by rw [b1, hh]))
      simp only [hne]

theorem pl0_adj (zs : List Int) : Adj zs [] (pl0 (srt zs)) := by
  have hr : ∀ i, (List.replicate (srt zs).length ([] : List (Int × Nat))).getD i [] = [] := by
    intro i
    rw [List.getD_eq_getElem?_getD, List.getElem?_replicate]; split <;> rfl
  refine ⟨rfl, by simp [pl0], by simp [pl0], ?_, ?_⟩
  all_goals
    intro i hi a
    unfold pl0
    rw [hr]
    constructor
    · intro h; cases h
    · rintro ⟨k, n, _, _, hn⟩; cases hn

theorem plOf_adj (zs : List Int) (hz : zs.length ≤ 1000) (h : (srt zs).Pairwise (· < ·)) (es : List S38) (he : es.all (goodE zs) = true) : Adj zs es (plOf true zs es) := by
  revert he
  refine snoc_ind (P := fun es => es.all (goodE zs) = true → Adj zs es (plOf true zs es)) es (fun _ => pl0_adj zs) fun es e ih he => ?_
  rw [List.all_append, Bool.and_eq_true] at he
  have he2 : goodE zs e = true := by simpa using he.2
  rw [plOf_snoc]
  unfold goodE at he2
  simp only [Bool.and_eq_true, decide_eq_true_eq] at he2
  exact (ih he.1).step (plOf_good true zs hz h es he.1) h e ((mem_srt _ _).2 he2.1.1.1.1) ((mem_srt _ _).2 he2.1.1.1.2)

/-- the nodes to which edges lead from u -/
def outN (zs : List Int) (es : List S38) (u : Int) : List Int := (srt zs).filter fun v => (arcW es u v).isSome
/-- the nodes from which edges lead to u -/
def innN (zs : List Int) (es : List S38) (u : Int) : List Int := (srt zs).filter fun v => (arcW es v u).isSome

theorem int_ext {l1 l2 : List Int} (h1 : l1.Pairwise (· < ·)) (h2 : l2.Pairwise (· < ·)) (hm : ∀ x, x ∈ l1 ↔ x ∈ l2) : l1 = l2 := by
  induction l1 generalizing l2 with
  | nil =>
    cases l2 with
    | nil => rfl
    | cons y r => exact absurd ((hm y).2 (by simp)) (by simp)
  | cons x r ih =>
    cases l2 with
    | nil => exact absurd ((hm x).1 (by simp)) (by simp)
    | cons y s =>
      rw [List.pairwise_cons] at h1 h2
      have e : x = y := by
        have a := (hm x).1 (by simp)
        have b := (hm y).2 (by simp)
        rw [List.mem_cons] at a b
        rcases a with a | a
        · exact a
        · rcases b with b | b
          · exact b.symm
          · have := h2.1 _ a; have := h1.1 _ b; omega
      subst e
      rw [ih h1.2 h2.2]
      intro z
      constructor
      · intro hz
        have := (hm z).1 (by simp [hz])
        rw [List.mem_cons] at this
        rcases this with rfl | h
        · exact absurd (h1.1 _ hz) (by omega)
        · exact h
      · intro hz
        have := (hm z).2 (by simp [hz])
        rw [List.mem_cons] at this
        rcases this with rfl | h
        · exact absurd (h2.1 _ hz) (by omega)
        · exact h

theorem ends_eq {ids : List Int} (hs : ids.Pairwise (· < ·)) {l : List (Int × Nat)} (hl : GoodRow ids.length l) {f : Int → Option Int}
    (hm : ∀ a, a ∈ l ↔ ∃ k n, k < ids.length ∧ a = ((k : Int), floatOfInt .f64 n) ∧ f (ids.getD k 0) = some n) : l.map (fun a => ids.getD a.1.toNat 0) = ids.filter fun v => (f v).isSome := by
  refine int_ext ?_ (hs.filter _) fun v => ?_
  · rw [List.pairwise_map]
    have h1 : l.Pairwise fun a b => a.1 < b.1 := by
      have := hl.1
      unfold keys at this
      rw [List.pairwise_map] at this
      exact this
    refine h1.imp_of_mem ?_
    intro a b ha hb hab
    obtain ⟨ka, _, hka, rfl, _⟩ := (hm a).1 ha
    obtain ⟨kb, _, hkb, rfl, _⟩ := (hm b).1 hb
    have hab : (ka : Int) < (kb : Int) := hab
    show ids.getD ((ka : Int)).toNat 0 < ids.getD ((kb : Int)).toNat 0
    simp only [Int.toNat_natCast, List.getD_eq_getElem?_getD, List.getElem?_eq_getElem hka, List.getElem?_eq_getElem hkb, Option.getD_some]
    exact List.pairwise_iff_getElem.1 hs _ _ hka hkb (by omega)
  · rw [List.mem_map, List.mem_filter]
    constructor
    · rintro ⟨a, ha, rfl⟩
      obtain ⟨k, n, hk, rfl, hn⟩ := (hm a).1 ha
      show ids.getD ((k : Int)).toNat 0 ∈ ids ∧ _
      rw [Int.toNat_natCast]
      refine ⟨?_, by rw [hn]; rfl⟩
      simp only [List.getD_eq_getElem?_getD, List.getElem?_eq_getElem hk, Option.getD_some]
      exact List.getElem_mem _
    · rintro ⟨h1, h2⟩
      obtain ⟨n, hn⟩ := Option.isSome_iff_exists.1 h2
      obtain ⟨a, b⟩ := rank_at hs h1
      exact ⟨((rank ids v : Nat), floatOfInt .f64 n), (hm _).2 ⟨_, n, a, rfl, by rw [b]; exact hn⟩, by show ids.getD ((rank ids v : Nat) : Int).toNat 0 = v; rw [Int.toNat_natCast, b]⟩

theorem Adj.outN {zs : List Int} {es : List S38} {p : Pl} (h : Adj zs es p) (hg : p.Good) (hs : (srt zs).Pairwise (· < ·)) {u : Int} (hu : u ∈ srt zs) :
    (p.out.getD (rank p.ids u) []).map (fun a => p.ids.getD a.1.toNat 0) = outN zs es u := by
  obtain ⟨a, b⟩ := rank_at hs hu
  have hrow := hg.out (rank p.ids u)
  rw [h.ids] at hrow ⊢
  exact ends_eq hs hrow (f := fun v => arcW es u v) fun c => by rw [h.out _ a, b]

theorem Adj.innN {zs : List Int} {es : List S38} {p : Pl} (h : Adj zs es p) (hg : p.Good) (hs : (srt zs).Pairwise (· < ·)) {u : Int} (hu : u ∈ srt zs) :
    (p.inn.getD (rank p.ids u) []).map (fun a => p.ids.getD a.1.toNat 0) = innN zs es u := by
  obtain ⟨a, b⟩ := rank_at hs hu
  have hrow := hg.inn (rank p.ids u)
  rw [h.ids] at hrow ⊢
  exact ends_eq hs hrow (f := fun v => arcW es v u) fun c => by rw [h.inn _ a, b]

theorem Adj.find {zs : List Int} {es : List S38} {p : Pl} (h : Adj zs es p) (hg : p.Good) (hs : (srt zs).Pairwise (· < ·)) {u v : Int} (hu : u ∈ srt zs) (hv : v ∈ srt zs) :
    p.find u v = (arcW es u v).map fun n => (((rank (srt zs) v : Nat) : Int), floatOfInt .f64 n) := by
  obtain ⟨a, b⟩ := rank_at hs hu
  obtain ⟨a', b'⟩ := rank_at hs hv
  have hrow := hg.out (rank p.ids u)
  have hm := h.out _ a
  unfold Pl.find Pl.row
  rw [h.ids] at hrow ⊢
  cases hn : arcW es u v with
  | none =>
    rw [if_neg]
    · rfl
    · rintro ⟨_, _, hk⟩
      obtain ⟨x, hx, hx2⟩ := List.mem_map.1 hk
      obtain ⟨k, n, hk1, rfl, hk2⟩ := (hm x).1 hx
      have : k = rank (srt zs) v := by have h9 : (k : Int) = ((rank (srt zs) v : Nat) : Int) := hx2; omega
      subst this
      rw [b, b', hn] at hk2
      cases hk2
  | some n =>
    have hmem : (((rank (srt zs) v : Nat) : Int), floatOfInt .f64 n) ∈ p.out.getD (rank (srt zs) u) [] := (hm _).2 ⟨_, n, a', rfl, by rw [b, b']; exact hn⟩
    have hk : ((rank (srt zs) v : Nat) : Int) ∈ keys (p.out.getD (rank (srt zs) u) []) := List.mem_map.2 ⟨_, hmem, rfl⟩
    rw [if_pos ⟨hu, hv, hk⟩]
    obtain ⟨hr, he⟩ := (rank_mem hrow.1 _).1 hk
    rw [keys_get] at he
    have hr' : rank (keys (p.out.getD (rank (srt zs) u) [])) ((rank (srt zs) v : Nat) : Int) < (p.out.getD (rank (srt zs) u) []).length := by rw [keys_length] at hr; exact hr
    rw [List.getElem?_eq_getElem hr']
    show _ = some _
    congr 1
    obtain ⟨k, n', hk1, e1, hk2⟩ := (hm _).1 (List.getElem_mem hr')
    rw [e1] at he ⊢
    have : k = rank (srt zs) v := by have h9 : (k : Int) = ((rank (srt zs) v : Nat) : Int) := he; omega
    subst this
    rw [b, b', hn] at hk2
    injection hk2 with hk2
    rw [hk2]
end Go.Proofs.YtfkmpnpliadohaaGreat.R

set_option linter.unusedVariables false
set_option linter.unusedSimpArgs false
/- The graph without directions, in the words of the list of edges. -/
namespace Go.Proofs.YtfkmpnpliadohaaGreat.R
open Go.RowKit Go.Lab Go.Proofs.YtfkmpnpliadohaaGreatW.PrintWords Go.Proofs.YtfkmpnpliadohaaGreatW.PrintLast Go.Proofs.YtfkmpnpliadohaaGreatW.PrintMore PL

/-- two lists in one: what the second one has more -/
def both (xs ys : List Int) : List Int := xs ++ ys.filter fun v => !decide (v ∈ xs)
/-- the neighbours of u -/
def nbs (zs : List Int) (es : List S38) (u : Int) : List Int := srt (both (outN zs es u) (innN zs es u))

theorem lt_nodup {l : List Int} (h : l.Pairwise (· < ·)) : l.Nodup := h.imp (fun h => by omega)

theorem both_nodup {xs ys : List Int} (hx : xs.Nodup) (hy : ys.Nodup) : (both xs ys).Nodup := by
  unfold both
  rw [List.nodup_append]
  refine ⟨hx, hy.filter _, fun a ha b hb e => ?_⟩
  subst e
  rw [List.mem_filter] at hb
  simp [ha] at hb

theorem mem_both (xs ys : List Int) (v : Int) : v ∈ both xs ys ↔ v ∈ xs ∨ v ∈ ys := by
  unfold both
  rw [List.mem_append, List.mem_filter]
  by_cases h : v ∈ xs <;> simp [h]

theorem nbs_eq {zs : List Int} (hs : (srt zs).Pairwise (· < ·)) (es : List S38) (u : Int) : nbs zs es u = (srt zs).filter fun v => (arcW es u v).isSome || (arcW es v u).isSome := by
  have h1 : (outN zs es u).Pairwise (· < ·) := hs.filter _
  have h2 : (innN zs es u).Pairwise (· < ·) := hs.filter _
  refine int_ext (srt_lt (both_nodup (lt_nodup h1) (lt_nodup h2))) (hs.filter _) fun v => ?_
  unfold nbs
  rw [mem_srt, mem_both]
  unfold outN innN
  simp only [List.mem_filter, Bool.or_eq_true]
  constructor
  · rintro (⟨a, b⟩ | ⟨a, b⟩)
    · exact ⟨a, .inl b⟩
    · exact ⟨a, .inr b⟩
  · rintro ⟨a, b | b⟩
    · exact .inl ⟨a, b⟩
    · exact .inr ⟨a, b⟩

/-- two weights in one -/
def mrg (how a b : Int) : Int := if how = 0 then a + b else if how = 1 then min a b else max a b
/-- the weight of u and v -/
def undV (es : List S38) (absent how u v : Int) : Int := mrg how ((arcW es u v).getD absent) ((arcW es v u).getD absent)
/-- the edges that seen lays for one node -/
def seenR (nb : Int → List Int) (wt : Int → Int → Int) (u : Int) : List S38 := ((nb u).filter fun v => !decide (v < u)).map fun v => ⟨u, v, wt u v⟩
def seenE (ns : List Int) (nb : Int → List Int) (wt : Int → Int → Int) : List S38 := ns.flatMap (seenR nb wt)

theorem arcW_le {zs : List Int} {es : List S38} (he : es.all (goodE zs) = true) {u v n : Int} (h : arcW es u v = some n) : -1099511627776 ≤ n ∧ n ≤ 1099511627776 := by
  obtain ⟨e, hm, _, _, rfl⟩ := arcW_mem h
  have := List.all_eq_true.1 he e hm
  unfold goodE at this
  simp only [Bool.and_eq_true, Bool.not_eq_true', decide_eq_true_eq, decide_eq_false_iff_not] at this
  omega

theorem arcW_self {zs : List Int} {es : List S38} (he : es.all (goodE zs) = true) (u : Int) : arcW es u u = none := by
  cases h : arcW es u u with
  | none => rfl
  | some n =>
    obtain ⟨e, hm, h1, h2, _⟩ := arcW_mem h
    have := List.all_eq_true.1 he e hm
    unfold goodE at this
    simp only [Bool.and_eq_true, Bool.not_eq_true', decide_eq_true_eq, decide_eq_false_iff_not] at this
    exact absurd (h1.trans h2.symm) this.1.1.2

theorem undV_le {zs : List Int} {es : List S38} (he : es.all (goodE zs) = true) {absent how : Int} (ha : -1099511627776 ≤ absent ∧ absent ≤ 1099511627776) (u v : Int) : -2199023255552 ≤ undV es absent how u v ∧ undV es absent how u v ≤ 2199023255552 := by
  have h1 : ∀ u v, -1099511627776 ≤ (arcW es u v).getD absent ∧ (arcW es u v).getD absent ≤ 1099511627776 := by
    intro u v
    cases h : arcW es u v with
    | none => exact ha
    | some n => exact arcW_le he h
  have a := h1 u v
  have b := h1 v u
  unfold undV mrg
  split
  · omega
  · split <;> omega
end Go.Proofs.YtfkmpnpliadohaaGreat.R

set_option linter.unusedVariables false
set_option linter.unusedSimpArgs false
/- The methods of the iterator of two iterators. -/
namespace Go.Proofs.YtfkmpnpliadohaaGreat.R
open Go.RowKit Go.Lab Go.Maps Go.Proofs.YtfkmpnpliadohaaGreatW.PrintWords Go.Proofs.YtfkmpnpliadohaaGreatW.PrintLast Go.Proofs.YtfkmpnpliadohaaGreatW.PrintMore PL

theorem meth_ONext (a : Addr) (w : World) : (method 487 354 (.pointer (some a)) "Next").run Tryz.prog w = .ok (357, .pointer (some a)) w := by kernel_rfl
theorem meth_ONode (a : Addr) (w : World) : (method 487 354 (.pointer (some a)) "Node").run Tryz.prog w = .ok (358, .pointer (some a)) w := by kernel_rfl
theorem meth_OReset (a : Addr) (w : World) : (method 487 354 (.pointer (some a)) "Reset").run Tryz.prog w = .ok (360, .pointer (some a)) w := by kernel_rfl
theorem meth_PNext (a : Addr) (w : World) : (method 487 359 (.pointer (some a)) "Next").run Tryz.prog w = .ok (362, .pointer (some a)) w := by kernel_rfl
theorem meth_PNode (a : Addr) (w : World) : (method 487 359 (.pointer (some a)) "Node").run Tryz.prog w = .ok (363, .pointer (some a)) w := by kernel_rfl
theorem meth_ID (x : Int) (w : World) : (method 487 118 (.int .i64 x) "ID").run Tryz.prog w = .ok (290, .int .i64 x) w := by kernel_rfl

set_option maxHeartbeats 400000 in
theorem nodeID_any (n : Int) (w : World) :
    Calls Tryz.prog 290 #[.int .i64 n] w fun e w' => e = .returned (.int .i64 n) ∧ w = w' := by
  go_enter Tryz.func290, Tryz.ntmps290
  go_wp2
  go_ret
  exact ⟨rfl, rfl⟩

/-- where an iterator stands -/
def posI (w : World) (b : Nat) : Nat := match w.cell? ⟨b, 0, none⟩ with | some (.int _ n) => (n + 1).toNat | _ => 0
theorem OIt.pos {lo B : Nat} {w : World} {b : Nat} {xs : List Int} {k : Nat} (h : OIt lo B w b xs k) : posI w b = k := by
  obtain ⟨A, c, h0, _⟩ := h.cells
  unfold posI
  rw [h0]
  show ((k : Int) - 1 + 1).toNat = k
  omega

/-- what is left of two iterators -/
def rest (xs ys : List Int) (i j : Nat) : List Int := xs.drop i ++ (ys.drop j).filter fun v => !decide (v ∈ xs)
theorem rest_zero (xs ys : List Int) : rest xs ys 0 0 = both xs ys := rfl
theorem rest_a {xs ys : List Int} {i : Nat} (j : Nat) (h : i < xs.length) : rest xs ys i j = xs[i] :: rest xs ys (i + 1) j := by
  unfold rest; rw [List.drop_eq_getElem_cons h]; rfl
theorem rest_skip {xs ys : List Int} {i j : Nat} (hi : ¬ i < xs.length) : rest xs ys i j = rest xs ys (xs.length + 1) j := by
  unfold rest; rw [List.drop_eq_nil_of_le (show xs.length ≤ i by omega), List.drop_eq_nil_of_le (show xs.length ≤ xs.length + 1 by omega)]
theorem rest_b {xs ys : List Int} {i j : Nat} (hi : ¬ i < xs.length) (hj : j < ys.length) : rest xs ys i j = if ys[j] ∈ xs then rest xs ys i (j + 1) else ys[j] :: rest xs ys i (j + 1) := by
  unfold rest
  rw [List.drop_eq_nil_of_le (by omega), List.drop_eq_getElem_cons hj, List.filter_cons]
  by_cases h : ys[j] ∈ xs <;> simp [h]
theorem rest_end {xs ys : List Int} {i j : Nat} (hi : ¬ i < xs.length) (hj : ¬ j < ys.length) : rest xs ys i j = [] := by
  unfold rest
  rw [List.drop_eq_nil_of_le (show xs.length ≤ i by omega), List.drop_eq_nil_of_le (show ys.length ≤ j by omega)]; rfl

def uniq (xs ys : List Int) : Int → Bool := fun x => decide (x ∈ ys) && !decide (x ∈ xs)

structure PIt (lo B : Nat) (w : World) (b : Nat) (xs ys r : List Int) (cur : Value) : Prop where
  ex : ∃ i j la Ba ba lb Bb bb mb n c1 c2 D, PIn lo w b xs ys i j cur la Ba ba lb Bb bb mb n c1 c2 D ∧ Marks D (uniq xs ys) ∧ r = rest xs ys i j ∧ b < B

theorem Mid.drewN (lo B : Nat) (w : World) (n : Nat) : Mid lo B w (w.drewN n) := Mid.of_below (Drawn0.below ⟨⟨n, rfl⟩⟩)

theorem PIn.midA {lo : Nat} {w : World} {b : Nat} {xs ys : List Int} {i j : Nat} {cur : Value} {la Ba ba lb Bb bb mb n : Nat} {c1 c2 : Int} {D : DataW Unit} (h : PIn lo w b xs ys i j cur la Ba ba lb Bb bb mb n c1 c2 D) {B : Nat} (hB : b < B) {w0 w1 : World} (hm : Mid la Ba w0 w1) : Mid lo B w0 w1 :=
  hm.wide h.ha (by have := h.ma; have := h.mlt; omega)
theorem PIn.midB {lo : Nat} {w : World} {b : Nat} {xs ys : List Int} {i j : Nat} {cur : Value} {la Ba ba lb Bb bb mb n : Nat} {c1 c2 : Int} {D : DataW Unit} (h : PIn lo w b xs ys i j cur la Ba ba lb Bb bb mb n c1 c2 D) {B : Nat} (hB : b < B) {w0 w1 : World} (hm : Mid lb Bb w0 w1) : Mid lo B w0 w1 :=
  hm.wide h.hb (by have := h.mb'; have := h.mlt; omega)

set_option maxHeartbeats 8000000 in
set_option maxRecDepth 100000 in
theorem nextP_a (lo B b : Nat) (xs ys : List Int) (i j : Nat) (cur : Value) (la Ba ba lb Bb bb mb n : Nat) (c1 c2 : Int) (D : DataW Unit) (w : World) (h : PIn lo w b xs ys i j cur la Ba ba lb Bb bb mb n c1 c2 D) (hB : b < B) (hi : i < xs.length) (hx : xs.length ≤ 1000) :
    Calls Tryz.prog 362 #[.pointer (some ⟨b, 0, none⟩)] w fun e w' => e = .returned (.bool true) ∧ Mid lo B w w' ∧ ∃ c1', PIn lo w' b xs ys (i + 1) j (nodeV xs[i]) la Ba ba lb Bb bb mb n c1' c2 D := by
  have HP := Aside0.mk h
  obtain ⟨h0, h1, h2, h3, h4, h5, hf, hb⟩ := h.cells
  have hf2 := hf 2
  have hf3 := hf 3
  have m1 := meth_ONext ⟨ba, 0, none⟩
  have m2 := meth_ONode ⟨ba, 0, none⟩
  have hbl := h.lolt
  clear h hf
  go_enter Tryz.func362, Tryz.ntmps362
  go_wp2_with (first
    | (go_at_call 357; refine (next_any la Ba ba i xs _ HP.out.ia (by omega)).mono ?_; rintro e w1 ⟨rfl, hia, hmid⟩; rw [if_pos hi] at hia; rw [decide_eq_true hi]; have HQ := Aside0.mk (HP.out.nextA hia hmid); have HM := Aside0.mk (HP.out.midA hB hmid); obtain ⟨h0, h1, h2, h3, h4, h5, hf, hb⟩ := HQ.out.cells; have hf2 := hf 2; have hf3 := hf 3; clear hia hmid hf)
    | (go_at_call 358; refine (nodeI_any la Ba ba i xs _ (HQ.out.set3 _).ia hi (by omega)).mono ?_; rintro e w2 ⟨rfl, ⟨⟨nq, rfl⟩⟩⟩; unfold nodeV))
  go_ret
  exact ⟨rfl, ((HM.out.trans (Mid.set _ _ _ hbl hB)).trans (Mid.drewN _ _ _ _)).trans (Mid.set _ _ _ hbl hB), _, ((HQ.out.set3 _).same (w1 := World.drewN _ nq) rfl).set2 _⟩

theorem nodeI_q (lo B b k : Nat) (xs : List Int) (w : World) (h : OIt lo B w b xs (k + 1)) (hk : k < xs.length) (hl : xs.length ≤ 100000) :
    Calls Tryz.prog 358 #[.pointer (some ⟨b, 0, none⟩)] w fun e w' => e = .returned (.iface 118 (.int .i64 xs[k])) ∧ ∃ n, w' = w.drewN n :=
  (nodeI_any lo B b k xs w h hk hl).mono fun _ _ ⟨h1, h2⟩ => ⟨h1, h2.out⟩
theorem nodeID_q (n : Int) (w : World) : Calls Tryz.prog 290 #[.int .i64 n] w fun e w' => e = .returned (.int .i64 n) ∧ ∃ n, w' = w.drewN n :=
  (nodeID_any n w).mono fun _ _ ⟨h1, h2⟩ => ⟨h1, 0, h2.symm⟩

set_option maxHeartbeats 8000000 in
set_option maxRecDepth 100000 in
theorem nextP_b (lo B b : Nat) (xs ys : List Int) (i j : Nat) (cur : Value) (la Ba ba lb Bb bb mb n : Nat) (c1 c2 : Int) (D : DataW Unit) (w : World) (h : PIn lo w b xs ys i j cur la Ba ba lb Bb bb mb n c1 c2 D) (hB : b < B) (hM : Marks D (uniq xs ys)) (hi : ¬ i < xs.length) (hx : xs.length ≤ 1000) (hy : ys.length ≤ 1000)
    (hwf : ∀ y ∈ ys, (Lit.int .i64 y).wf = true) :
    Calls Tryz.prog 362 #[.pointer (some ⟨b, 0, none⟩)] w fun e w' => e = .returned (.bool (!(rest xs ys i j).isEmpty)) ∧ Mid lo B w w' ∧ ∃ cur', PIt lo B w' b xs ys (rest xs ys i j).tail cur' ∧ ∀ z, (rest xs ys i j).head? = some z → cur' = nodeV z := by
  have HP := Aside0.mk h
  have HMK := Aside0.mk hM
  have HWF := Aside0.mk hwf
  obtain ⟨h0, h1, h2, h3, h4, h5, hf, hb⟩ := h.cells
  have m1 := meth_ONext ⟨ba, 0, none⟩
  have m2 := meth_ONode ⟨bb, 0, none⟩
  have m3 := meth_ONext ⟨bb, 0, none⟩
  have m4 := meth_ID
  have hbl := h.lolt
  clear h hf hM hwf
  go_enter Tryz.func362, Tryz.ntmps362
  go_wp2_with (first
    | (go_at_call 357; refine (next_any la Ba ba i xs _ HP.out.ia (by omega)).mono ?_; rintro e w1 ⟨rfl, hia, hmid⟩; rw [if_neg hi] at hia; rw [decide_eq_false hi]; have HQ := Aside0.mk (HP.out.nextA hia hmid); have HM := Aside0.mk (HP.out.midA hB hmid); clear hia hmid))
  go_loopw [23] (fun _ wr => ∃ j', Aside0 (PIn lo wr b xs ys (xs.length + 1) j' cur la Ba ba lb Bb bb mb n c1 c2 D ∧ Mid lo B w wr ∧ rest xs ys (xs.length + 1) j' = rest xs ys i j)) (fun _ wr => ys.length + 2 - posI wr bb)
  case atStart => exact ⟨j, ⟨HQ.out, HM.out, (rest_skip hi).symm⟩⟩
  case round =>
    obtain ⟨j', HR⟩ := hrel
    have hp := HR.out.1.ib.pos
    obtain ⟨h0, h1, h2, h3, h4, h5, hf, hb⟩ := HR.out.1.cells
    by_cases hj : j' < ys.length
    · go_wp2_with (first
        | (go_at_call 357; refine (next_any lb Bb bb j' ys _ HR.out.1.ib (by omega)).mono ?_; rintro e w2 ⟨rfl, hib, hmid⟩; rw [if_pos hj] at hib; rw [decide_eq_true hj]; have HQ2 := Aside0.mk (HR.out.1.nextB hib hmid); have HM2 := Aside0.mk (HR.out.2.1.trans (HR.out.1.midB hB hmid)); obtain ⟨h0, h1, h2, h3, h4, h5, hf, hb⟩ := HQ2.out.cells; have hf2 := hf 2; have hf3 := hf 3; clear hib hmid hf))
      have hy0 : (Lit.int .i64 ys[j']).wf = true := HWF.out _ (List.getElem_mem _)
      have hrest := rest_b (xs := xs) (ys := ys) (i := xs.length + 1) (by omega) hj
      obtain ⟨c, hl1, hl2⟩ := HQ2.out.map.look hy0
      have hcu : c = !decide (ys[j'] ∈ xs) := by
        have h3 := HMK.out ys[j']
        rw [hl2] at h3
        injection h3 with h3
        injection h3 with h3
        rw [h3]
        unfold uniq
        rw [decide_eq_true (List.getElem_mem hj)]; rfl
      have hlk : ∀ q, (Instr.lookup 365 (.map (some mb)) (.int .i64 ys[j']) false).run Tryz.prog (w2.drewN q) = .ok (.bool c) (w2.drewN q) := fun q => by
        obtain ⟨c', h1, h2⟩ := (HQ2.out.map.stay (w1 := w2.drewN q) rfl).look hy0
        rw [hl2] at h2
        injection h2 with h2
        injection h2 with h2
        subst h2
        exact h1
      have hp2 : ∀ q, posI (w2.drewN q) bb = j' + 1 := fun q => HQ2.out.ib.pos
      have HP2 := Aside0.mk hp2
      have HR0 := Aside0.mk hrest
      have HP1 := Aside0.mk hp
      clear hl1 hl2 hrest hp hp2
      by_cases hm : ys[j'] ∈ xs
      · rw [decide_eq_true hm] at hcu
        subst hcu
        rw [if_pos hm] at HR0
        clear hm
        go_quiet (first
          | (go_at_call 358; refine Calls.quiet_of (nodeI_q lb Bb bb j' ys _ ?_ hj (by omega)); exact HQ2.out.ib.far fun _ _ _ => rfl)
          | (go_at_call 290; exact Calls.quiet_of (nodeID_q _ _)))
        go_wp2
        go_roundw
        case rel => exact ⟨j' + 1, ⟨HQ2.out.same rfl, HM2.out.trans (Mid.drewN _ _ _ _), by rw [← HR0.out]; exact HR.out.2.2⟩⟩
        case measure => rw [HP2.out, HP1.out]; omega
      · rw [decide_eq_false hm] at hcu
        subst hcu
        rw [if_neg hm] at HR0
        clear hm
        go_quiet (first
          | (go_at_call 358; refine Calls.quiet_of (nodeI_q lb Bb bb j' ys _ ?_ hj (by omega)); exact HQ2.out.ib.far fun _ _ _ => rfl)
          | (go_at_call 290; exact Calls.quiet_of (nodeID_q _ _)))
        have HQ3 := Aside0.mk (HQ2.out.same (w1 := w2.drewN nq) rfl)
        go_wp2_with (go_at_call 358; refine (nodeI_any lb Bb bb j' ys _ (HQ3.out.set3 _).ib hj (by omega)).mono ?_; rintro e w3 ⟨rfl, ⟨⟨nq2, rfl⟩⟩⟩; unfold nodeV)
        go_ret
        have hre : rest xs ys i j = ys[j'] :: rest xs ys (xs.length + 1) (j' + 1) := by rw [← HR0.out]; exact HR.out.2.2.symm
        rw [hre]
        exact ⟨rfl, (((HM2.out.trans (Mid.drewN _ _ _ _)).trans (Mid.set _ _ _ hbl hB)).trans (Mid.drewN _ _ _ _)).trans (Mid.set _ _ _ hbl hB), _,
          ⟨⟨_, _, _, _, _, _, _, _, _, _, _, _, _, ((HQ3.out.set3 _).same (w1 := World.drewN _ nq2) rfl).set2 _, HMK.out, rfl, hB⟩⟩, fun z hz => by injection hz with hz; subst hz; rfl⟩
    · have hre : rest xs ys i j = [] := by rw [← HR.out.2.2]; exact rest_end (by omega) hj
      have HRE := Aside0.mk hre
      clear hre
      go_wp2_with (first
        | (go_at_call 357; refine (next_any lb Bb bb j' ys _ HR.out.1.ib (by omega)).mono ?_; rintro e w2 ⟨rfl, hib, hmid⟩; rw [if_neg hj] at hib; rw [decide_eq_false hj]; have HQ2 := Aside0.mk (HR.out.1.nextB hib hmid); have HM2 := Aside0.mk (HR.out.2.1.trans (HR.out.1.midB hB hmid)); obtain ⟨h0, h1, h2, h3, h4, h5, hf, hb⟩ := HQ2.out.cells; have hf2 := hf 2; have hf3 := hf 3; clear hib hmid hf))
      go_ret
      rw [HRE.out]
      exact ⟨rfl, HM2.out.trans (Mid.set _ _ _ hbl hB), _, ⟨⟨_, _, _, _, _, _, _, _, _, _, _, _, _, HQ2.out.set2 _, HMK.out, (rest_end (by omega) (by omega)).symm, hB⟩⟩, fun z hz => by cases hz⟩

theorem nextP_any (lo B b : Nat) (xs ys r : List Int) (cur : Value) (w : World) (h : PIt lo B w b xs ys r cur) (hx : xs.length ≤ 1000) (hy : ys.length ≤ 1000) (hwf : ∀ y ∈ ys, (Lit.int .i64 y).wf = true) :
    Calls Tryz.prog 362 #[.pointer (some ⟨b, 0, none⟩)] w fun e w' => e = .returned (.bool (!r.isEmpty)) ∧ Mid lo B w w' ∧ ∃ cur', PIt lo B w' b xs ys r.tail cur' ∧ ∀ z, r.head? = some z → cur' = nodeV z := by
  obtain ⟨i, j, la, Ba, ba, lb, Bb, bb, mb, n, c1, c2, D, hP, hM, rfl, hB⟩ := h.ex
  by_cases hi : i < xs.length
  · refine (nextP_a lo B b xs ys i j cur la Ba ba lb Bb bb mb n c1 c2 D w hP hB hi hx).mono ?_
    rintro e w' ⟨rfl, hm, c1', hP'⟩
    rw [rest_a j hi]
    exact ⟨rfl, hm, _, ⟨⟨_, _, _, _, _, _, _, _, _, _, _, _, _, hP', hM, rfl, hB⟩⟩, fun z hz => by injection hz with hz; subst hz; rfl⟩
  · exact nextP_b lo B b xs ys i j cur la Ba ba lb Bb bb mb n c1 c2 D w hP hB hM hi hx hy hwf

set_option maxHeartbeats 1000000 in
theorem nodeP_any (lo B b : Nat) (xs ys r : List Int) (cur : Value) (w : World) (h : PIt lo B w b xs ys r cur) :
    Calls Tryz.prog 363 #[.pointer (some ⟨b, 0, none⟩)] w fun e w' => e = .returned cur ∧ w = w' := by
  obtain ⟨i, j, la, Ba, ba, lb, Bb, bb, mb, n, c1, c2, D, hP, hM, rfl, hB⟩ := h.ex
  obtain ⟨h0, h1, h2, h3, h4, h5, hf, hb⟩ := hP.cells
  clear h hP hf
  go_enter Tryz.func363, Tryz.ntmps363
  go_wp2
  go_ret
  exact ⟨rfl, rfl⟩
end Go.Proofs.YtfkmpnpliadohaaGreat.R

set_option linter.unusedVariables false
set_option linter.unusedSimpArgs false
/- newNodeIteratorPair. -/
namespace Go.Proofs.YtfkmpnpliadohaaGreat.R
open Go.RowKit Go.Lab Go.Maps Go.Proofs.YtfkmpnpliadohaaGreatW.PrintWords Go.Proofs.YtfkmpnpliadohaaGreatW.PrintLast Go.Proofs.YtfkmpnpliadohaaGreatW.PrintMore PL

def np.T3 : Bool × List (List Nat × List Nat) := (true, [([], []), ([0], [0]), ([], []), ([2], [2]), ([3], [3]), ([4, 4], [4]), ([1, 5, 5, 0, 1, 2, 3, 4, 5], [1, 5])])
def np.B3 : List Nat := [0, 1, 0, 4, 12, 28, 63]
theorem np.tab3 : rtab .any (opsOf Tryz.f289 3) = np.T3 := by kernel_rfl
theorem np.bits3 : waitsOk np.T3.2 np.B3 = true := by kernel_rfl
def np.T10 : Bool × List (List Nat × List Nat) := (true, [([], []), ([0], [0]), ([], []), ([2], [2]), ([3], [3]), ([4, 4], [4]), ([1, 5, 5, 0, 1, 2, 3, 4, 5], [1, 5])])
def np.B10 : List Nat := [0, 1, 0, 4, 12, 28, 63]
theorem np.tab10 : rtab .any (opsOf Tryz.f289 10) = np.T10 := by kernel_rfl
theorem np.bits10 : waitsOk np.T10.2 np.B10 = true := by kernel_rfl

theorem Marks.to {D : DataW Unit} {p q : Int → Bool} (h : Marks D p) (he : ∀ x, p x = q x) : Marks D q := fun x => by rw [h x, he x]

theorem PIn.made {lo la Ba ba lb Bb bb : Nat} {xs ys : List Int} {w : World} (ha : OIt la Ba w ba xs 0) (hb : OIt lb Bb w bb ys 0) (hap : Ba ≤ lb ∨ Bb ≤ la) (hla : lo ≤ la) (hlb : lo ≤ lb) (hBa : Ba ≤ w.heap.size) (hBb : Bb ≤ w.heap.size) :
    PIn lo ((w.alloc (.map #[] 0)).alloc (.cells #[.iface 354 (.pointer (some ⟨ba, 0, none⟩)), .iface 354 (.pointer (some ⟨bb, 0, none⟩)), .nilIface, .int .i64 0, .int .i64 0, .map (some w.heap.size)] 367)) (w.heap.size + 1) xs ys 0 0 .nilIface la Ba ba lb Bb bb w.heap.size 0 0 0 (.map []) := by
  have hb1 : ∀ q, q < w.heap.size → ((w.alloc (.map #[] 0)).alloc (.cells #[.iface 354 (.pointer (some ⟨ba, 0, none⟩)), .iface 354 (.pointer (some ⟨bb, 0, none⟩)), .nilIface, .int .i64 0, .int .i64 0, .map (some w.heap.size)] 367)).heap[q]? = w.heap[q]? :=
    fun q hq => (((Below.refl w.heap.size w).alloc (Nat.le_refl _) (.map #[] 0)).alloc (by simp) _).block q hq
  refine ⟨?_, ha.far fun q _ h => hb1 q (by omega), hb.far fun q _ h => hb1 q (by omega), hap, hla, hlb, hBa, hBb, Nat.lt_succ_self _, (World.ownsMap_made w _ _ _).alloc _⟩
  have := heap_alloc_new (w.alloc (.map #[] 0)) (.cells #[.iface 354 (.pointer (some ⟨ba, 0, none⟩)), .iface 354 (.pointer (some ⟨bb, 0, none⟩)), .nilIface, .int .i64 0, .int .i64 0, .map (some w.heap.size)] 367)
  simpa using this

theorem take_mem_step {zs : List Int} {k : Nat} (hk : k < zs.length) (x : Int) : decide (x ∈ zs.take (k + 1)) = (if x = zs[k] then true else decide (x ∈ zs.take k)) := by
  have hm : x ∈ zs.take (k + 1) ↔ x ∈ zs.take k ∨ x = zs[k] := by rw [List.take_succ_eq_append_getElem hk, List.mem_append, List.mem_singleton]
  by_cases h : x = zs[k]
  · rw [if_pos h, decide_eq_true (hm.2 (.inr h))]
  · rw [if_neg h]
    by_cases h2 : x ∈ zs.take k
    · rw [decide_eq_true h2, decide_eq_true (hm.2 (.inl h2))]
    · rw [decide_eq_false h2, decide_eq_false (fun h3 => (hm.1 h3).elim h2 h)]

theorem Below.set (lo : Nat) (w : World) (a : Addr) {v : Value} (h : lo ≤ a.block) : Below lo w (w.setCell a v) :=
  ⟨rfl, rfl, rfl, by simp [World.setCell], fun k hk => Below.heap_setCell _ _ _ _ (by omega)⟩
theorem Below.drewN' (lo : Nat) (w : World) (n : Nat) : Below lo w (w.drewN n) := ⟨rfl, rfl, rfl, Nat.le_refl _, fun _ _ => rfl⟩
theorem Below.of_map {lo mb : Nat} {w w1 : World} (h : w.grownBy w1 (some mb)) (hl : lo ≤ mb) (hm : mb < w.heap.size) : Below lo w w1 :=
  ⟨h.os, h.tape, h.output, h.size, fun k hk => h.block k (by omega) (fun e => by injection e with e; omega)⟩
theorem PIn.belA {lo : Nat} {w : World} {b : Nat} {xs ys : List Int} {i j : Nat} {cur : Value} {la Ba ba lb Bb bb mb n : Nat} {c1 c2 : Int} {D : DataW Unit} (h : PIn lo w b xs ys i j cur la Ba ba lb Bb bb mb n c1 c2 D) {w0 w1 : World} (hm : Mid la Ba w0 w1) (hs : ba < w0.heap.size) : Below lo w0 w1 :=
  (hm.wide h.ha (Nat.le_refl _)).below (by have := h.ia.hb; have := h.ha; omega)
theorem PIn.belB {lo : Nat} {w : World} {b : Nat} {xs ys : List Int} {i j : Nat} {cur : Value} {la Ba ba lb Bb bb mb n : Nat} {c1 c2 : Int} {D : DataW Unit} (h : PIn lo w b xs ys i j cur la Ba ba lb Bb bb mb n c1 c2 D) {w0 w1 : World} (hm : Mid lb Bb w0 w1) (hs : bb < w0.heap.size) : Below lo w0 w1 :=
  (hm.wide h.hb (Nat.le_refl _)).below (by have := h.ib.hb; have := h.hb; omega)
theorem PIn.lomb {lo : Nat} {w : World} {b : Nat} {xs ys : List Int} {i j : Nat} {cur : Value} {la Ba ba lb Bb bb mb n : Nat} {c1 c2 : Int} {D : DataW Unit} (h : PIn lo w b xs ys i j cur la Ba ba lb Bb bb mb n c1 c2 D) : lo ≤ mb := by
  have := h.ia.hb; have := h.ha; have := h.ma; omega

/-- loop 1's state -/
structure NP1 (lo : Nat) (w wr : World) (b : Nat) (xs ys : List Int) (la Ba ba lb Bb bb mb : Nat) (k n : Nat) (c2 : Int) (D : DataW Unit) : Prop where
  p : PIn lo wr b xs ys 0 k .nilIface la Ba ba lb Bb bb mb n 0 c2 D
  bel : Below lo w wr
  mrk : Marks D fun x => decide (x ∈ ys.take k)
  n : n ≤ k
  k : k ≤ ys.length
/-- loop 2's state -/
structure NP2 (lo : Nat) (w wr : World) (b : Nat) (xs ys : List Int) (la Ba ba lb Bb bb mb : Nat) (k n : Nat) (c2 : Int) (D : DataW Unit) : Prop where
  p : PIn lo wr b xs ys k 0 .nilIface la Ba ba lb Bb bb mb n 0 c2 D
  bel : Below lo w wr
  mrk : Marks D fun x => decide (x ∈ ys) && !decide (x ∈ xs.take k)
  n : n ≤ ys.length + k
  k : k ≤ xs.length

set_option maxHeartbeats 16000000 in
set_option maxRecDepth 100000 in
theorem newPair_any (lo la Ba ba lb Bb bb : Nat) (xs ys : List Int) (w : World) (ha : OIt la Ba w ba xs 0) (hb : OIt lb Bb w bb ys 0) (hap : Ba ≤ lb ∨ Bb ≤ la) (hla : lo ≤ la) (hlb : lo ≤ lb) (hBa : Ba ≤ w.heap.size) (hBb : Bb ≤ w.heap.size)
    (hx : xs.length ≤ 1000) (hy : ys.length ≤ 1000) (hwx : ∀ x ∈ xs, (Lit.int .i64 x).wf = true) (hwy : ∀ y ∈ ys, (Lit.int .i64 y).wf = true) :
    Calls Tryz.prog 289 #[.iface 354 (.pointer (some ⟨ba, 0, none⟩)), .iface 354 (.pointer (some ⟨bb, 0, none⟩))] w fun e w' => ∃ b, e = .returned (.pointer (some ⟨b, 0, none⟩)) ∧ PIt lo w'.heap.size w' b xs ys (both xs ys) .nilIface ∧ Below lo w w' := by
  have HW0 := Aside0.mk (PIn.made ha hb hap hla hlb hBa hBb)
  have HWX := Aside0.mk hwx
  have HWY := Aside0.mk hwy
  have hlw : lo ≤ w.heap.size := by have := ha.hb; omega
  have hmm : ∀ w : World, (Instr.makeMap 365 none).run Tryz.prog w = .ok (.map (some w.heap.size)) (w.alloc (.map #[] 0)) := fun w => rfl
  have m1 := meth_ONext ⟨ba, 0, none⟩
  have m2 := meth_ONode ⟨ba, 0, none⟩
  have m3 := meth_OReset ⟨ba, 0, none⟩
  have m4 := meth_ONext ⟨bb, 0, none⟩
  have m5 := meth_ONode ⟨bb, 0, none⟩
  have m6 := meth_OReset ⟨bb, 0, none⟩
  have m7 := meth_ID
  clear ha hb hwx hwy
  obtain ⟨b, hbe⟩ : ∃ b, b = w.heap.size + 1 := ⟨_, rfl⟩
  obtain ⟨mb, hmb⟩ : ∃ mb, mb = w.heap.size := ⟨_, rfl⟩
  go_enter Tryz.func289, Tryz.ntmps289
  go_wp2
  rw [← hbe, ← hmb] at HW0
  rw [← hbe]
  have HMB := Aside0.mk hmb
  clear hbe hmb
  go_loopw [14] (fun _ wr => ∃ k n c2 D, Aside0 (NP1 lo w wr b xs ys la Ba ba lb Bb bb mb k n c2 D)) (fun _ wr => ys.length + 2 - posI wr bb)
  case atStart => exact ⟨0, 0, 0, .map [], ⟨⟨by rw [← HMB.out]; exact HW0.out, (((Below.refl lo w).alloc hlw (.map #[] 0)).alloc (by simp; omega) _), fun x => by simp [DataW.atKey], Nat.le_refl _, Nat.zero_le _⟩⟩⟩
  case round =>
    obtain ⟨k, n, c2, D, HR⟩ := hrel
    clear HW0
    have hnk := HR.out.n
    have hkk := HR.out.k
    have hp := HR.out.p.ib.pos
    obtain ⟨h0, h1, h2, h3, h4, h5, hf, hb⟩ := HR.out.p.cells
    by_cases hj : k < ys.length
    · go_wp2_with (first
        | (go_at_call 357; refine (next_any lb Bb bb k ys _ HR.out.p.ib (by omega)).mono ?_; rintro e w2 ⟨rfl, hib, hmid⟩; rw [if_pos hj] at hib; rw [decide_eq_true hj]; have HQ := Aside0.mk (HR.out.p.nextB hib hmid); have HM2 := Aside0.mk (HR.out.bel.trans (HQ.out.belB hmid HR.out.p.ib.lt)); obtain ⟨h0, h1, h2, h3, h4, h5, hf, hb⟩ := HQ.out.cells; clear hib hmid hf))
      have hkey : keyOf Tryz.prog 2 (.int .i64 ys[k]) = some (.int .i64 ys[k]) := keyOf_int_mk Tryz.underlying2 (HWY.out _ (List.getElem_mem _))
      refine start_ (n := 7) (S := fun w' => w'.cell? ⟨b, 5, none⟩ = some (.map (some mb)) ∧ w'.cell? ⟨b, 1, none⟩ = some (.iface 354 (.pointer (some ⟨bb, 0, none⟩)))) (ds := [6]) #[false, false, false, false, false, false, false] (by kernel_rfl) rfl rfl ⟨h5, h1⟩ (fun hHeld => ?_)
      refine with_tabW np.tab3 np.bits3 (fun HT_ HW_ => ?_)
      refine pure_ (i := 0) (N := some 15) (v := ?_) (a' := ?_) #[true, false, false, false, false, false, false] rfl rfl (any_of HT_.out (by kernel_rfl)) (fun _ _ _ h => h) (Or.inl ⟨by rfl, ?_⟩) ?_ ?_
      rotate_left
      · intro w'
        go_simp
        with_reducible rfl
      rotate_left
      · simp only [Act.put, List.setIfInBounds_toArray, List.set_cons_zero, List.set_cons_succ, i64_w, i32_w]
        rfl
      refine pure_ (i := 2) (N := some 17) (v := ?_) (a' := ?_) #[true, false, true, false, false, false, false] rfl rfl (any_of HT_.out (by kernel_rfl)) (fun _ _ _ h => h) (Or.inl ⟨by rfl, ?_⟩) ?_ ?_
      rotate_left
      · intro w'
        go_simp
        with_reducible rfl
      rotate_left
      · simp only [Act.put, List.setIfInBounds_toArray, List.set_cons_zero, List.set_cons_succ, i64_w, i32_w]
        rfl
      refine take_ (i := 1) (N := some 16) (v := ?_) (a' := ?_) #[true, true, true, false, false, false, false] rfl rfl (take_ofW HT_.out HW_.out (by kernel_rfl)) (fun _ _ _ h => h) (Or.inl ⟨by rfl, ?_⟩) hHeld ?_ ?_
      rotate_left
      · rintro w' ⟨s0, s1⟩
        go_simp
        with_reducible rfl
      rotate_left
      · simp only [Act.put, List.setIfInBounds_toArray, List.set_cons_zero, List.set_cons_succ, i64_w, i32_w]
        rfl
      refine take_ (i := 3) (N := some 18) (v := ?_) (a' := ?_) #[true, true, true, true, false, false, false] rfl rfl (take_ofW HT_.out HW_.out (by kernel_rfl)) (fun _ _ _ h => h) (Or.inl ⟨by rfl, ?_⟩) hHeld ?_ ?_
      rotate_left
      · rintro w' ⟨s0, s1⟩
        go_simp
        with_reducible rfl
      rotate_left
      · simp only [Act.put, List.setIfInBounds_toArray, List.set_cons_zero, List.set_cons_succ, i64_w, i32_w]
        rfl
      refine one_ (i := 4) (N := some 19) #[true, true, true, true, true, false, false] rfl rfl (one_of HT_.out (by kernel_rfl)) (by decide) (fun K hK => ?_)
      refine call_ 358 #[.pointer (some ⟨bb, 0, none⟩)] (by rfl) rfl ?_ ((nodeI_q lb Bb bb k ys _ HQ.out.ib.drew hj (by omega)).mono ?_)
      · go_simp
      rintro e w3 ⟨rfl, nq, rfl⟩
      refine ⟨_, rfl, ?_⟩
      refine hK.out _ _ hHeld (fun hHeld => ?_)
      clear hK K
      refine norm_ (a' := ?_) ?_ ?_
      rotate_left
      · show Act.put _ (some 19) _ = _
        simp only [Act.put, List.setIfInBounds_toArray, List.set_cons_zero, List.set_cons_succ, i64_w, i32_w]
        rfl
      refine one_ (i := 5) (N := some 20) #[true, true, true, true, true, true, false] rfl rfl (one_of HT_.out (by kernel_rfl)) (by decide) (fun K hK => ?_)
      refine call_ 290 #[.int .i64 ys[k]] (by rfl) rfl ?_ ((nodeID_any _ _).mono ?_)
      · go_simp
      rintro e w4 ⟨rfl, rfl⟩
      refine ⟨_, rfl, ?_⟩
      refine hK.out _ _ hHeld (fun hHeld => ?_)
      clear hK K
      refine norm_ (a' := ?_) ?_ ?_
      rotate_left
      · show Act.put _ (some 20) _ = _
        simp only [Act.put, List.setIfInBounds_toArray, List.set_cons_zero, List.set_cons_succ, i64_w, i32_w]
        rfl
      refine last_ (i := 6) (N := none) #[true, true, true, true, true, true, true] rfl rfl (one_of HT_.out (by kernel_rfl)) (by decide) (fun K hK => ?_)
      refine step_mapUpdate_own (by rfl) (by rfl) _ _ _ 365 (by rfl) 2 4 law2 Tryz.underlying365 (plainElem Tryz.prog 4) mb n D (by rfl) (HQ.out.map.stay rfl) (by unfold maxLen; omega) (.int .i64 ys[k]) (.bool true) (.int .i64 ys[k]) (by rfl) (by rfl) hkey (.lit (.bool true)) [] (plainElem_bool Tryz.underlying4 true) ?_
      intro w5 hown5 hgr5
      have HQ5 := Aside0.mk ((HQ.out.same (w1 := World.drewN (World.drew w2) nq) rfl).put hown5 hgr5)
      have HG5 := Aside0.mk hgr5
      clear hown5 hgr5
      refine hK.out _ _ ?_
      clear hK K
      refine done_ (done_of HT_.out (by kernel_rfl)) ?_
      obtain ⟨h0, h1, h2, h3, h4, h5, hf, hb⟩ := HQ5.out.cells
      have hf4 := hf 4
      clear hf
      go_wp2
      go_roundw
      case rel => exact ⟨k + 1, n + 1, _, _, ⟨⟨HQ5.out.set4 _, (((HM2.out.trans (Below.drewN' lo w2 1)).trans (Below.drewN' lo _ nq)).trans (Below.of_map HG5.out HQ.out.lomb HQ.out.map.lt)).trans (Below.set _ _ _ HQ5.out.lolt), (HR.out.mrk.put HQ.out.map.isMap ys[k] true).to (fun x => (take_mem_step hj x).symm), by omega, by omega⟩⟩⟩
      case measure => rw [hp, (HQ5.out.set4 _).ib.pos]; omega
    · go_wp2_with (first
        | (go_at_call 357; refine (next_any lb Bb bb k ys _ HR.out.p.ib (by omega)).mono ?_; rintro e w2 ⟨rfl, hib, hmid⟩; rw [if_neg hj] at hib; rw [decide_eq_false hj]; have HQ := Aside0.mk (HR.out.p.nextB hib hmid); have HM2 := Aside0.mk (HR.out.bel.trans (HQ.out.belB hmid HR.out.p.ib.lt)); obtain ⟨h0, h1, h2, h3, h4, h5, hf, hb⟩ := HQ.out.cells; clear hib hmid hf)
        | (go_at_call 360; refine (reset_any lb Bb bb (ys.length + 1) ys _ HQ.out.ib).mono ?_; rintro e w3 ⟨rfl, hib, hmid⟩; have HQ3 := Aside0.mk (HQ.out.nextB hib hmid); have HM3 := Aside0.mk (HM2.out.trans (HQ.out.belB hmid HQ.out.ib.lt)); obtain ⟨h0, h1, h2, h3, h4, h5, hf, hb⟩ := HQ3.out.cells; clear hib hmid hf))
      have hkl : k = ys.length := by omega
      have HMK := Aside0.mk (HR.out.mrk.to (q := fun x => decide (x ∈ ys) && !decide (x ∈ xs.take 0)) (fun x => by rw [hkl, List.take_length]; simp))
      go_loopw [30] (fun _ wr => ∃ k n c2 D, Aside0 (NP2 lo w wr b xs ys la Ba ba lb Bb bb mb k n c2 D)) (fun _ wr => xs.length + 2 - posI wr ba)
      case atStart => exact ⟨0, n, c2, D, ⟨⟨HQ3.out, HM3.out, HMK.out, by omega, Nat.zero_le _⟩⟩⟩
      case round =>
        clear HR HQ HM2 HQ3 HM3 HMK hp hj hkl hnk hkk
        obtain ⟨k, n, c2, D, HR⟩ := hrel
        have hnk := HR.out.n
        have hkk := HR.out.k
        have hp := HR.out.p.ia.pos
        obtain ⟨h0, h1, h2, h3, h4, h5, hf, hb⟩ := HR.out.p.cells
        by_cases hj : k < xs.length
        · have hwk : (Lit.int .i64 xs[k]).wf = true := HWX.out _ (List.getElem_mem _)
          have hkey : keyOf Tryz.prog 2 (.int .i64 xs[k]) = some (.int .i64 xs[k]) := keyOf_int_mk Tryz.underlying2 hwk
          go_wp2_with (first
            | (go_at_call 357; refine (next_any la Ba ba k xs _ HR.out.p.ia (by omega)).mono ?_; rintro e w2 ⟨rfl, hia, hmid⟩; rw [if_pos hj] at hia; rw [decide_eq_true hj]; have HQ := Aside0.mk (HR.out.p.nextA hia hmid); have HM2 := Aside0.mk (HR.out.bel.trans (HQ.out.belA hmid HR.out.p.ia.lt)); obtain ⟨h0, h1, h2, h3, h4, h5, hf, hb⟩ := HQ.out.cells; clear hia hmid hf))
          obtain ⟨c, hl1, hl2⟩ := HQ.out.map.lookOk hwk
          have hlk : ∀ q, (Instr.lookup 365 (.map (some mb)) (.int .i64 xs[k]) true).run Tryz.prog (w2.drewN q) = .ok (.tuple #[.bool c, .bool (Maps.has D (.int .i64 xs[k]))]) (w2.drewN q) := fun q => by
            obtain ⟨c', h1, h2⟩ := (HQ.out.map.stay (w1 := w2.drewN q) rfl).lookOk hwk
            rw [hl2] at h2
            injection h2 with h2
            injection h2 with h2
            subst h2
            exact h1
          clear hl1 hl2
          generalize Maps.has D (.int .i64 xs[k]) = d at hlk
          cases d
          · go_quiet (first
              | (go_at_call 358; refine Calls.quiet_of (nodeI_q la Ba ba k xs _ ?_ hj (by omega)); exact HQ.out.ia.far fun _ _ _ => rfl)
              | (go_at_call 290; exact Calls.quiet_of (nodeID_q _ _)))
            have HQ6 := Aside0.mk (HQ.out.same (w1 := w2.drewN nq) rfl)
            obtain ⟨h0, h1, h2, h3, h4, h5, hf, hb⟩ := HQ6.out.cells
            have hf4 := hf 4
            clear hf hlk
            go_wp2_with fail
            obtain ⟨w6, hw6⟩ : ∃ w6, w6 = (w2.drewN nq).setCell ⟨b, 4, none⟩ (.int .i64 (wrap64 (c2 + 1))) := ⟨_, rfl⟩
            have HQ7 := Aside0.mk (show PIn _ w6 _ _ _ _ _ _ _ _ _ _ _ _ _ _ _ _ _ from hw6 ▸ HQ6.out.set4 (wrap64 (c2 + 1)))
            have HM7 := Aside0.mk (show Below lo w w6 from hw6 ▸ (HM2.out.trans (Below.drewN' lo w2 nq)).trans (Below.set _ _ _ HQ6.out.lolt))
            rw [← hw6]
            clear HQ HQ6 HM2 hw6
            obtain ⟨h0, h1, h2, h3, h4, h5, hf, hb⟩ := HQ7.out.cells
            clear hf
            refine start_ (n := 7) (S := fun w' => w'.cell? ⟨b, 5, none⟩ = some (.map (some mb)) ∧ w'.cell? ⟨b, 0, none⟩ = some (.iface 354 (.pointer (some ⟨ba, 0, none⟩)))) (ds := [6]) #[false, false, false, false, false, false, false] (by kernel_rfl) rfl rfl ⟨h5, h0⟩ (fun hHeld => ?_)
            refine with_tabW np.tab10 np.bits10 (fun HT_ HW_ => ?_)
            refine pure_ (i := 0) (N := some 47) (v := ?_) (a' := ?_) #[true, false, false, false, false, false, false] rfl rfl (any_of HT_.out (by kernel_rfl)) (fun _ _ _ h => h) (Or.inl ⟨by rfl, ?_⟩) ?_ ?_
            rotate_left
            · intro w'
              go_simp
              with_reducible rfl
            rotate_left
            · simp only [Act.put, List.setIfInBounds_toArray, List.set_cons_zero, List.set_cons_succ, i64_w, i32_w]
              rfl
            refine pure_ (i := 2) (N := some 49) (v := ?_) (a' := ?_) #[true, false, true, false, false, false, false] rfl rfl (any_of HT_.out (by kernel_rfl)) (fun _ _ _ h => h) (Or.inl ⟨by rfl, ?_⟩) ?_ ?_
            rotate_left
            · intro w'
              go_simp
              with_reducible rfl
            rotate_left
            · simp only [Act.put, List.setIfInBounds_toArray, List.set_cons_zero, List.set_cons_succ, i64_w, i32_w]
              rfl
            refine take_ (i := 1) (N := some 48) (v := ?_) (a' := ?_) #[true, true, true, false, false, false, false] rfl rfl (take_ofW HT_.out HW_.out (by kernel_rfl)) (fun _ _ _ h => h) (Or.inl ⟨by rfl, ?_⟩) hHeld ?_ ?_
            rotate_left
            · rintro w' ⟨s0, s1⟩
              go_simp
              with_reducible rfl
            rotate_left
            · simp only [Act.put, List.setIfInBounds_toArray, List.set_cons_zero, List.set_cons_succ, i64_w, i32_w]
              rfl
            refine take_ (i := 3) (N := some 50) (v := ?_) (a' := ?_) #[true, true, true, true, false, false, false] rfl rfl (take_ofW HT_.out HW_.out (by kernel_rfl)) (fun _ _ _ h => h) (Or.inl ⟨by rfl, ?_⟩) hHeld ?_ ?_
            rotate_left
            · rintro w' ⟨s0, s1⟩
              go_simp
              with_reducible rfl
            rotate_left
            · simp only [Act.put, List.setIfInBounds_toArray, List.set_cons_zero, List.set_cons_succ, i64_w, i32_w]
              rfl
            refine one_ (i := 4) (N := some 51) #[true, true, true, true, true, false, false] rfl rfl (one_of HT_.out (by kernel_rfl)) (by decide) (fun K hK => ?_)
            refine call_ 358 #[.pointer (some ⟨ba, 0, none⟩)] (by rfl) rfl ?_ ((nodeI_q la Ba ba k xs _ HQ7.out.ia.drew hj (by omega)).mono ?_)
            · go_simp
            rintro e w3 ⟨rfl, nq, rfl⟩
            refine ⟨_, rfl, ?_⟩
            refine hK.out _ _ hHeld (fun hHeld => ?_)
            clear hK K
            refine norm_ (a' := ?_) ?_ ?_
            rotate_left
            · show Act.put _ (some 51) _ = _
              simp only [Act.put, List.setIfInBounds_toArray, List.set_cons_zero, List.set_cons_succ, i64_w, i32_w]
              rfl
            refine one_ (i := 5) (N := some 52) #[true, true, true, true, true, true, false] rfl rfl (one_of HT_.out (by kernel_rfl)) (by decide) (fun K hK => ?_)
            refine call_ 290 #[.int .i64 xs[k]] (by rfl) rfl ?_ ((nodeID_any _ _).mono ?_)
            · go_simp
            rintro e w4 ⟨rfl, rfl⟩
            refine ⟨_, rfl, ?_⟩
            refine hK.out _ _ hHeld (fun hHeld => ?_)
            clear hK K
            refine norm_ (a' := ?_) ?_ ?_
            rotate_left
            · show Act.put _ (some 52) _ = _
              simp only [Act.put, List.setIfInBounds_toArray, List.set_cons_zero, List.set_cons_succ, i64_w, i32_w]
              rfl
            refine last_ (i := 6) (N := none) #[true, true, true, true, true, true, true] rfl rfl (one_of HT_.out (by kernel_rfl)) (by decide) (fun K hK => ?_)
            refine step_mapUpdate_own (by rfl) (by rfl) _ _ _ 365 (by rfl) 2 4 law2 Tryz.underlying365 (plainElem Tryz.prog 4) mb n D (by rfl) (HQ7.out.map.stay rfl) (by unfold maxLen; omega) (.int .i64 xs[k]) (.bool false) (.int .i64 xs[k]) (by rfl) (by rfl) hkey (.lit (.bool false)) [] (plainElem_bool Tryz.underlying4 false) ?_
            intro w5 hown5 hgr5
            have HQ75 := Aside0.mk ((HQ7.out.same (w1 := World.drewN (World.drew w6) nq) rfl).put hown5 hgr5)
            have HG5 := Aside0.mk hgr5
            clear hown5 hgr5
            refine hK.out _ _ ?_
            clear hK K
            refine done_ (done_of HT_.out (by kernel_rfl)) ?_
            try go_wp2
            go_roundw
            case rel => exact ⟨k + 1, n + 1, _, _, ⟨⟨HQ75.out, ((HM7.out.trans (Below.drewN' lo w6 1)).trans (Below.drewN' lo _ nq)).trans (Below.of_map HG5.out HQ7.out.lomb HQ7.out.map.lt), (HR.out.mrk.put HQ7.out.map.isMap xs[k] false).to (fun x => by rw [take_mem_step hj x]; by_cases h : x = xs[k] <;> simp [h]), by omega, by omega⟩⟩⟩
            case measure => rw [hp, HQ75.out.ia.pos]; omega
          · go_quiet (first
              | (go_at_call 358; refine Calls.quiet_of (nodeI_q la Ba ba k xs _ ?_ hj (by omega)); exact HQ.out.ia.far fun _ _ _ => rfl)
              | (go_at_call 290; exact Calls.quiet_of (nodeID_q _ _)))
            go_wp2_with fail
            obtain ⟨w6, hw6⟩ : ∃ w6, w6 = w2.drewN nq := ⟨_, rfl⟩
            have HQ7 := Aside0.mk (show PIn _ w6 _ _ _ _ _ _ _ _ _ _ _ _ _ _ _ _ _ from hw6 ▸ HQ.out.same (w1 := w2.drewN nq) rfl)
            have HM7 := Aside0.mk (show Below lo w w6 from hw6 ▸ HM2.out.trans (Below.drewN' lo w2 nq))
            rw [← hw6]
            clear HQ HM2 hw6 hlk
            obtain ⟨h0, h1, h2, h3, h4, h5, hf, hb⟩ := HQ7.out.cells
            clear hf
            refine start_ (n := 7) (S := fun w' => w'.cell? ⟨b, 5, none⟩ = some (.map (some mb)) ∧ w'.cell? ⟨b, 0, none⟩ = some (.iface 354 (.pointer (some ⟨ba, 0, none⟩)))) (ds := [6]) #[false, false, false, false, false, false, false] (by kernel_rfl) rfl rfl ⟨h5, h0⟩ (fun hHeld => ?_)
            refine with_tabW np.tab10 np.bits10 (fun HT_ HW_ => ?_)
            refine pure_ (i := 0) (N := some 47) (v := ?_) (a' := ?_) #[true, false, false, false, false, false, false] rfl rfl (any_of HT_.out (by kernel_rfl)) (fun _ _ _ h => h) (Or.inl ⟨by rfl, ?_⟩) ?_ ?_
            rotate_left
            · intro w'
              go_simp
              with_reducible rfl
            rotate_left
            · simp only [Act.put, List.setIfInBounds_toArray, List.set_cons_zero, List.set_cons_succ, i64_w, i32_w]
              rfl
            refine pure_ (i := 2) (N := some 49) (v := ?_) (a' := ?_) #[true, false, true, false, false, false, false] rfl rfl (any_of HT_.out (by kernel_rfl)) (fun _ _ _ h => h) (Or.inl ⟨by rfl, ?_⟩) ?_ ?_
            rotate_left
            · intro w'
              go_simp
              with_reducible rfl
            rotate_left
            · simp only [Act.put, List.setIfInBounds_toArray, List.set_cons_zero, List.set_cons_succ, i64_w, i32_w]
              rfl
            refine take_ (i := 1) (N := some 48) (v := ?_) (a' := ?_) #[true, true, true, false, false, false, false] rfl rfl (take_ofW HT_.out HW_.out (by kernel_rfl)) (fun _ _ _ h => h) (Or.inl ⟨by rfl, ?_⟩) hHeld ?_ ?_
            rotate_left
            · rintro w' ⟨s0, s1⟩
              go_simp
              with_reducible rfl
            rotate_left
            · simp only [Act.put, List.setIfInBounds_toArray, List.set_cons_zero, List.set_cons_succ, i64_w, i32_w]
              rfl
            refine take_ (i := 3) (N := some 50) (v := ?_) (a' := ?_) #[true, true, true, true, false, false, false] rfl rfl (take_ofW HT_.out HW_.out (by kernel_rfl)) (fun _ _ _ h => h) (Or.inl ⟨by rfl, ?_⟩) hHeld ?_ ?_
            rotate_left
            · rintro w' ⟨s0, s1⟩
              go_simp
              with_reducible rfl
            rotate_left
            · simp only [Act.put, List.setIfInBounds_toArray, List.set_cons_zero, List.set_cons_succ, i64_w, i32_w]
              rfl
            refine one_ (i := 4) (N := some 51) #[true, true, true, true, true, false, false] rfl rfl (one_of HT_.out (by kernel_rfl)) (by decide) (fun K hK => ?_)
            refine call_ 358 #[.pointer (some ⟨ba, 0, none⟩)] (by rfl) rfl ?_ ((nodeI_q la Ba ba k xs _ HQ7.out.ia.drew hj (by omega)).mono ?_)
            · go_simp
            rintro e w3 ⟨rfl, nq, rfl⟩
            refine ⟨_, rfl, ?_⟩
            refine hK.out _ _ hHeld (fun hHeld => ?_)
            clear hK K
            refine norm_ (a' := ?_) ?_ ?_
            rotate_left
            · show Act.put _ (some 51) _ = _
              simp only [Act.put, List.setIfInBounds_toArray, List.set_cons_zero, List.set_cons_succ, i64_w, i32_w]
              rfl
            refine one_ (i := 5) (N := some 52) #[true, true, true, true, true, true, false] rfl rfl (one_of HT_.out (by kernel_rfl)) (by decide) (fun K hK => ?_)
            refine call_ 290 #[.int .i64 xs[k]] (by rfl) rfl ?_ ((nodeID_any _ _).mono ?_)
            · go_simp
            rintro e w4 ⟨rfl, rfl⟩
            refine ⟨_, rfl, ?_⟩
            refine hK.out _ _ hHeld (fun hHeld => ?_)
            clear hK K
            refine norm_ (a' := ?_) ?_ ?_
            rotate_left
            · show Act.put _ (some 52) _ = _
              simp only [Act.put, List.setIfInBounds_toArray, List.set_cons_zero, List.set_cons_succ, i64_w, i32_w]
              rfl
            refine last_ (i := 6) (N := none) #[true, true, true, true, true, true, true] rfl rfl (one_of HT_.out (by kernel_rfl)) (by decide) (fun K hK => ?_)
            refine step_mapUpdate_own (by rfl) (by rfl) _ _ _ 365 (by rfl) 2 4 law2 Tryz.underlying365 (plainElem Tryz.prog 4) mb n D (by rfl) (HQ7.out.map.stay rfl) (by unfold maxLen; omega) (.int .i64 xs[k]) (.bool false) (.int .i64 xs[k]) (by rfl) (by rfl) hkey (.lit (.bool false)) [] (plainElem_bool Tryz.underlying4 false) ?_
            intro w5 hown5 hgr5
            have HQ75 := Aside0.mk ((HQ7.out.same (w1 := World.drewN (World.drew w6) nq) rfl).put hown5 hgr5)
            have HG5 := Aside0.mk hgr5
            clear hown5 hgr5
            refine hK.out _ _ ?_
            clear hK K
            refine done_ (done_of HT_.out (by kernel_rfl)) ?_
            try go_wp2
            go_roundw
            case rel => exact ⟨k + 1, n + 1, _, _, ⟨⟨HQ75.out, ((HM7.out.trans (Below.drewN' lo w6 1)).trans (Below.drewN' lo _ nq)).trans (Below.of_map HG5.out HQ7.out.lomb HQ7.out.map.lt), (HR.out.mrk.put HQ7.out.map.isMap xs[k] false).to (fun x => by rw [take_mem_step hj x]; by_cases h : x = xs[k] <;> simp [h]), by omega, by omega⟩⟩⟩
            case measure => rw [hp, HQ75.out.ia.pos]; omega
        · go_wp2_with (first
            | (go_at_call 357; refine (next_any la Ba ba k xs _ HR.out.p.ia (by omega)).mono ?_; rintro e w2 ⟨rfl, hia, hmid⟩; rw [if_neg hj] at hia; rw [decide_eq_false hj]; have HQ := Aside0.mk (HR.out.p.nextA hia hmid); have HM2 := Aside0.mk (HR.out.bel.trans (HQ.out.belA hmid HR.out.p.ia.lt)); obtain ⟨h0, h1, h2, h3, h4, h5, hf, hb⟩ := HQ.out.cells; clear hia hmid hf)
            | (go_at_call 360; refine (reset_any la Ba ba (xs.length + 1) xs _ HQ.out.ia).mono ?_; rintro e w3 ⟨rfl, hia, hmid⟩; have HQ3 := Aside0.mk (HQ.out.nextA hia hmid); have HM3 := Aside0.mk (HM2.out.trans (HQ.out.belA hmid HQ.out.ia.lt)); clear hia hmid))
          go_ret
          have hkl : k = xs.length := by omega
          exact ⟨b, rfl, ⟨⟨0, 0, _, _, _, _, _, _, _, _, _, _, _, HQ3.out, HR.out.mrk.to (fun x => by rw [hkl, List.take_length]; rfl), (rest_zero xs ys).symm, HQ3.out.lt⟩⟩, HM3.out⟩
end Go.Proofs.YtfkmpnpliadohaaGreat.R

set_option linter.unusedVariables false
set_option linter.unusedSimpArgs false
/- impl.number; impl.iterated over both kinds of iterators. -/
namespace Go.Proofs.YtfkmpnpliadohaaGreat.R
open Go.RowKit Go.Lab Go.Maps Go.Proofs.YtfkmpnpliadohaaGreatW.PrintWords Go.Proofs.YtfkmpnpliadohaaGreatW.PrintLast Go.Proofs.YtfkmpnpliadohaaGreatW.PrintMore PL

theorem PIt.far {lo B : Nat} {w w1 : World} {b : Nat} {xs ys r : List Int} {cur : Value} (h : PIt lo B w b xs ys r cur) (hk : ∀ q, q < B → w1.heap[q]? = w.heap[q]?) : PIt lo B w1 b xs ys r cur := by
  obtain ⟨i, j, la, Ba, ba, lb, Bb, bb, mb, n, c1, c2, D, hP, hM, hr, hB⟩ := h.ex
  have h1 := hP.mlt
  have h2 := hP.ma
  have h3 := hP.mb'
  exact ⟨⟨i, j, la, Ba, ba, lb, Bb, bb, mb, n, c1, c2, D, ⟨(hk b hB).trans hP.blk, hP.ia.far fun q _ h => hk q (by omega), hP.ib.far fun q _ h => hk q (by omega), hP.ap, hP.ha, hP.hb, hP.ma, hP.mb', hP.mlt, hP.map.stay (hk mb (by omega))⟩, hM, hr, hB⟩⟩
theorem PIt.lo {lo B : Nat} {w : World} {b : Nat} {xs ys r : List Int} {cur : Value} (h : PIt lo B w b xs ys r cur) : lo ≤ w.heap.size := by
  obtain ⟨i, j, la, Ba, ba, lb, Bb, bb, mb, n, c1, c2, D, hP, hM, hr, hB⟩ := h.ex
  have := hP.lolt; have := hP.lt; omega

def lenS : Value → Nat | .slice _ n _ => n | _ => 0

set_option maxHeartbeats 400000 in
theorem number_any (n : Int) (w : World) :
    Calls Tryz.prog 66 #[.iface 118 (.int .i64 n)] w fun e w' => e = .returned (.int .i64 n) ∧ w = w' := by
  have m1 := meth_ID n
  go_enter Tryz.func66, Tryz.ntmps66
  go_wp2_with (go_at_call 290; refine (nodeID_any _ _).mono ?_; rintro e w' ⟨rfl, rfl⟩)
  go_ret
  exact ⟨rfl, rfl⟩

theorem nums_step {r : List Int} {k : Nat} (hk : k < r.length) : nums .i64 (r.take (k + 1)) = nums .i64 (r.take k) ++ [.int .i64 r[k]] := by
  rw [List.take_succ_eq_append_getElem hk]; unfold nums; rw [List.map_append]; rfl

theorem nextP_cons (lo B b : Nat) (xs ys r : List Int) (z : Int) (cur : Value) (w : World) (h : PIt lo B w b xs ys (z :: r) cur) (hx : xs.length ≤ 1000) (hy : ys.length ≤ 1000) (hwf : ∀ y ∈ ys, (Lit.int .i64 y).wf = true) :
    Calls Tryz.prog 362 #[.pointer (some ⟨b, 0, none⟩)] w fun e w' => e = .returned (.bool true) ∧ Mid lo B w w' ∧ PIt lo B w' b xs ys r (nodeV z) := by
  refine (nextP_any lo B b xs ys (z :: r) cur w h hx hy hwf).mono ?_
  rintro e w' ⟨rfl, hm, cur', hp, hc⟩
  have := hc z rfl
  subst this
  exact ⟨rfl, hm, hp⟩
theorem nextP_nil (lo B b : Nat) (xs ys : List Int) (cur : Value) (w : World) (h : PIt lo B w b xs ys [] cur) (hx : xs.length ≤ 1000) (hy : ys.length ≤ 1000) (hwf : ∀ y ∈ ys, (Lit.int .i64 y).wf = true) :
    Calls Tryz.prog 362 #[.pointer (some ⟨b, 0, none⟩)] w fun e w' => e = .returned (.bool false) ∧ Mid lo B w w' := by
  refine (nextP_any lo B b xs ys [] cur w h hx hy hwf).mono ?_
  rintro e w' ⟨rfl, hm, cur', hp, hc⟩
  exact ⟨rfl, hm⟩

set_option maxHeartbeats 8000000 in
set_option maxRecDepth 100000 in
theorem iteratedP_any (lo b : Nat) (xs ys r : List Int) (cur : Value) (w : World) (h : PIt lo w.heap.size w b xs ys r cur) (hx : xs.length ≤ 1000) (hy : ys.length ≤ 1000) (hwf : ∀ y ∈ ys, (Lit.int .i64 y).wf = true) (hr : r.length ≤ 2000) :
    Calls Tryz.prog 104 #[.iface 359 (.pointer (some ⟨b, 0, none⟩))] w fun e w' => ∃ v, e = .returned v ∧ w'.ownsRow w.heap.size 3 1 v r.length (nums .i64 (srt r)) ∧ Below lo w w' := by
  have HP := Aside0.mk h
  have HWF := Aside0.mk hwf
  have hlo := h.lo
  have m1 := meth_PNext ⟨b, 0, none⟩
  have m2 := meth_PNode ⟨b, 0, none⟩
  obtain ⟨i0, hi, hz0, hz1, hz2⟩ := info_parts Q.Tryz.info3
  have HI := Aside0.mk (And.intro hi (And.intro hz0 (And.intro hz1 hz2)))
  clear h hwf hi hz0 hz1 hz2
  go_enter Tryz.func104, Tryz.ntmps104
  go_wp2
  go_loopw [3] (fun v wr => ∃ A c k cur', v = .slice A k c ∧ Aside0 (k ≤ r.length ∧ wr.ownsRow w.heap.size 3 1 (.slice A k c) k (nums .i64 (r.take k)) ∧ PIt lo w.heap.size wr b xs ys (r.drop k) cur' ∧ Below lo w wr) ∧ w.heap.size ≤ wr.heap.size) (fun v _ => r.length + 1 - lenS v)
  case atStart => exact ⟨none, 0, 0, cur, rfl, ⟨Nat.zero_le _, World.ownsRow_nil _ _ _ _, HP.out, Below.refl _ _⟩, Nat.le_refl _⟩
  case round =>
    obtain ⟨A, c, k, cur', rfl, HR, hbw⟩ := hrel
    clear HP
    have hk := HR.out.1
    by_cases hlt : k < r.length
    · have HC := Aside0.mk (show PIt lo w.heap.size wr b xs ys (r[k] :: r.drop (k + 1)) cur' from List.drop_eq_getElem_cons hlt ▸ HR.out.2.2.1)
      have HTS := Aside0.mk (nums_step hlt)
      generalize r[k] = z at HC HTS
      go_wp2_with (first
        | (go_at_call 362; refine (nextP_cons lo w.heap.size b xs ys (r.drop (k + 1)) z cur' _ HC.out hx hy HWF.out).mono ?_; rintro e w2 ⟨rfl, hmid, hp⟩; have HQ := Aside0.mk hp; have HO := Aside0.mk (hmid.own HR.out.2.1 (fun q hq => .inr (own_base HR.out.2.1 q hq))); have HB := Aside0.mk (HR.out.2.2.2.trans (hmid.below (Nat.le_trans hlo hbw))); have hs2 := Nat.le_trans hbw hmid.size; clear hmid hp)
        | (go_at_call 363; refine (nodeP_any lo w.heap.size b xs ys (r.drop (k + 1)) (nodeV z) _ HQ.out).mono ?_; rintro e w3 ⟨rfl, rfl⟩; unfold nodeV)
        | (go_at_call 66; refine (number_any _ _).mono ?_; rintro e w3 ⟨rfl, rfl⟩)
        | (at_builtin; refine wpList_append_own _ rfl _ _ 22 rfl w.heap.size 3 i0 (.int .i64 0) 1 8 Tryz.underlying22 HI.out.1 HI.out.2.1 HI.out.2.2.1 HI.out.2.2.2 rfl (by decide) _ k (nums .i64 (r.take k)) rfl (World.ownsRow.alloc HO.out _) ⟨_, 0, none⟩ 1 1 [.int .i64 z] rfl rfl (cell_one_new _ _ _) ?q2 ?q3 ?q4 ?q5 ?_))
      case q2 => intro u hu; simp at hu; subst hu; rfl
      case q3 => unfold maxLen; omega
      case q4 => omega
      case q5 => simp; omega
      intro v' w4 hown hgr _
      obtain ⟨A', c', rfl⟩ := own_slice hown
      have HO4 := Aside0.mk hown
      have hgg := (World.grownBy_alloc _ _ _).trans hgr
      have HP4 := Aside0.mk (HQ.out.far fun q hq => hgg.block q (Nat.lt_of_lt_of_le hq hs2) (fun e => by have := own_base HO.out q e.symm; omega))
      have HB4 := Aside0.mk (HB.out.grown hgg (Nat.le_trans hlo hs2) (fun q hq => Nat.le_trans hlo (own_base HO.out q hq)))
      have hs4 := Nat.le_trans hs2 hgg.size
      clear hown hgr hgg
      go_wp2
      go_roundw
      case rel => exact ⟨A', c', k + 1, nodeV z, rfl, ⟨hlt, by rw [HTS.out]; exact HO4.out, HP4.out, HB4.out⟩, hs4⟩
      case measure => simp [lenS]; omega
    · obtain rfl : k = r.length := by omega
      have HN := Aside0.mk (show PIt lo w.heap.size wr b xs ys [] cur' from List.drop_eq_nil_of_le (Nat.le_refl r.length) ▸ HR.out.2.2.1)
      have HO1 := Aside0.mk (show wr.ownsRow w.heap.size 3 1 (.slice A r.length c) r.length (nums .i64 r) by have := HR.out.2.1; rw [List.take_length] at this; exact this)
      go_wp2_with (first
        | (go_at_call 362; refine (nextP_nil lo w.heap.size b xs ys cur' _ HN.out hx hy HWF.out).mono ?_; rintro e w2 ⟨rfl, hmid⟩; have HO := Aside0.mk (hmid.own HO1.out (fun q hq => .inr (own_base HO1.out q hq))); have HB := Aside0.mk (HR.out.2.2.2.trans (hmid.below (Nat.le_trans hlo hbw))); have hs2 := Nat.le_trans hbw hmid.size; clear hmid)
        | (go_at_call 143; refine (Q.sort_own w.heap.size _ r _ HO.out (by omega)).mono ?_; rintro e w3 ⟨rfl, hown, hgr⟩; have HO3 := Aside0.mk hown; have HB3 := Aside0.mk (HB.out.grown hgr (Nat.le_trans hlo hs2) (fun q hq => Nat.le_trans hlo (own_base HO.out q hq))); clear hown hgr))
      go_ret
      exact ⟨_, rfl, HO3.out, HB3.out⟩
theorem World.grownBy_drewN (w : World) (n : Nat) (row : Option Nat) : w.grownBy (w.drewN n) row := ⟨rfl, rfl, rfl, Nat.le_refl _, fun _ _ _ => rfl⟩

set_option maxHeartbeats 8000000 in
set_option maxRecDepth 100000 in
theorem iteratedO_any (lo b : Nat) (r : List Int) (w : World) (h : OIt lo w.heap.size w b r 0) (hr : r.length ≤ 2000) :
    Calls Tryz.prog 104 #[.iface 354 (.pointer (some ⟨b, 0, none⟩))] w fun e w' => ∃ v, e = .returned v ∧ w'.ownsRow w.heap.size 3 1 v r.length (nums .i64 (srt r)) ∧ Below lo w w' := by
  have HP := Aside0.mk h
  have hlo := Nat.le_trans h.hb.1 (Nat.le_of_lt h.hb.2)
  have m1 := meth_ONext ⟨b, 0, none⟩
  have m2 := meth_ONode ⟨b, 0, none⟩
  obtain ⟨i0, hi, hz0, hz1, hz2⟩ := info_parts Q.Tryz.info3
  have HI := Aside0.mk (And.intro hi (And.intro hz0 (And.intro hz1 hz2)))
  clear h hi hz0 hz1 hz2
  go_enter Tryz.func104, Tryz.ntmps104
  go_wp2
  go_loopw [3] (fun v wr => ∃ A c k, v = .slice A k c ∧ Aside0 (k ≤ r.length ∧ wr.ownsRow w.heap.size 3 1 (.slice A k c) k (nums .i64 (r.take k)) ∧ OIt lo w.heap.size wr b r k ∧ Below lo w wr) ∧ w.heap.size ≤ wr.heap.size) (fun v _ => r.length + 1 - lenS v)
  case atStart => exact ⟨none, 0, 0, rfl, ⟨Nat.zero_le _, World.ownsRow_nil _ _ _ _, HP.out, Below.refl _ _⟩, Nat.le_refl _⟩
  case round =>
    obtain ⟨A, c, k, rfl, HR, hbw⟩ := hrel
    clear HP
    have hk := HR.out.1
    by_cases hlt : k < r.length
    · have HC := Aside0.mk (fun (B : Nat) (w : World) (h : OIt lo B w b r (k + 1)) => nodeI_any lo B b k r w h hlt (by omega))
      have HTS := Aside0.mk (nums_step hlt)
      generalize r[k] = z at HC HTS
      go_wp2_with (first
        | (go_at_call 357; refine (next_any lo w.heap.size b k r _ HR.out.2.2.1 (by omega)).mono ?_; rintro e w2 ⟨rfl, hp, hmid⟩; rw [if_pos hlt] at hp; rw [decide_eq_true hlt]; have HQ := Aside0.mk hp; have HO := Aside0.mk (hmid.own HR.out.2.1 (fun q hq => .inr (own_base HR.out.2.1 q hq))); have HB := Aside0.mk (HR.out.2.2.2.trans (hmid.below (Nat.le_trans hlo hbw))); have hs2 := Nat.le_trans hbw hmid.size; clear hmid hp)
        | (go_at_call 358; refine (HC.out _ _ HQ.out).mono ?_; rintro e w3 ⟨rfl, ⟨⟨nq, rfl⟩⟩⟩; unfold nodeV)
        | (go_at_call 66; refine (number_any _ _).mono ?_; rintro e w3 ⟨rfl, rfl⟩)
        | (at_builtin; refine wpList_append_own _ rfl _ _ 22 rfl w.heap.size 3 i0 (.int .i64 0) 1 8 Tryz.underlying22 HI.out.1 HI.out.2.1 HI.out.2.2.1 HI.out.2.2.2 rfl (by decide) _ k (nums .i64 (r.take k)) rfl (World.ownsRow.alloc (show (World.drewN _ _).ownsRow _ _ _ _ _ _ from HO.out) _) ⟨_, 0, none⟩ 1 1 [.int .i64 z] rfl rfl (cell_one_new _ _ _) ?q2 ?q3 ?q4 ?q5 ?_))
      case q2 => intro u hu; simp at hu; subst hu; rfl
      case q3 => unfold maxLen; omega
      case q4 => omega
      case q5 => simp; omega
      intro v' w4 hown hgr _
      obtain ⟨A', c', rfl⟩ := own_slice hown
      have HO4 := Aside0.mk hown
      have hgg := ((World.grownBy_drewN w2 nq _).trans (World.grownBy_alloc _ _ _)).trans hgr
      have HP4 := Aside0.mk (HQ.out.far fun q _ hq => hgg.block q (Nat.lt_of_lt_of_le hq hs2) (fun e => by have := own_base HO.out q e.symm; omega))
      have HB4 := Aside0.mk (HB.out.grown hgg (Nat.le_trans hlo hs2) (fun q hq => Nat.le_trans hlo (own_base HO.out q hq)))
      have hs4 := Nat.le_trans hs2 hgg.size
      clear hown hgr hgg
      go_wp2
      go_roundw
      case rel => exact ⟨A', c', k + 1, rfl, ⟨hlt, by rw [HTS.out]; exact HO4.out, HP4.out, HB4.out⟩, hs4⟩
      case measure => simp [lenS]; omega
    · obtain rfl : k = r.length := by omega
      have HO1 := Aside0.mk (show wr.ownsRow w.heap.size 3 1 (.slice A r.length c) r.length (nums .i64 r) by have := HR.out.2.1; rw [List.take_length] at this; exact this)
      go_wp2_with (first
        | (go_at_call 357; refine (next_any lo w.heap.size b r.length r _ HR.out.2.2.1 (by omega)).mono ?_; rintro e w2 ⟨rfl, hp, hmid⟩; rw [decide_eq_false hlt]; have HO := Aside0.mk (hmid.own HO1.out (fun q hq => .inr (own_base HO1.out q hq))); have HB := Aside0.mk (HR.out.2.2.2.trans (hmid.below (Nat.le_trans hlo hbw))); have hs2 := Nat.le_trans hbw hmid.size; clear hmid hp)
        | (go_at_call 143; refine (Q.sort_own w.heap.size _ r _ HO.out (by omega)).mono ?_; rintro e w3 ⟨rfl, hown, hgr⟩; have HO3 := Aside0.mk hown; have HB3 := Aside0.mk (HB.out.grown hgr (Nat.le_trans hlo hs2) (fun q hq => Nat.le_trans hlo (own_base HO.out q hq))); clear hown hgr))
      go_ret
      exact ⟨_, rfl, HO3.out, HB3.out⟩
end Go.Proofs.YtfkmpnpliadohaaGreat.R
