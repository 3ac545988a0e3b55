import Derived.Test.YthkmblgehdofmaaGreatAG1
import Derived.OwnWalk
import Derived.Deep.RegionHeld3
import Derived.BigRegion
import Derived.Laws.MakeOwn
import Derived.WalkSpells
import Derived.WalkLawsBesides
import Derived.Lib.Hide
import Derived.Lib.SliceRun
import Derived.Test.YthkmblgehdofmaaGreatAG0
import Derived.Deep.CutRange
import Derived.Deep.OwnRows
import Derived.BigQuiet
import Derived.Deep.Cut
import Derived.Maps.OwnSet
import Derived.Maps.AppendAt
import Derived.Maps.Own
import Derived.Maps.OwnOps
import Derived.Maps.RangeWalk
import Derived.WalkKit
set_option linter.unusedVariables false
set_option linter.unusedSimpArgs false
/- impl.open and impl.from. -/
namespace Go.Proofs.YthkmblgehdofmaaGreat.R
open Go.RowKit Go.Lab Go.Proofs.YthkmblgehdofmaaGreatW.PrintWords Go.Proofs.YthkmblgehdofmaaGreatW.PrintLast Go.Proofs.YthkmblgehdofmaaGreatW.PrintMore PL

theorem IdsAt.below {w w1 : World} {base bp : Nat} (h : IdsAt w base bp) (hb : Below w.heap.size w w1) : IdsAt w1 base bp := by
  obtain ⟨vi, ids, hc, ho, hn⟩ := h
  refine ⟨vi, ids, ?_, pw_own_below ho hb, hn⟩
  rw [hb.cell (p := ⟨bp, 0, none⟩) (World.block_lt_of_cell? w ⟨bp, 0, none⟩ hc)]; exact hc

end Go.Proofs.YthkmblgehdofmaaGreat.R


/- The iterator over nodes in order. -/
namespace Go.Proofs.YthkmblgehdofmaaGreat.R
open Go.RowKit Go.Lab Go.Proofs.YthkmblgehdofmaaGreatW.PrintWords Go.Proofs.YthkmblgehdofmaaGreatW.PrintLast Go.Proofs.YthkmblgehdofmaaGreatW.PrintMore PL

theorem OIt.cells {lo B : Nat} {w : World} {b : Nat} {xs : List Int} {k : Nat} (h : OIt lo B w b xs k) : ∃ A c, w.cell? ⟨b, 0, none⟩ = some (.int .i64 ((k : Int) - 1)) ∧ w.cell? ⟨b, 1, none⟩ = some (.slice A xs.length c) ∧ w.frozen? ⟨b, 0, none⟩ = false ∧
    (∀ i (hi : i < xs.length), ∃ g, A = some ⟨g, 0, none⟩ ∧ w.cell? ⟨g, i, none⟩ = some (nodeV xs[i]) ∧ g < w.heap.size ∧ xs.length ≤ c) := by
  obtain ⟨v, h1, h2, h3⟩ := h.ex
  obtain ⟨A, c, rfl⟩ := own_slice h2
  refine ⟨A, c, by rw [blk_cell h1]; rfl, by rw [blk_cell h1]; rfl, blk_frozen h1 _, fun i hi => ?_⟩
  obtain ⟨g, c', e1, hvb, hgl⟩ := h2.form (by omega)
  injection e1 with e1 _ e3
  subst e1 e3
  refine ⟨g, rfl, ?_, hgl, own_le h2⟩
  have := h2.cells (g := g) rfl i (nodeV xs[i]) (by simp [nodeVs, hi])
  rw [add_plain] at this
  exact this

theorem Mid.drew (lo B : Nat) (w : World) : Mid lo B w w.drew := ⟨rfl, rfl, rfl, Nat.le_refl _, fun _ _ _ => rfl⟩
theorem OIt.drew {lo B : Nat} {w : World} {b : Nat} {xs : List Int} {k : Nat} (h : OIt lo B w b xs k) : OIt lo B w.drew b xs k := h.far fun _ _ _ => rfl

theorem OIt.to' {lo B : Nat} {w : World} {b : Nat} {xs : List Int} {k : Nat} (h : OIt lo B w b xs k) (k' : Nat) (hk : k' ≤ xs.length + 1) (v : Int) (hv : v = (k' : Int) - 1) : OIt lo B (w.setCell ⟨b, 0, none⟩ (.int .i64 v)) b xs k' := by
  subst hv; exact h.to k' hk

set_option maxHeartbeats 4000000 in
set_option maxRecDepth 100000 in
theorem next_any (lo B b k : Nat) (xs : List Int) (w : World) (h : OIt lo B w b xs k) (hl : xs.length ≤ 100000) :
    Calls Tryz.prog 197 #[.pointer (some ⟨b, 0, none⟩)] w fun e w' => e = .returned (.bool (decide (k < xs.length))) ∧ OIt lo B w' b xs (if k < xs.length then k + 1 else xs.length + 1) ∧ Mid lo B w w' := by
  have HO := Aside0.mk h
  obtain ⟨A, c, h0, h1, hf, hx⟩ := h.cells
  have hk := h.hk
  have hb := h.lt
  have hb2 := h.hb
  have hwr : IntKind.u64.wrap (IntKind.u64.wrap ((k : Int) - 1) + 1) = (k : Int) := by
    simp only [IntKind.wrap_u64]; omega
  clear h hx
  by_cases hlt : k < xs.length
  · rw [if_pos hlt]
    have hd : decide (k < xs.length) = true := by simpa using hlt
    have hdd : decide ((k : Int) < (xs.length : Int)) = true := by simpa using hlt
    rw [hd]
    have HE := Aside0.mk (HO.out.to' (k + 1) (by omega) (k : Int) (by omega)).drew
    go_enter Tryz.func197, Tryz.ntmps197
    go_wp2_with fail
    go_region
    all_goals
      go_wp2
      go_ret
      exact ⟨rfl, HE.out, (Mid.set _ _ _ hb2.1 hb2.2).trans (Mid.drew lo B _)⟩
  · rw [if_neg hlt]
    have hd : decide (k < xs.length) = false := by simpa using hlt
    have hdd : decide ((k : Int) < (xs.length : Int)) = false := by simpa using hlt
    rw [hd]
    have HE := Aside0.mk (HO.out.to' (xs.length + 1) (by omega) (xs.length : Int) (by omega)).drew
    go_enter Tryz.func197, Tryz.ntmps197
    go_wp2_with fail
    go_region
    all_goals
      go_wp2
      go_ret
      exact ⟨rfl, HE.out, (Mid.set _ _ _ hb2.1 hb2.2).trans (Mid.drew lo B _)⟩
end Go.Proofs.YthkmblgehdofmaaGreat.R


/- Node, Reset, NewOrderedNodes, and the iterator over all nodes of a plain graph. -/
namespace Go.Proofs.YthkmblgehdofmaaGreat.R
open Go.RowKit Go.Lab Go.Proofs.YthkmblgehdofmaaGreatW.PrintWords Go.Proofs.YthkmblgehdofmaaGreatW.PrintLast Go.Proofs.YthkmblgehdofmaaGreatW.PrintMore PL

set_option maxHeartbeats 4000000 in
set_option maxRecDepth 100000 in
theorem nodeI_any (lo B b k : Nat) (xs : List Int) (w : World) (h : OIt lo B w b xs (k + 1)) (hk : k < xs.length) (hl : xs.length ≤ 100000) :
    Calls Tryz.prog 198 #[.pointer (some ⟨b, 0, none⟩)] w fun e w' => e = .returned (nodeV xs[k]) ∧ Drawn0 w w' := by
  obtain ⟨A, c, h0, h1, hf, hx⟩ := h.cells
  obtain ⟨g, rfl, hg, hgl, hc⟩ := hx k hk
  have hb := h.lt
  rw [show (((k + 1 : Nat) : Int) - 1) = (k : Int) by omega] at h0
  clear h hx
  have hi1 : (0 : Int) ≤ (k : Int) := by omega
  have hi2 : (k : Int) < (xs.length : Int) := by omega
  have hd1 : decide ((xs.length : Int) ≤ (k : Int)) = false := by simp; omega
  have hd2 : decide ((k : Int) < 0) = false := by simp
  generalize xs[k] = x at hg
  go_enter Tryz.func198, Tryz.ntmps198
  go_wp2_with fail
  go_quiet (fail)
  go_wp2_with fail
  go_quiet (fail)
  go_wp2
  go_ret
  exact ⟨rfl, by repeat (first | exact Drawn0.refl _ | apply Drawn0.step)⟩

set_option maxHeartbeats 400000 in
theorem new_any (A : Option Addr) (n c : Nat) (w : World) :
    Calls Tryz.prog 159 #[.slice A n c] w fun e w' => e = .returned (.pointer (some ⟨w.heap.size, 0, none⟩)) ∧ w.alloc (.cells #[.int .i64 (-1), .slice A n c] 220) = w' := by
  go_enter Tryz.func159, Tryz.ntmps159
  go_wp2
  go_ret
  exact ⟨rfl, rfl⟩

/-- a row of nodes with a new iterator -/
theorem OIt.made {w wr : World} {v : Value} {xs : List Int} (ho : wr.ownsRow w.heap.size 89 1 v xs.length (nodeVs xs)) (hw : w.heap.size ≤ wr.heap.size) :
    OIt w.heap.size (wr.heap.size + 1) (wr.alloc (.cells #[.int .i64 (-1), v] 220)) wr.heap.size xs 0 :=
  ⟨⟨v, heap_alloc_new _ _, ho.alloc _, fun q hq => Nat.lt_succ_of_lt (ho.lt q hq).2⟩, ⟨hw, Nat.lt_succ_self _⟩, Nat.zero_le _⟩

theorem PlOk.idsC {w : World} {base bp : Nat} {p : Pl} (h : PlOk w base bp p) : ∃ A c, w.cell? ⟨bp, 0, none⟩ = some (.slice A p.ids.length c) ∧ Kd.C (Kd.int .i64) w A p.ids.length p.ids ∧ bp < w.heap.size := by
  obtain ⟨ro, ri, vi, vo, vn, hp⟩ := h
  obtain ⟨A, c, rfl, hr⟩ := own_reads hp.ids
  exact ⟨A, c, by rw [blk_cell hp.blk]; rfl, Kd.C_of_reads hr, blk_lt hp.blk⟩

theorem make_nodes (n : Nat) (hn : n ≤ 1000) (W : World) : (Instr.makeSlice 119 (.int .i64 0) (.int .i64 (n : Int))).run Tryz.prog W = .ok (.slice (some ⟨W.heap.size, 0, none⟩) 0 n) (W.alloc (.cells (madeCells #[.nilIface] n) 89)) := by
  obtain ⟨i0, hi, hz0, hz1, hz2⟩ := info_parts Tryz.info89
  have := run_make (P := Tryz.prog) W 119 89 i0 .nilIface Tryz.underlying119 hi hz0 .i64 .i64 0 n (by omega) (by omega) (by rw [hz2]; omega) (by omega)
  simpa [hz1, Value.cells] using this

set_option maxHeartbeats 2000000 in
set_option maxRecDepth 100000 in
theorem all_any (base bp : Nat) (p : Pl) (w : World) (h : PlOk w base bp p) (hn : p.ids.length ≤ 1000) :
    Calls Tryz.prog 157 #[.pointer (some ⟨bp, 0, none⟩)] w fun e w' => ∃ b, e = .returned (.iface 215 (.pointer (some ⟨b, 0, none⟩))) ∧ OIt w.heap.size w'.heap.size w' b p.ids 0 ∧ Below w.heap.size w w' := by
  obtain ⟨A, c, hcell, hC, hbl⟩ := h.idsC
  have HC := Aside0.mk hC
  obtain ⟨i0, hi, hz0, hz1, hz2⟩ := info_parts Tryz.info89
  have HI := Aside0.mk (And.intro hi (And.intro hz0 (And.intro hz1 hz2)))
  have hmk := make_nodes p.ids.length hn
  clear h hC hi hz0 hz1 hz2
  generalize p.ids = xs at *
  go_enter Tryz.func157, Tryz.ntmps157
  go_wp2
  go_loopw [3, 17] (fun v i wr => ∃ k : Nat, k ≤ xs.length ∧ i = .int .i64 k ∧ Aside0 (wr.ownsRow w.heap.size 89 1 v k (nodeVs (xs.take k)) ∧ Below w.heap.size w wr)) (fun _ i _ => xs.length - (intOf i).toNat)
  case atStart => exact ⟨0, Nat.zero_le _, rfl, ⟨World.ownsRow_made w _ xs.length (Nat.le_refl _) (by unfold maxLen; omega) (by rw [size_madeCells, Nat.mul_one]), (Below.refl _ _).alloc (Nat.le_refl _) _⟩⟩
  case round =>
    obtain ⟨k, hk, rfl, HR⟩ := hrel
    by_cases hlt : k < xs.length
    · have hbw := HR.out.2.size
      obtain ⟨ad, rfl, hc⟩ := C_int_at (Kd.C_below HC.out HR.out.2) k hlt
      have hts : nodeVs (xs.take (k + 1)) = nodeVs (xs.take k) ++ [nodeV (xs.getD k 0)] := by
        have hge : xs.getD k 0 = xs[k] := by simp [List.getD_eq_getElem?_getD, hlt]
        rw [hge, List.take_succ_eq_append_getElem hlt]; unfold nodeVs; rw [List.map_append]; rfl
      have HTS := Aside0.mk hts
      clear hts
      generalize xs.getD k 0 = x at hc HTS
      go_wp2_with (at_builtin; refine wpList_append_own _ rfl _ _ 119 rfl w.heap.size 89 i0 .nilIface 1 16 Tryz.underlying119 HI.out.1 HI.out.2.1 HI.out.2.2.1 HI.out.2.2.2 rfl (by decide) _ k (nodeVs (xs.take k)) rfl (World.ownsRow.alloc HR.out.1 _) ⟨wr.heap.size, 0, none⟩ 1 1 [nodeV x] rfl rfl (cell_one_new _ _ _) ?q2 ?q3 ?q4 ?q5 ?_)
      case q2 => intro u hu; simp at hu; subst hu; rfl
      case q3 => unfold maxLen; omega
      case q4 => omega
      case q5 => simp; omega
      intro v' w1 hown hgr _
      have HO := Aside0.mk hown
      have HGR := Aside0.mk hgr
      clear hown hgr
      go_wp2
      go_roundw
      case rel => exact ⟨k + 1, by omega, by go_num, ⟨by rw [HTS.out]; exact HO.out, (HR.out.2.alloc hbw _).grown HGR.out (by simp; omega) (fun q hq => own_base HR.out.1 q hq)⟩⟩
      case measure => simp [intOf]; omega
    · have hk' : k = xs.length := by omega
      have hts : xs.take k = xs := by rw [hk', List.take_length]
      have h1 := HR.out
      rw [hts, hk'] at h1
      obtain ⟨V, C, rfl⟩ := own_slice h1.1
      have H1 := Aside0.mk h1
      clear h1 hts HR
      go_wp2_with (go_at_call 159; refine (new_any _ _ _ _).mono ?_; rintro e w1 ⟨rfl, rfl⟩)
      go_ret
      exact ⟨wr.heap.size, rfl, by simpa using OIt.made H1.out.1 H1.out.2.size, H1.out.2.alloc H1.out.2.size _⟩
end Go.Proofs.YthkmblgehdofmaaGreat.R


namespace Go.Proofs.YthkmblgehdofmaaGreat.Q
open Go.RowKit Go.Lab Go.Proofs.YthkmblgehdofmaaGreatW.PrintWords Go.Proofs.YthkmblgehdofmaaGreatW.PrintLast Go.Proofs.YthkmblgehdofmaaGreatW.PrintMore

theorem Tryz.info2 : (Tryz.prog.info? 2).map (fun i => (i.zero, i.size, i.bytes)) = some (some (.int .i64 0), 1, 8) := by kernel_rfl
theorem Tryz.info3 : (Tryz.prog.info? 3).map (fun i => (i.zero, i.size, i.bytes)) = some (some (.int .i64 0), 1, 8) := by kernel_rfl

/-- cells of a read slice of ints -/
theorem C_int_cells {w : World} {A : Option Addr} {n : Nat} {xs : List Int} {k : IntKind} (h : Kd.C (Kd.int k) w A n xs) {ad : Addr} (hA : A = some ad) :
    ∀ j u, (nums k xs)[j]? = some u → w.cell? (ad.add j) = some u := by
  intro j u hu
  obtain ⟨hl, _, hc⟩ := h
  have hj : j < xs.length := by
    rcases Nat.lt_or_ge j xs.length with h | h
    · exact h
    · rw [List.getElem?_eq_none (by rw [nums_length]; exact h)] at hu; cases hu
  obtain ⟨ad', e, hc⟩ := hc (by omega)
  rw [hA] at e; cases e
  obtain ⟨c, _, hr, hcell⟩ := hc j _ (List.getElem?_eq_getElem hj)
  have hr' : c = [.int k xs[j]] := hr
  subst hr'
  have := hcell 0 (.int k xs[j]) rfl
  simp only [nums, List.getElem?_map, List.getElem?_eq_getElem hj, Option.map_some, Option.some.injEq] at hu
  subst hu
  have hs : (Kd.int k).sz = 1 := rfl
  rw [hs] at this
  simpa using this

theorem C_int_at {w : World} {A : Option Addr} {n : Nat} {xs : List Int} {k : IntKind} (h : Kd.C (Kd.int k) w A n xs) (i : Nat) (hi : i < n) : ∃ ad, A = some ad ∧ w.cell? (ad.add i) = some (.int k (xs.getD i 0)) := by
  obtain ⟨ad, e, hc⟩ := Kd.at_int h i (by omega) (by omega)
  exact ⟨ad, e, by simpa [rd] using hc⟩

theorem Below.up {B : Nat} {w W w' : World} (h : Below B w W) (k : Below W.heap.size W w') (hB : B ≤ w.heap.size) : Below B w w' := h.trans (k.mono (Nat.le_trans hB h.size))

theorem own_of_heap {w w1 : World} {base : Nat} {e : TypeId} {size n : Nat} {v : Value} {xs : List Value} (h : w.ownsRow base e size v n xs) (hk : ∀ k, v.ownBlock = some k → w1.heap[k]? = w.heap[k]?) : w1.ownsRow base e size v n xs := own_move h hk

theorem own_block {w : World} {base : Nat} {e : TypeId} {size n : Nat} {v : Value} {xs : List Value} (h : w.ownsRow base e size v n xs) {k : Nat} (hk : v.ownBlock = some k) : ∃ cells, w.heap[k]? = some (.cells cells e (0, 0)) := own_typed h k hk

theorem blk_type {w : World} {k : Nat} {c c' : Array Value} {e e' : TypeId} (h : w.heap[k]? = some (.cells c e (0,0))) (h' : w.heap[k]? = some (.cells c' e' (0,0))) : e = e' := by
  rw [h] at h'
  injection h' with h'
  injection h' with _ h'

end Go.Proofs.YthkmblgehdofmaaGreat.Q


/- The contract of slices.Clone at int, in the printed contracts' form. -/
namespace Go.Proofs.YthkmblgehdofmaaGreat.Q
open Go.RowKit Go.Lab Go.Proofs.YthkmblgehdofmaaGreatW.PrintWords Go.Proofs.YthkmblgehdofmaaGreatW.PrintLast Go.Proofs.YthkmblgehdofmaaGreatW.PrintMore

end Go.Proofs.YthkmblgehdofmaaGreat.Q
namespace Go.Proofs.YthkmblgehdofmaaGreat.PL
open Go.RowKit Go.Lab Go.Proofs.YthkmblgehdofmaaGreatW.PrintWords Go.Proofs.YthkmblgehdofmaaGreatW.PrintLast Go.Proofs.YthkmblgehdofmaaGreatW.PrintMore Go.Proofs.YthkmblgehdofmaaGreat.Q
end Go.Proofs.YthkmblgehdofmaaGreat.PL


namespace Go.Proofs.YthkmblgehdofmaaGreat.Q
open Go.RowKit Go.Lab Go.Proofs.YthkmblgehdofmaaGreatW.PrintWords Go.Proofs.YthkmblgehdofmaaGreatW.PrintLast Go.Proofs.YthkmblgehdofmaaGreatW.PrintMore PL

theorem news1 (w : World) (x : Value) (t : TypeId) : ∀ j u, [x][j]? = some u → (w.alloc (.cells #[x] t)).cell? ((⟨w.heap.size, 0, none⟩ : Addr).add j) = some u := by
  intro j u hu
  rw [add_plain, blk_cell (heap_alloc_new w (.cells #[x] t))]
  match j, hu with
  | 0, hu => exact hu
  | j + 1, hu => simp at hu

theorem news1' (w : World) (x : Value) (t : TypeId) (B : Nat) (hB : w.heap.size = B) : ∀ j u, [x][j]? = some u → (w.alloc (.cells #[x] t)).drew.cell? ((⟨B, 0, none⟩ : Addr).add j) = some u := by
  subst hB
  exact news1 w x t

end Go.Proofs.YthkmblgehdofmaaGreat.Q


/- The iterator over the ends of arcs. -/
namespace Go.Proofs.YthkmblgehdofmaaGreat.R
open Go.RowKit Go.Lab Go.Maps Go.Proofs.YthkmblgehdofmaaGreatW.PrintWords Go.Proofs.YthkmblgehdofmaaGreatW.PrintLast Go.Proofs.YthkmblgehdofmaaGreatW.PrintMore PL

def en.T5 : Bool × List (List Nat × List Nat) := (true, [([], []), ([], []), ([1], [1]), ([2], [2]), ([3], [3]), ([], []), ([5], [5]), ([4, 6], [4, 6]), ([7], [7]), ([8], [8]), ([9], [9]), ([0, 10], [0, 10]), ([11, 11, 0, 1, 2, 3, 4, 5, 6, 7, 8, 9, 10, 11], [0, 11])])
def en.B5 : List Nat := [0, 0, 2, 6, 14, 0, 32, 126, 254, 510, 1022, 2047, 4095]
theorem en.tab5 : rtab .any (opsOf Tryz.f155 5) = en.T5 := by kernel_rfl
theorem en.bits5 : waitsOk en.T5.2 en.B5 = true := by kernel_rfl

/-- the nodes at which arcs end -/
def endsN (ids : List Int) (l : List (Int × Nat)) : List Int := l.map fun a => ids.getD a.1.toNat 0
theorem endsN_length (ids : List Int) (l : List (Int × Nat)) : (endsN ids l).length = l.length := by simp [endsN]
theorem endsN_get (ids : List Int) (l : List (Int × Nat)) (k : Nat) (h : k < l.length) : (endsN ids l)[k]'(by rw [endsN_length]; exact h) = ids.getD l[k].1.toNat 0 := by simp [endsN]
theorem nodes_step (r : List Int) (k : Nat) (hk : k < r.length) : nodeVs (r.take (k + 1)) = nodeVs (r.take k) ++ [nodeV r[k]] := by
  rw [List.take_succ_eq_append_getElem hk]; unfold nodeVs; rw [List.map_append]; rfl

set_option maxHeartbeats 8000000 in
set_option maxRecDepth 100000 in
theorem ends_any (base bp bl : Nat) (p : Pl) (v : Value) (l : List (Int × Nat)) (w : World) (h : PlOk w base bp p) (hv : w.ownsRow bl 85 2 v l.length (fl l)) (hn : p.ids.length ≤ 1000) (hl : l.length ≤ 1000) (ha : ∀ a ∈ l, 0 ≤ a.1 ∧ a.1 < p.ids.length) :
    Calls Tryz.prog 155 #[.pointer (some ⟨bp, 0, none⟩), v] w fun e w' => ∃ b, e = .returned (.iface 215 (.pointer (some ⟨b, 0, none⟩))) ∧ OIt w.heap.size w'.heap.size w' b (endsN p.ids l) 0 ∧ Below w.heap.size w w' := by
  obtain ⟨Ai, ci, hcell, hC, hbl⟩ := h.idsC
  have HC := Aside0.mk hC
  have HV := Aside0.mk hv
  have HA := Aside0.mk ha
  obtain ⟨VA, vc, rfl⟩ := own_slice hv
  obtain ⟨i0, hi, hz0, hz1, hz2⟩ := info_parts Tryz.info89
  have HI := Aside0.mk (And.intro hi (And.intro hz0 (And.intro hz1 hz2)))
  have hmk := make_nodes l.length hl
  have hel := endsN_length p.ids l
  clear h hC hv ha hi hz0 hz1 hz2
  generalize p.ids = ids at *
  go_enter Tryz.func155, Tryz.ntmps155
  go_wp2
  go_loopw [5, 13] (fun v i wr => ∃ V C k, v = .slice V k C ∧ k ≤ l.length ∧ i = .int .i64 k ∧ Aside0 (wr.ownsRow w.heap.size 89 1 (.slice V k C) k (nodeVs ((endsN ids l).take k)) ∧ Below w.heap.size w wr)) (fun _ i _ => l.length - (intOf i).toNat)
  case atStart => exact ⟨_, l.length, 0, rfl, Nat.zero_le _, rfl, ⟨World.ownsRow_made w _ l.length (Nat.le_refl _) (by unfold maxLen; omega) (by rw [size_madeCells, Nat.mul_one]), (Below.refl _ _).alloc (Nat.le_refl _) _⟩⟩
  case round =>
    obtain ⟨V, C, k, rfl, hk, rfl, HR⟩ := hrel
    have hbw := HR.out.2.size
    by_cases hlt : k < l.length
    · obtain ⟨g, cap, hve, hgl, hcap, hc0, hc1⟩ := fl_cells HV.out k hlt
      injection hve with e1 _ e3
      subst e1 e3
      have hak := HA.out _ (List.getElem_mem hlt)
      have hn0 : 0 < ids.length := by omega
      have hlt2 : l[k].1.toNat < ids.length := by omega
      obtain ⟨ad, rfl, hcx⟩ := C_int_at (Kd.C_below HC.out HR.out.2) l[k].1.toNat hlt2
      have HS := Aside0.mk (nodes_step (endsN ids l) k (by omega))
      rw [endsN_get ids l k hlt] at HS
      replace hc0 := (HR.out.2.cell (p := ⟨g, k * 2, none⟩) hgl).trans hc0
      replace hc1 := (HR.out.2.cell (p := ⟨g, k * 2 + 1, none⟩) hgl).trans hc1
      have hcb := (HR.out.2.cell (p := ⟨bp, 0, none⟩) hbl).trans hcell
      have hbb : bp < wr.heap.size := by omega
      obtain ⟨q, hq⟩ : ∃ q : Nat, l[k].1 = (q : Int) := ⟨l[k].1.toNat, by omega⟩
      rw [hq] at hlt2 hcx HS hc0
      rw [Int.toNat_natCast] at hlt2 hcx HS
      generalize ids.getD q 0 = x at hcx HS
      generalize l[k].2 = a1 at hc1
      clear hak hq
      have hcb2 : (World.drew (wr.alloc (.cells #[.int .i64 q, .float .f64 a1] 85))).cell? ⟨bp, 0, none⟩ = some (.slice (some ad) ids.length ci) := Lib.cell?_alloc_some _ hcb
      have hca2 : (World.drew (wr.alloc (.cells #[.int .i64 q, .float .f64 a1] 85))).cell? ⟨wr.heap.size, 0, none⟩ = some (.int .i64 q) := (blk_cell (heap_alloc_new _ _) 0).trans rfl
      have hcx2 : (World.drew (wr.alloc (.cells #[.int .i64 q, .float .f64 a1] 85))).cell? (ad.add q) = some (.int .i64 x) := Lib.cell?_alloc_some _ hcx
      have HOW := Aside0.mk (show (World.drew (wr.alloc (.cells #[.int .i64 q, .float .f64 a1] 85))).ownsRow w.heap.size 89 1 (.slice V k C) k (nodeVs ((endsN ids l).take k)) from World.ownsRow.alloc HR.out.1 _)
      have hq0 : (0 : Int) ≤ (q : Int) := by omega
      have hq1 : (q : Int) < (ids.length : Int) := by omega
      go_wp2_with fail
      refine start_ (n := 13) (S := fun w' => w'.cell? ⟨bp, 0, none⟩ = some (.slice (some ad) ids.length ci) ∧ w'.cell? ⟨wr.heap.size, 0, none⟩ = some (.int .i64 q) ∧ w'.cell? (ad.add q) = some (.int .i64 x)) (ds := [10, 11]) #[false, false, false, false, false, false, false, false, false, false, false, false, false] (by kernel_rfl) rfl rfl ⟨hcb2, hca2, hcx2⟩ (fun hHeld => ?_)
      refine with_tabW en.tab5 en.bits5 (fun HT_ HW_ => ?_)
      refine pure_ (i := 0) (N := some 17) (v := ?_) (a' := ?_) #[true, false, false, false, false, false, false, false, false, false, false, false, false] rfl rfl (any_of HT_.out (by kernel_rfl)) (fun _ _ _ h => h) (Or.inl ⟨by rfl, ?_⟩) ?_ ?_
      rotate_left
      · intro w'
        go_simp
        with_reducible rfl
      rotate_left
      · simp only [Act.put, List.setIfInBounds_toArray, List.set_cons_zero, List.set_cons_succ, i64_w, i32_w]
        rfl
      refine pure_ (i := 1) (N := some 18) (v := ?_) (a' := ?_) #[true, true, false, false, false, false, false, false, false, false, false, false, false] rfl rfl (any_of HT_.out (by kernel_rfl)) (fun _ _ _ h => h) (Or.inl ⟨by rfl, ?_⟩) ?_ ?_
      rotate_left
      · intro w'
        go_simp
        with_reducible rfl
      rotate_left
      · simp only [Act.put, List.setIfInBounds_toArray, List.set_cons_zero, List.set_cons_succ, i64_w, i32_w]
        rfl
      refine pure_ (i := 2) (N := some 19) (v := ?_) (a' := ?_) #[true, true, true, false, false, false, false, false, false, false, false, false, false] rfl rfl (any_of HT_.out (by kernel_rfl)) (fun _ _ _ h => h) (Or.inl ⟨by rfl, ?_⟩) ?_ ?_
      rotate_left
      · intro w'
        go_simp
        with_reducible rfl
      rotate_left
      · simp only [Act.put, List.setIfInBounds_toArray, List.set_cons_zero, List.set_cons_succ, i64_w, i32_w]
        rfl
      refine pure_ (i := 3) (N := some 20) (v := ?_) (a' := ?_) #[true, true, true, true, false, false, false, false, false, false, false, false, false] rfl rfl (any_of HT_.out (by kernel_rfl)) (fun _ _ _ h => h) (Or.inl ⟨by rfl, ?_⟩) ?_ ?_
      rotate_left
      · intro w'
        go_simp
        with_reducible rfl
      rotate_left
      · simp only [Act.put, List.setIfInBounds_toArray, List.set_cons_zero, List.set_cons_succ, i64_w, i32_w]
        rfl
      refine pure_ (i := 5) (N := some 22) (v := ?_) (a' := ?_) #[true, true, true, true, false, true, false, false, false, false, false, false, false] rfl rfl (any_of HT_.out (by kernel_rfl)) (fun _ _ _ h => h) (Or.inl ⟨by rfl, ?_⟩) ?_ ?_
      rotate_left
      · intro w'
        go_simp
        with_reducible rfl
      rotate_left
      · simp only [Act.put, List.setIfInBounds_toArray, List.set_cons_zero, List.set_cons_succ, i64_w, i32_w]
        rfl
      refine take_ (i := 4) (N := some 21) (v := ?_) (a' := ?_) #[true, true, true, true, true, true, false, false, false, false, false, false, false] rfl rfl (take_ofW HT_.out HW_.out (by kernel_rfl)) (fun _ _ _ h => h) (Or.inl ⟨by rfl, ?_⟩) hHeld ?_ ?_
      rotate_left
      · rintro w' ⟨s0, s1, s2⟩
        go_simp
        with_reducible rfl
      rotate_left
      · simp only [Act.put, List.setIfInBounds_toArray, List.set_cons_zero, List.set_cons_succ, i64_w, i32_w]
        rfl
      refine take_ (i := 6) (N := some 23) (v := ?_) (a' := ?_) #[true, true, true, true, true, true, true, false, false, false, false, false, false] rfl rfl (take_ofW HT_.out HW_.out (by kernel_rfl)) (fun _ _ _ h => h) (Or.inl ⟨by rfl, ?_⟩) hHeld ?_ ?_
      rotate_left
      · rintro w' ⟨s0, s1, s2⟩
        go_simp
        with_reducible rfl
      rotate_left
      · simp only [Act.put, List.setIfInBounds_toArray, List.set_cons_zero, List.set_cons_succ, i64_w, i32_w]
        rfl
      refine pure_ (i := 7) (N := some 24) (v := ?_) (a' := ?_) #[true, true, true, true, true, true, true, true, false, false, false, false, false] rfl rfl (any_of HT_.out (by kernel_rfl)) (fun _ _ _ h => h) (Or.inl ⟨by rfl, ?_⟩) ?_ ?_
      rotate_left
      · intro w'
        go_simp
        with_reducible rfl
      rotate_left
      · simp only [Act.put, List.setIfInBounds_toArray, List.set_cons_zero, List.set_cons_succ, i64_w, i32_w]
        rfl
      refine take_ (i := 8) (N := some 25) (v := ?_) (a' := ?_) #[true, true, true, true, true, true, true, true, true, false, false, false, false] rfl rfl (take_ofW HT_.out HW_.out (by kernel_rfl)) (fun _ _ _ h => h) (Or.inl ⟨by rfl, ?_⟩) hHeld ?_ ?_
      rotate_left
      · rintro w' ⟨s0, s1, s2⟩
        go_simp
        with_reducible rfl
      rotate_left
      · simp only [Act.put, List.setIfInBounds_toArray, List.set_cons_zero, List.set_cons_succ, i64_w, i32_w]
        rfl
      refine pure_ (i := 9) (N := some 26) (v := ?_) (a' := ?_) #[true, true, true, true, true, true, true, true, true, true, false, false, false] rfl rfl (any_of HT_.out (by kernel_rfl)) (fun _ _ _ h => h) (Or.inl ⟨by rfl, ?_⟩) ?_ ?_
      rotate_left
      · intro w'
        go_simp
        with_reducible rfl
      rotate_left
      · simp only [Act.put, List.setIfInBounds_toArray, List.set_cons_zero, List.set_cons_succ, i64_w, i32_w]
        rfl
      refine last_ (i := 10) (N := some 27) #[true, true, true, true, true, true, true, true, true, true, true, false, false] rfl rfl (one_of HT_.out (by kernel_rfl)) (by decide) (fun K hK => ?_)
      refine value_ (w1 := ?_) (v := ?_) (by rfl) rfl ?_ ?_
      rotate_left 2
      · go_simp
        constructor
        · rfl
        · rfl
      refine hK.out _ _ ?_
      clear hK K
      refine norm_ (a' := ?_) ?_ ?_
      rotate_left
      · show Act.put _ (some 27) _ = _
        simp only [Act.put, List.setIfInBounds_toArray, List.set_cons_zero, List.set_cons_succ, i64_w, i32_w]
        rfl
      refine last_ (i := 11) (N := some 28) #[true, true, true, true, true, true, true, true, true, true, true, true, false] rfl rfl (one_of HT_.out (by kernel_rfl)) (by decide) (fun K hK => ?_)
      refine step_append_lies _ (by rfl) _ _ _ (by rfl) w.heap.size 89 i0 _ 1 16 Tryz.underlying119 HI.out.1 HI.out.2.1 HI.out.2.2.1 HI.out.2.2.2 rfl (by omega) (.slice V k C) k (nodeVs ((endsN ids l).take k)) (by rfl) (by exact World.ownsRow.alloc HOW.out _) ⟨wr.heap.size + 1, 0, none⟩ 1 1 [nodeV x] (by rfl) (by rfl) (by exact Q.news1' _ _ _ _ (by simp)) (by simp [Value.oneCell', nodeV]) (by omega) (by unfold maxLen; omega) (by omega) (by simp; omega) _ rfl ?_
      intro gg cap w4 hown4 hgr4 hat4 hlt4
      have G4 := Aside0.mk (And.intro hown4 hgr4)
      clear hown4 hgr4 hat4 hlt4
      refine hK.out _ _ ?_
      clear hK K
      refine norm_ (a' := ?_) ?_ ?_
      rotate_left
      · show Act.put _ (some 28) _ = _
        simp only [Act.put, List.setIfInBounds_toArray, List.set_cons_zero, List.set_cons_succ, i64_w, i32_w]
        rfl
      refine pure_ (i := 12) (N := some 5) (v := ?_) (a' := ?_) #[true, true, true, true, true, true, true, true, true, true, true, true, true] rfl rfl (any_of HT_.out (by kernel_rfl)) (fun _ _ _ h => h) (Or.inl ⟨by rfl, ?_⟩) ?_ ?_
      rotate_left
      · intro w'
        go_simp
        with_reducible rfl
      rotate_left
      · simp only [Act.put, List.setIfInBounds_toArray, List.set_cons_zero, List.set_cons_succ, i64_w, i32_w]
        rfl
      refine done_ (done_of HT_.out (by kernel_rfl)) ?_
      go_wp2
      go_roundw
      case rel => exact ⟨_, cap, k + 1, rfl, by omega, by go_num, ⟨by rw [HS.out]; exact G4.out.1, ((HR.out.2.alloc hbw _).drew.alloc (by simp; omega) _).grown G4.out.2 (by simp; omega) (fun q hq => own_base HR.out.1 q hq)⟩⟩
      case measure => simp [intOf]; omega
    · obtain rfl : k = l.length := by omega
      have h1 := HR.out
      rw [← hel, List.take_length] at h1
      have H1 := Aside0.mk h1
      clear h1 HR
      go_wp2_with (go_at_call 159; refine (new_any _ _ _ _).mono ?_; rintro e w1 ⟨rfl, rfl⟩)
      go_ret
      have hmd := OIt.made H1.out.1 H1.out.2.size
      rw [hel] at hmd
      exact ⟨wr.heap.size, rfl, by simpa using hmd, H1.out.2.alloc H1.out.2.size _⟩
end Go.Proofs.YthkmblgehdofmaaGreat.R


/- The iterator over the nodes of two iterators, each once. -/
namespace Go.Proofs.YthkmblgehdofmaaGreat.R
open Go.RowKit Go.Lab Go.Maps Go.Proofs.YthkmblgehdofmaaGreatW.PrintWords Go.Proofs.YthkmblgehdofmaaGreatW.PrintLast Go.Proofs.YthkmblgehdofmaaGreatW.PrintMore PL

section
variable {lo : Nat} {w w1 : World} {b : Nat} {xs ys : List Int} {i j : Nat} {cur : Value} {la Ba ba lb Bb bb mb n : Nat} {c1 c2 : Int} {D : DataW Unit}

end
end Go.Proofs.YthkmblgehdofmaaGreat.R



/- What a plain graph of directed edges holds, in the words of its list of edges. -/
namespace Go.Proofs.YthkmblgehdofmaaGreat.R
open Go.RowKit Go.Lab Go.Proofs.YthkmblgehdofmaaGreatW.PrintWords Go.Proofs.YthkmblgehdofmaaGreatW.PrintLast Go.Proofs.YthkmblgehdofmaaGreatW.PrintMore PL

/-- the weight of the last edge from u to v -/
def arcW (es : List S29) (u v : Int) : Option Int := es.foldl (fun o e => if e.f0 = u ∧ e.f1 = v then some e.f2 else o) none

theorem arcW_snoc (es : List S29) (e : S29) (u v : Int) : arcW (es ++ [e]) u v = if e.f0 = u ∧ e.f1 = v then some e.f2 else arcW es u v := by
  unfold arcW; rw [List.foldl_append]; rfl

theorem keys_get (l : List (Int × Nat)) (i : Nat) (h : i < (keys l).length) : (keys l)[i] = (l[i]'(by simpa [keys] using h)).1 := by simp [keys]

theorem mem_setA {l : List (Int × Nat)} (hs : (keys l).Pairwise (· < ·)) (k : Int) (x : Nat) (a : Int × Nat) : a ∈ setA l k x ↔ a = (k, x) ∨ (a ∈ l ∧ a.1 ≠ k) := by
  unfold setA
  by_cases hm : k ∈ keys l
  · rw [if_pos hm]
    obtain ⟨hr, he⟩ := (rank_mem hs k).1 hm
    have hr' : rank (keys l) k < l.length := by rw [keys_length] at hr; exact hr
    constructor
    · intro h
      obtain ⟨j, hj, rfl⟩ := List.getElem_of_mem h
      rw [List.length_set] at hj
      rw [List.getElem_set]
      split
      · exact .inl rfl
      · rename_i hne
        refine .inr ⟨List.getElem_mem _, fun hk => hne ?_⟩
        have h1 : (keys l)[j]'(by rw [keys_length]; exact hj) = k := by rw [keys_get]; exact hk
        rcases Nat.lt_trichotomy (rank (keys l) k) j with h2 | h2 | h2
        · have := List.pairwise_iff_getElem.1 hs _ _ hr (by rw [keys_length]; exact hj) h2; omega
        · exact h2
        · have := List.pairwise_iff_getElem.1 hs _ _ (by rw [keys_length]; exact hj) hr h2; omega
    · rintro (rfl | ⟨h1, h2⟩)
      · exact List.mem_iff_getElem.2 ⟨rank (keys l) k, by rw [List.length_set]; exact hr', by simp⟩
      · obtain ⟨j, hj, rfl⟩ := List.getElem_of_mem h1
        refine List.mem_iff_getElem.2 ⟨j, by rw [List.length_set]; exact hj, ?_⟩
        rw [List.getElem_set, if_neg]
        rintro rfl
        rw [keys_get] at he
        exact h2 he
  · rw [if_neg hm]
    unfold insAt
    have hne : ∀ a ∈ l, a.1 ≠ k := fun a ha h => hm (List.mem_map.2 ⟨a, ha, h⟩)
    have hl : a ∈ l ↔ a ∈ l.take (rank (keys l) k) ∨ a ∈ l.drop (rank (keys l) k) := by
      rw [← List.mem_append, List.take_append_drop]
    rw [List.mem_append, List.mem_cons]
    constructor
    · rintro (h | h | h)
      · exact .inr ⟨hl.2 (.inl h), hne _ (hl.2 (.inl h))⟩
      · exact .inl h
      · exact .inr ⟨hl.2 (.inr h), hne _ (hl.2 (.inr h))⟩
    · rintro (h | ⟨h, _⟩)
      · exact .inr (.inl h)
      · rcases hl.1 h with h | h
        · exact .inl h
        · exact .inr (.inr h)

/-- what the rows of a plain graph are for a list of edges -/
structure Adj (zs : List Int) (es : List S29) (p : Pl) : Prop where
  ids : p.ids = srt zs
  lo : p.out.length = (srt zs).length
  li : p.inn.length = (srt zs).length
  out : ∀ i, i < (srt zs).length → ∀ a, a ∈ p.out.getD i [] ↔ ∃ k n, k < (srt zs).length ∧ a = ((k : Int), floatOfInt .f64 n) ∧ arcW es ((srt zs).getD i 0) ((srt zs).getD k 0) = some n
  inn : ∀ i, i < (srt zs).length → ∀ a, a ∈ p.inn.getD i [] ↔ ∃ k n, k < (srt zs).length ∧ a = ((k : Int), floatOfInt .f64 n) ∧ arcW es ((srt zs).getD k 0) ((srt zs).getD i 0) = some n

theorem getD_srt_inj {ids : List Int} (h : ids.Pairwise (· < ·)) {i j : Nat} (hi : i < ids.length) (hj : j < ids.length) (he : ids.getD i 0 = ids.getD j 0) : i = j := by
  simp only [List.getD_eq_getElem?_getD, List.getElem?_eq_getElem hi, List.getElem?_eq_getElem hj, Option.getD_some] at he
  rcases Nat.lt_trichotomy i j with h1 | h1 | h1
  · have := List.pairwise_iff_getElem.1 h _ _ hi hj h1; omega
  · exact h1
  · have := List.pairwise_iff_getElem.1 h _ _ hj hi h1; omega

theorem rank_at {ids : List Int} (h : ids.Pairwise (· < ·)) {t : Int} (ht : t ∈ ids) : rank ids t < ids.length ∧ ids.getD (rank ids t) 0 = t := by
  obtain ⟨hr, he⟩ := (rank_mem h t).1 ht
  exact ⟨hr, by simp [List.getD_eq_getElem?_getD, List.getElem?_eq_getElem hr, he]⟩

theorem getD_set_self {α : Type} (L : List α) (i : Nat) (x d : α) (h : i < L.length) : (L.set i x).getD i d = x := by
  simp [List.getD_eq_getElem?_getD, h]
theorem getD_set_other {α : Type} (L : List α) (i j : Nat) (x d : α) (h : i ≠ j) : (L.set i x).getD j d = L.getD j d := by
  simp [List.getD_eq_getElem?_getD, h]

theorem Adj.step {zs : List Int} {es : List S29} {p : Pl} (h : Adj zs es p) (hg : p.Good) (hs : (srt zs).Pairwise (· < ·)) (e : S29) (h0 : e.f0 ∈ srt zs) (h1 : e.f1 ∈ srt zs) : Adj zs (es ++ [e]) (layE true p e) := by
  obtain ⟨a0, b0⟩ := rank_at hs h0
  obtain ⟨a1, b1⟩ := rank_at hs h1
  have hl : layE true p e = (p.outs (rank (srt zs) e.f0) (rank (srt zs) e.f1) (floatOfInt .f64 e.f2)).inns (rank (srt zs) e.f1) (rank (srt zs) e.f0) (floatOfInt .f64 e.f2) := by
    unfold layE Pl.lay; rw [h.ids]; rfl
  rw [hl]
  refine ⟨h.ids, ?_, ?_, ?_, ?_⟩
  · show (p.out.set _ _).length = _; rw [List.length_set]; exact h.lo
  · show (p.inn.set _ _).length = _; rw [List.length_set]; exact h.li
  · intro i hi a
    show a ∈ (p.out.set (rank (srt zs) e.f0) (setA (p.out.getD (rank (srt zs) e.f0) []) (rank (srt zs) e.f1 : Nat) (floatOfInt .f64 e.f2))).getD i [] ↔ _
    by_cases hr : rank (srt zs) e.f0 = i
    · subst hr
      rw [getD_set_self _ _ _ _ (by rw [h.lo]; exact a0), mem_setA (hg.out _).1, b0, h.out _ a0, b0]
      constructor
      · rintro (rfl | ⟨⟨k, n, hk, rfl, hn⟩, hne⟩)
        · exact ⟨_, e.f2, a1, rfl, by rw [arcW_snoc, b1, if_pos ⟨rfl, rfl⟩]⟩
        · refine ⟨k, n, hk, rfl, ?_⟩
          rw [arcW_snoc, if_neg]
          · exact hn
          · rintro ⟨_, hh⟩
            have := getD_srt_inj hs a1 hk (by rw [b1, hh])
            subst this
            exact hne rfl
      · rintro ⟨k, n, hk, rfl, hn⟩
        rw [arcW_snoc] at hn
        by_cases hkk : k = rank (srt zs) e.f1
        · subst hkk
          rw [b1, if_pos ⟨rfl, rfl⟩] at hn
          injection hn with hn
          subst hn
          exact .inl rfl
        · rw [if_neg] at hn
          · refine .inr ⟨⟨k, n, hk, rfl, hn⟩, ?_⟩
            show ¬ (k : Int) = _
            omega
          · rintro ⟨_, hh⟩
            exact hkk (getD_srt_inj hs hk a1 (by rw [b1, hh]))
    · rw [getD_set_other _ _ _ _ _ hr, h.out i hi]
      have hne : ∀ k, arcW (es ++ [e]) ((srt zs).getD i 0) ((srt zs).getD k 0) = arcW es ((srt zs).getD i 0) ((srt zs).getD k 0) := by
        intro k
        rw [arcW_snoc, if_neg]
        rintro ⟨hh, _⟩
        exact hr (getD_srt_inj hs a0 hi (by rw [b0, hh]))
      simp only [hne]
  · intro i hi a
    show a ∈ (p.inn.set (rank (srt zs) e.f1) (setA (p.inn.getD (rank (srt zs) e.f1) []) (rank (srt zs) e.f0 : Nat) (floatOfInt .f64 e.f2))).getD i [] ↔ _
    by_cases hr : rank (srt zs) e.f1 = i
    · subst hr
      rw [getD_set_self _ _ _ _ (by rw [h.li]; exact a1), mem_setA (hg.inn _).1, b1, h.inn _ a1, b1]
      constructor
      · rintro (rfl | ⟨⟨k, n, hk, rfl, hn⟩, hne⟩)
        · exact ⟨_, e.f2, a0, rfl, by rw [arcW_snoc, b0, if_pos ⟨rfl, rfl⟩]⟩
        · refine ⟨k, n, hk, rfl, ?_⟩
          rw [arcW_snoc, if_neg]
          · exact hn
          · rintro ⟨hh, _⟩
            have := getD_srt_inj hs a0 hk (by rw [b0, hh])
            subst this
            exact hne rfl
      · rintro ⟨k, n, hk, rfl, hn⟩
        rw [arcW_snoc] at hn
        by_cases hkk : k = rank (srt zs) e.f0
        · subst hkk
          rw [b0, if_pos ⟨rfl, rfl⟩] at hn
          injection hn with hn
          subst hn
          exact .inl rfl
        · rw [if_neg] at hn
          · refine .inr ⟨⟨k, n, hk, rfl, hn⟩, ?_⟩
            show ¬ (k : Int) = _
            omega
          · rintro ⟨hh, _⟩
            exact hkk (getD_srt_inj hs hk a0 (by rw [b0, hh]))
    · rw [getD_set_other _ _ _ _ _ hr, h.inn i hi]
      have hne : ∀ k, arcW (es ++ [e]) ((srt zs).getD k 0) ((srt zs).getD i 0) = arcW es ((srt zs).getD k 0) ((srt zs).getD i 0) := by
        intro k
        rw [arcW_snoc, if_neg]
        rintro ⟨_, hh⟩
        exact hr (getD_srt_inj hs a1 hi (by rw [b1, hh]))
      simp only [hne]

/-- the nodes to which edges lead from u -/
def outN (zs : List Int) (es : List S29) (u : Int) : List Int := (srt zs).filter fun v => (arcW es u v).isSome
/-- the nodes from which edges lead to u -/
def innN (zs : List Int) (es : List S29) (u : Int) : List Int := (srt zs).filter fun v => (arcW es v u).isSome

theorem int_ext {l1 l2 : List Int} (h1 : l1.Pairwise (· < ·)) (h2 : l2.Pairwise (· < ·)) (hm : ∀ x, x ∈ l1 ↔ x ∈ l2) : l1 = l2 := by
  induction l1 generalizing l2 with
  | nil =>
    cases l2 with
    | nil => rfl
    | cons y r => exact absurd ((hm y).2 (by simp)) (by simp)
  | cons x r ih =>
    cases l2 with
    | nil => exact absurd ((hm x).1 (by simp)) (by simp)
    | cons y s =>
      rw [List.pairwise_cons] at h1 h2
      have e : x = y := by
        have a := (hm x).1 (by simp)
        have b := (hm y).2 (by simp)
        rw [List.mem_cons] at a b
        rcases a with a | a
        · exact a
        · rcases b with b | b
          · exact b.symm
          · have := h2.1 _ a; have := h1.1 _ b; omega
      subst e
      rw [ih h1.2 h2.2]
      intro z
      constructor
      · intro hz
        have := (hm z).1 (by simp [hz])
        rw [List.mem_cons] at this
        rcases this with rfl | h
        · exact absurd (h1.1 _ hz) (by omega)
        · exact h
      · intro hz
        have := (hm z).2 (by simp [hz])
        rw [List.mem_cons] at this
        rcases this with rfl | h
        · exact absurd (h2.1 _ hz) (by omega)
        · exact h

theorem ends_eq {ids : List Int} (hs : ids.Pairwise (· < ·)) {l : List (Int × Nat)} (hl : GoodRow ids.length l) {f : Int → Option Int}
    (hm : ∀ a, a ∈ l ↔ ∃ k n, k < ids.length ∧ a = ((k : Int), floatOfInt .f64 n) ∧ f (ids.getD k 0) = some n) : l.map (fun a => ids.getD a.1.toNat 0) = ids.filter fun v => (f v).isSome := by
  refine int_ext ?_ (hs.filter _) fun v => ?_
  · rw [List.pairwise_map]
    have h1 : l.Pairwise fun a b => a.1 < b.1 := by
      have := hl.1
      unfold keys at this
      rw [List.pairwise_map] at this
      exact this
    refine h1.imp_of_mem ?_
    intro a b ha hb hab
    obtain ⟨ka, _, hka, rfl, _⟩ := (hm a).1 ha
    obtain ⟨kb, _, hkb, rfl, _⟩ := (hm b).1 hb
    have hab : (ka : Int) < (kb : Int) := hab
    show ids.getD ((ka : Int)).toNat 0 < ids.getD ((kb : Int)).toNat 0
    simp only [Int.toNat_natCast, List.getD_eq_getElem?_getD, List.getElem?_eq_getElem hka, List.getElem?_eq_getElem hkb, Option.getD_some]
    exact List.pairwise_iff_getElem.1 hs _ _ hka hkb (by omega)
  · rw [List.mem_map, List.mem_filter]
    constructor
    · rintro ⟨a, ha, rfl⟩
      obtain ⟨k, n, hk, rfl, hn⟩ := (hm a).1 ha
      show ids.getD ((k : Int)).toNat 0 ∈ ids ∧ _
      rw [Int.toNat_natCast]
      refine ⟨?_, by rw [hn]; rfl⟩
      simp only [List.getD_eq_getElem?_getD, List.getElem?_eq_getElem hk, Option.getD_some]
      exact List.getElem_mem _
    · rintro ⟨h1, h2⟩
      obtain ⟨n, hn⟩ := Option.isSome_iff_exists.1 h2
      obtain ⟨a, b⟩ := rank_at hs h1
      exact ⟨((rank ids v : Nat), floatOfInt .f64 n), (hm _).2 ⟨_, n, a, rfl, by rw [b]; exact hn⟩, by show ids.getD ((rank ids v : Nat) : Int).toNat 0 = v; rw [Int.toNat_natCast, b]⟩

theorem Adj.outN {zs : List Int} {es : List S29} {p : Pl} (h : Adj zs es p) (hg : p.Good) (hs : (srt zs).Pairwise (· < ·)) {u : Int} (hu : u ∈ srt zs) :
    (p.out.getD (rank p.ids u) []).map (fun a => p.ids.getD a.1.toNat 0) = outN zs es u := by
  obtain ⟨a, b⟩ := rank_at hs hu
  have hrow := hg.out (rank p.ids u)
  rw [h.ids] at hrow ⊢
  exact ends_eq hs hrow (f := fun v => arcW es u v) fun c => by rw [h.out _ a, b]

theorem Adj.innN {zs : List Int} {es : List S29} {p : Pl} (h : Adj zs es p) (hg : p.Good) (hs : (srt zs).Pairwise (· < ·)) {u : Int} (hu : u ∈ srt zs) :
    (p.inn.getD (rank p.ids u) []).map (fun a => p.ids.getD a.1.toNat 0) = innN zs es u := by
  obtain ⟨a, b⟩ := rank_at hs hu
  have hrow := hg.inn (rank p.ids u)
  rw [h.ids] at hrow ⊢
  exact ends_eq hs hrow (f := fun v => arcW es v u) fun c => by rw [h.inn _ a, b]

theorem Adj.find {zs : List Int} {es : List S29} {p : Pl} (h : Adj zs es p) (hg : p.Good) (hs : (srt zs).Pairwise (· < ·)) {u v : Int} (hu : u ∈ srt zs) (hv : v ∈ srt zs) :
    p.find u v = (arcW es u v).map fun n => (((rank (srt zs) v : Nat) : Int), floatOfInt .f64 n) := by
  obtain ⟨a, b⟩ := rank_at hs hu
  obtain ⟨a', b'⟩ := rank_at hs hv
  have hrow := hg.out (rank p.ids u)
  have hm := h.out _ a
  unfold Pl.find Pl.row
  rw [h.ids] at hrow ⊢
  cases hn : arcW es u v with
  | none =>
    rw [if_neg]
    · rfl
    · rintro ⟨_, _, hk⟩
      obtain ⟨x, hx, hx2⟩ := List.mem_map.1 hk
      obtain ⟨k, n, hk1, rfl, hk2⟩ := (hm x).1 hx
      have : k = rank (srt zs) v := by have h9 : (k : Int) = ((rank (srt zs) v : Nat) : Int) := hx2; omega
      subst this
      rw [b, b', hn] at hk2
      cases hk2
  | some n =>
    have hmem : (((rank (srt zs) v : Nat) : Int), floatOfInt .f64 n) ∈ p.out.getD (rank (srt zs) u) [] := (hm _).2 ⟨_, n, a', rfl, by rw [b, b']; exact hn⟩
    have hk : ((rank (srt zs) v : Nat) : Int) ∈ keys (p.out.getD (rank (srt zs) u) []) := List.mem_map.2 ⟨_, hmem, rfl⟩
    rw [if_pos ⟨hu, hv, hk⟩]
    obtain ⟨hr, he⟩ := (rank_mem hrow.1 _).1 hk
    rw [keys_get] at he
    have hr' : rank (keys (p.out.getD (rank (srt zs) u) [])) ((rank (srt zs) v : Nat) : Int) < (p.out.getD (rank (srt zs) u) []).length := by rw [keys_length] at hr; exact hr
    rw [List.getElem?_eq_getElem hr']
    show _ = some _
    congr 1
    obtain ⟨k, n', hk1, e1, hk2⟩ := (hm _).1 (List.getElem_mem hr')
    rw [e1] at he ⊢
    have : k = rank (srt zs) v := by have h9 : (k : Int) = ((rank (srt zs) v : Nat) : Int) := he; omega
    subst this
    rw [b, b', hn] at hk2
    injection hk2 with hk2
    rw [hk2]
end Go.Proofs.YthkmblgehdofmaaGreat.R


/- The graph without directions, in the words of the list of edges. -/
namespace Go.Proofs.YthkmblgehdofmaaGreat.R
open Go.RowKit Go.Lab Go.Proofs.YthkmblgehdofmaaGreatW.PrintWords Go.Proofs.YthkmblgehdofmaaGreatW.PrintLast Go.Proofs.YthkmblgehdofmaaGreatW.PrintMore PL

/-- two lists in one: what the second one has more -/
def both (xs ys : List Int) : List Int := xs ++ ys.filter fun v => !decide (v ∈ xs)
end Go.Proofs.YthkmblgehdofmaaGreat.R


/- The methods of the iterator of two iterators. -/
namespace Go.Proofs.YthkmblgehdofmaaGreat.R
open Go.RowKit Go.Lab Go.Maps Go.Proofs.YthkmblgehdofmaaGreatW.PrintWords Go.Proofs.YthkmblgehdofmaaGreatW.PrintLast Go.Proofs.YthkmblgehdofmaaGreatW.PrintMore PL

theorem meth_ONext (a : Addr) (w : World) : (method 325 215 (.pointer (some a)) "Next").run Tryz.prog w = .ok (197, .pointer (some a)) w := by kernel_rfl
theorem meth_ONode (a : Addr) (w : World) : (method 325 215 (.pointer (some a)) "Node").run Tryz.prog w = .ok (198, .pointer (some a)) w := by kernel_rfl
theorem meth_ID (x : Int) (w : World) : (method 325 71 (.int .i64 x) "ID").run Tryz.prog w = .ok (162, .int .i64 x) w := by kernel_rfl

set_option maxHeartbeats 400000 in
theorem nodeID_any (n : Int) (w : World) :
    Calls Tryz.prog 162 #[.int .i64 n] w fun e w' => e = .returned (.int .i64 n) ∧ w = w' := by
  go_enter Tryz.func162, Tryz.ntmps162
  go_wp2
  go_ret
  exact ⟨rfl, rfl⟩

/-- where an iterator stands -/
def posI (w : World) (b : Nat) : Nat := match w.cell? ⟨b, 0, none⟩ with | some (.int _ n) => (n + 1).toNat | _ => 0
theorem OIt.pos {lo B : Nat} {w : World} {b : Nat} {xs : List Int} {k : Nat} (h : OIt lo B w b xs k) : posI w b = k := by
  obtain ⟨A, c, h0, _⟩ := h.cells
  unfold posI
  rw [h0]
  show ((k : Int) - 1 + 1).toNat = k
  omega

/-- what is left of two iterators -/
def rest (xs ys : List Int) (i j : Nat) : List Int := xs.drop i ++ (ys.drop j).filter fun v => !decide (v ∈ xs)
theorem Mid.drewN (lo B : Nat) (w : World) (n : Nat) : Mid lo B w (w.drewN n) := Mid.of_below (Drawn0.below ⟨⟨n, rfl⟩⟩)

end Go.Proofs.YthkmblgehdofmaaGreat.R



/- newNodeIteratorPair. -/
namespace Go.Proofs.YthkmblgehdofmaaGreat.R
open Go.RowKit Go.Lab Go.Maps Go.Proofs.YthkmblgehdofmaaGreatW.PrintWords Go.Proofs.YthkmblgehdofmaaGreatW.PrintLast Go.Proofs.YthkmblgehdofmaaGreatW.PrintMore PL

theorem Below.set (lo : Nat) (w : World) (a : Addr) {v : Value} (h : lo ≤ a.block) : Below lo w (w.setCell a v) :=
  ⟨rfl, rfl, rfl, by simp [World.setCell], fun k hk => Below.heap_setCell _ _ _ _ (by omega)⟩
end Go.Proofs.YthkmblgehdofmaaGreat.R



/- From, To, Nodes of a directed plain graph, and of one without directions. -/
namespace Go.Proofs.YthkmblgehdofmaaGreat.R
open Go.RowKit Go.Lab Go.Maps Go.Proofs.YthkmblgehdofmaaGreatW.PrintWords Go.Proofs.YthkmblgehdofmaaGreatW.PrintLast Go.Proofs.YthkmblgehdofmaaGreatW.PrintMore PL

set_option maxHeartbeats 4000000 in
set_option maxRecDepth 100000 in
theorem from_any (base bp : Nat) (p : Pl) (u : Int) (w : World) (h : PlOk w base bp p) (hs : p.ids.Pairwise (· < ·)) (hg : p.Good) (hu : u ∈ p.ids) :
    Calls Tryz.prog 148 #[.agg #[.pointer (some ⟨bp, 0, none⟩)], .int .i64 u] w fun e w' => ∃ b, e = .returned (.iface 215 (.pointer (some ⟨b, 0, none⟩))) ∧ OIt w.heap.size w'.heap.size w' b (endsN p.ids (p.out.getD (rank p.ids u) [])) 0 ∧ Below w.heap.size w w' := by
  have hb1 : Below w.heap.size w (w.alloc (.cells #[.pointer (some ⟨bp, 0, none⟩)] 70)) := (Below.refl _ _).alloc (Nat.le_refl _) _
  have hP1 : PlOk (w.alloc (.cells #[.pointer (some ⟨bp, 0, none⟩)] 70)) base bp p := h.below hb1
  have hd : decide (u ∈ p.ids) = true := decide_eq_true hu
  obtain ⟨hr, _⟩ := (rank_mem hs u).1 hu
  obtain ⟨ro, ri, vi, vn, g, cap, hi', hp, hcb, hce, hfr, hbw, hgw, hbg, hrl⟩ := hP1.open_out (rank p.ids u) hr
  have hn := hg.n
  have HP := Aside0.mk hP1
  have HP2 := Aside0.mk (show PlOk (World.drew (w.alloc (.cells #[.pointer (some ⟨bp, 0, none⟩)] 70))) base bp p from hP1.below ((Below.refl _ _).drew))
  have HROW := Aside0.mk (show (World.drew (w.alloc (.cells #[.pointer (some ⟨bp, 0, none⟩)] 70))).ownsRow base 85 2 ro[rank p.ids u] (p.out.getD (rank p.ids u) []).length (fl (p.out.getD (rank p.ids u) [])) from hp.rows.rowA _ hi')
  obtain ⟨VA, vc, hve⟩ := own_slice HROW.out
  rw [hve] at HROW hce
  have HS := Aside0.mk hs
  have HG := Aside0.mk (hg.out (rank p.ids u))
  have hc1 : (w.alloc (.cells #[.pointer (some ⟨bp, 0, none⟩)] 70)).cell? ⟨w.heap.size, 0, none⟩ = some (.pointer (some ⟨bp, 0, none⟩)) := (blk_cell (heap_alloc_new _ _) 0).trans rfl
  have hx1 : (0 : Int) ≤ ((rank p.ids u : Nat) : Int) := by omega
  have hx2 : ((rank p.ids u : Nat) : Int) < (ro.length : Int) := by omega
  clear h hs hg hu hP1 hp hve
  go_enter Tryz.func148, Tryz.ntmps148
  go_wp2_with (go_at_call 50; refine (pl_index base bp p _ _ HP.out HS.out hn).mono ?_; rintro e w1 ⟨rfl, rfl⟩; rw [hd])
  go_region_held3 (fun w' => w'.cell? ⟨w.heap.size, 0, none⟩ = some (.pointer (some ⟨bp, 0, none⟩)) ∧ w'.cell? ⟨bp, 1, none⟩ = some (.slice (some ⟨g, 0, none⟩) ro.length cap) ∧ w'.cell? ⟨g, rank p.ids u, none⟩ = some (.slice VA (p.out.getD (rank p.ids u) []).length vc))
    (first | (exact ⟨(hbel.cell (p := ⟨w.heap.size, 0, none⟩) (by simp)).trans hc1, (hbel.cell (p := ⟨bp, 1, none⟩) hbw).trans hcb, (hbel.cell (p := ⟨g, rank p.ids u, none⟩) hgw).trans hce⟩) | go_keep)
    (first
      | (go_at_call 155; refine (ends_any base bp base p _ (p.out.getD (rank p.ids u) []) _ HP2.out HROW.out hn (Nat.le_trans HG.out.len hn) HG.out.2).mono ?_; rintro e w2 ⟨b, rfl, hit, hbel⟩; have HIT := Aside0.mk hit; have HBEL := Aside0.mk hbel; clear hit))
  all_goals
    go_wp2
    go_ret
    have hz : w.heap.size ≤ (World.drew (w.alloc (.cells #[.pointer (some ⟨bp, 0, none⟩)] 70))).heap.size := by simp
    exact ⟨b, rfl, HIT.out.wide hz (Nat.le_refl _), (show Below w.heap.size w (World.drew (w.alloc (.cells #[.pointer (some ⟨bp, 0, none⟩)] 70))) from hb1.drew).trans (HBEL.out.mono hz)⟩

end Go.Proofs.YthkmblgehdofmaaGreat.R


/- Nodes and From of a graph without directions. -/
namespace Go.Proofs.YthkmblgehdofmaaGreat.R
open Go.RowKit Go.Lab Go.Maps Go.Proofs.YthkmblgehdofmaaGreatW.PrintWords Go.Proofs.YthkmblgehdofmaaGreatW.PrintLast Go.Proofs.YthkmblgehdofmaaGreatW.PrintMore PL

set_option maxHeartbeats 1000000 in
theorem nodes_any (base bp : Nat) (p : Pl) (w : World) (h : PlOk w base bp p) (hn : p.ids.length ≤ 1000) :
    Calls Tryz.prog 151 #[.agg #[.pointer (some ⟨bp, 0, none⟩)]] w fun e w' => ∃ b, e = .returned (.iface 215 (.pointer (some ⟨b, 0, none⟩))) ∧ OIt w.heap.size w'.heap.size w' b p.ids 0 ∧ Below w.heap.size w w' := by
  have hb1 : Below w.heap.size w (w.alloc (.cells #[.pointer (some ⟨bp, 0, none⟩)] 70)) := (Below.refl _ _).alloc (Nat.le_refl _) _
  have HP := Aside0.mk (h.below hb1)
  clear h
  go_enter Tryz.func151, Tryz.ntmps151
  go_wp2_with (go_at_call 157; refine (all_any base bp p _ HP.out hn).mono ?_; rintro e w2 ⟨b, rfl, hit, hbel⟩; have HIT := Aside0.mk hit; have HBEL := Aside0.mk hbel; clear hit hbel)
  go_ret
  exact ⟨b, rfl, HIT.out.wide (by simp) (Nat.le_refl _), hb1.trans (HBEL.out.mono (by simp))⟩

end Go.Proofs.YthkmblgehdofmaaGreat.R



/- Edge and Weight of a directed plain graph. -/
namespace Go.Proofs.YthkmblgehdofmaaGreat.R
open Go.RowKit Go.Lab Go.Maps Go.Proofs.YthkmblgehdofmaaGreatW.PrintWords Go.Proofs.YthkmblgehdofmaaGreatW.PrintLast Go.Proofs.YthkmblgehdofmaaGreatW.PrintMore PL

end Go.Proofs.YthkmblgehdofmaaGreat.R


/- From and Edge of a plain graph of either kind, exactly. -/
namespace Go.Proofs.YthkmblgehdofmaaGreat.R
open Go.RowKit Go.Lab Go.Maps Go.Proofs.YthkmblgehdofmaaGreatW.PrintWords Go.Proofs.YthkmblgehdofmaaGreatW.PrintLast Go.Proofs.YthkmblgehdofmaaGreatW.PrintMore PL

/-- the arcs of a graph: those of an undirected one both ways -/
def dbl (d : Bool) (es : List S29) : List S29 := if d = true then es else es.flatMap fun e => [e, ⟨e.f1, e.f0, e.f2⟩]
/-- a plain graph in memory, by its arcs -/
structure GrOk (w : World) (base bp : Nat) (zs : List Int) (es : List S29) (p : Pl) : Prop where
  ok : PlOk w base bp p
  good : p.Good
  adj : Adj zs es p
  hs : (srt zs).Pairwise (· < ·)
  hn : zs.length ≤ 1000
theorem GrOk.below {w w1 : World} {base bp : Nat} {zs : List Int} {es : List S29} {p : Pl} (h : GrOk w base bp zs es p) (hb : Below w.heap.size w w1) : GrOk w1 base bp zs es p := ⟨h.ok.below hb, h.good, h.adj, h.hs, h.hn⟩
theorem GrOk.sorted {w : World} {base bp : Nat} {zs : List Int} {es : List S29} {p : Pl} (h : GrOk w base bp zs es p) : p.ids.Pairwise (· < ·) := by rw [h.adj.ids]; exact h.hs

end Go.Proofs.YthkmblgehdofmaaGreat.R


namespace Go.Proofs.YthkmblgehdofmaaGreat.Q
open Go.RowKit Go.Lab Go.Proofs.YthkmblgehdofmaaGreatW.PrintWords Go.Proofs.YthkmblgehdofmaaGreatW.PrintLast Go.Proofs.YthkmblgehdofmaaGreatW.PrintMore

open Go.Sort in
theorem putCells_take (cur : Array Value) (n : Nat) (ys : List Int) (hl : ys.length = n) (hn : n ≤ cur.size) : (putCells (Value.int .i64) 0 ys.toArray cur).toList.take n = nums .i64 ys := by
  apply List.ext_getElem?
  intro j
  rw [List.getElem?_take]
  by_cases hj : j < n
  · rw [if_pos hj, Array.getElem?_toList]
    unfold putCells nums
    rw [Array.getElem?_mapIdx, Array.getElem?_eq_getElem (by omega), List.getElem?_map, List.getElem?_eq_getElem (by omega)]
    have : j < ys.toArray.size := by simp; omega
    simp only [Option.map_some, Nat.zero_le, true_and, Nat.zero_add, Nat.sub_zero]
    rw [if_pos this, getElem!_pos ys.toArray j this]
    simp
  · rw [if_neg hj, List.getElem?_eq_none (by rw [nums_length]; omega)]

open Go.Sort in
theorem sort_own (base : Nat) (v : Value) (xs : List Int) (w : World) (h : w.ownsRow base 3 1 v xs.length (nums .i64 xs)) (hb : xs.length ≤ 100000) :
    Calls Tryz.prog 43 #[v] w fun e w' => e = .returned (.tuple #[]) ∧ w'.ownsRow base 3 1 v xs.length (nums .i64 (srt xs)) ∧ w.grownBy w' v.ownBlock := by
  by_cases h0 : xs.length = 0
  · have hx : xs = [] := List.eq_nil_of_length_eq_zero h0
    subst hx
    obtain ⟨A, c, rfl⟩ := own_slice h
    refine (Tryz.slices_Sort_int_none A c w).mono ?_
    rintro e w' ⟨rfl, rfl⟩
    exact ⟨rfl, (by simpa [srt] using h), ⟨rfl, rfl, rfl, Nat.le_refl _, fun _ _ _ => rfl⟩⟩
  · rcases h.2 with ⟨_, hn⟩ | ⟨g, cap, cur, rfl, hb1, hg, hc1, hc2, hcs, htk⟩
    · exact absurd hn h0
    · have hH : Holds (Value.int .i64) w g 0 xs.toArray := by
        intro j hj
        have hj' : j < xs.length := by simpa using hj
        refine ⟨?_, blk_frozen hg _⟩
        rw [Nat.zero_add, blk_cell hg]
        have h1 : (cur.toList.take (xs.length * 1))[j]? = some (.int .i64 xs[j]) := by rw [htk]; simp [nums, hj']
        rw [List.getElem?_take] at h1
        split at h1
        · rw [getElem!_pos xs.toArray j (by simpa using hj)]
          simpa using h1
        · cases h1
      refine (Tryz.slices_Sort_int g 0 cap xs w hH (blk_lt hg) (by omega)).mono ?_
      rintro e w' ⟨rfl, n, os, rfl⟩
      have hgl : g < w.heap.size := blk_lt hg
      have hh : (grow (putRow (Value.int .i64) (Go.Sort.ahead w n) g 0 (xs.mergeSort fun x y => decide (x ≤ y)).toArray) os).heap[g]? = some (.cells (putCells (Value.int .i64) 0 (srt xs).toArray cur) 3 (0, 0)) := by
        have hsz : (putRow (Value.int .i64) (Go.Sort.ahead w n) g 0 (xs.mergeSort fun x y => decide (x ≤ y)).toArray).heap.size = w.heap.size := by simp [putRow, mapBlock, Go.Sort.ahead]
        rw [heap_grow_old _ _ (by rw [hsz]; exact hgl)]
        unfold putRow mapBlock
        have : (Go.Sort.ahead w n).heap = w.heap := rfl
        simp only [this, Array.getElem?_modify, if_true]
        rw [hg]
        rfl
      have hsl : (putCells (Value.int .i64) 0 (srt xs).toArray cur).size = cur.size := by simp [putCells]
      refine ⟨rfl, ⟨by rw [nums_length, srt_length]; omega, .inr ⟨g, cap, _, rfl, hb1, hh, hc1, hc2, by rw [hsl]; exact hcs, ?_⟩⟩, ⟨rfl, rfl, rfl, ?_, fun k hk hne => ?_⟩⟩
      · rw [Nat.mul_one]
        exact putCells_take cur xs.length (srt xs) (srt_length xs) (by rw [hcs]; omega)
      · simp [grow, putRow, mapBlock, Go.Sort.ahead]
      · have hkg : k ≠ g := fun e => hne (by simp [Value.ownBlock, e])
        have hsz : (putRow (Value.int .i64) (Go.Sort.ahead w n) g 0 (xs.mergeSort fun x y => decide (x ≤ y)).toArray).heap.size = w.heap.size := by simp [putRow, mapBlock, Go.Sort.ahead]
        rw [heap_grow_old _ _ (by rw [hsz]; exact hk)]
        unfold putRow mapBlock
        have : (Go.Sort.ahead w n).heap = w.heap := rfl
        simp only [this, Array.getElem?_modify]
        rw [if_neg (Ne.symm hkg)]

end Go.Proofs.YthkmblgehdofmaaGreat.Q


/- impl.number; impl.iterated over both kinds of iterators. -/
namespace Go.Proofs.YthkmblgehdofmaaGreat.R
open Go.RowKit Go.Lab Go.Maps Go.Proofs.YthkmblgehdofmaaGreatW.PrintWords Go.Proofs.YthkmblgehdofmaaGreatW.PrintLast Go.Proofs.YthkmblgehdofmaaGreatW.PrintMore PL

end Go.Proofs.YthkmblgehdofmaaGreat.R



/- ordered (as the printer printed it for an elder seat). -/
namespace Go.Proofs.YthkmblgehdofmaaGreat.PL
open Go.RowKit Go.Proofs.YthkmblgehdofmaaGreatW.PrintWords Go.Proofs.YthkmblgehdofmaaGreatW.PrintLast Go.Proofs.YthkmblgehdofmaaGreatW.PrintMore
/-! ### impl_ordered: function 111 -/
end Go.Proofs.YthkmblgehdofmaaGreat.PL


/- What free makes: whether an edge may be gone. -/
namespace Go.Proofs.YthkmblgehdofmaaGreat.R
open Go.RowKit Go.Lab Go.Maps Go.Proofs.YthkmblgehdofmaaGreatW.PrintWords Go.Proofs.YthkmblgehdofmaaGreatW.PrintLast Go.Proofs.YthkmblgehdofmaaGreatW.PrintMore PL

theorem below_cellOf {w w' : World} {a : Addr} {v : Value} (h : Below w.heap.size w w') (hc : w.cell? a = some v) : w'.cell? a = some v := by
  rw [h.cell (World.block_lt_of_cell? w a hc)]; exact hc
end Go.Proofs.YthkmblgehdofmaaGreat.R


/- A law of no program: append of whatever slice is read, the nil one too, onto a row of the call's own. -/
namespace Go.Lab
open Go.RowKit

end Go.Lab


/- A set of nodes, a stack of nodes. -/
namespace Go.Proofs.YthkmblgehdofmaaGreat.R
open Go.RowKit Go.Lab Go.Maps Go.Proofs.YthkmblgehdofmaaGreatW.PrintWords Go.Proofs.YthkmblgehdofmaaGreatW.PrintLast Go.Proofs.YthkmblgehdofmaaGreatW.PrintMore PL

theorem lawS2 : Keyed Tryz.prog 2 := int_keyed Tryz.underlying2
/-- block gm is a set of just these numbers -/
structure SetOk (w : World) (gm : Nat) (vis : List Int) : Prop where
  ex : ∃ (n : Nat) (D : DataW Unit), w.ownsMap Tryz.prog 2 unitElem gm n D ∧ n ≤ vis.length ∧ ∀ x, Maps.has D (.int .i64 x) = decide (x ∈ vis)
theorem SetOk.lt {w : World} {gm : Nat} {vis : List Int} (h : SetOk w gm vis) : gm < w.heap.size := by
  obtain ⟨n, D, h1, _, _⟩ := h.ex
  exact h1.lt
theorem SetOk.stay {w w1 : World} {gm : Nat} {vis : List Int} (h : SetOk w gm vis) (hm : w1.heap[gm]? = w.heap[gm]?) : SetOk w1 gm vis := by
  obtain ⟨n, D, ⟨es, clock, hb, hr⟩, h2, h3⟩ := h.ex
  exact ⟨n, D, ⟨es, clock, hm.trans hb, hr⟩, h2, h3⟩
theorem SetOk.made (w : World) : SetOk (w.alloc (.map #[] 0)) w.heap.size [] :=
  ⟨0, .map [], World.ownsMap_made _ _ _ _, Nat.le_refl _, fun x => by simp [Maps.has]⟩

set_option maxHeartbeats 1000000 in
theorem add_any (gm : Nat) (vis : List Int) (x : Int) (w : World) (h : SetOk w gm vis) (hw : (Lit.int .i64 x).wf = true) (hl : vis.length ≤ 10000000) :
    Calls Tryz.prog 108 #[.map (some gm), .int .i64 x] w fun e w' => e = .returned (.tuple #[]) ∧ SetOk w' gm (vis ++ [x]) ∧ w.grownBy w' (some gm) := by
  obtain ⟨n, D, hown, hn, hh⟩ := h.ex
  have hkey : keyOf Tryz.prog 2 (.int .i64 x) = some (.int .i64 x) := keyOf_int_mk Tryz.underlying2 hw
  have HH := Aside0.mk hh
  have HM := Aside0.mk hown.isMap
  clear hh
  go_enter Tryz.func108, Tryz.ntmps108
  go_wp2_with (at_mapUpdate; refine wpList_mapUpdate_own _ rfl _ _ _ 174 rfl 2 191 lawS2 Tryz.underlying174 (unitElem (H := Unit)) gm n D rfl hown (by unfold maxLen; omega) _ _ _ rfl rfl hkey _ [] unitElem_mk ?_; intro w1 hown1 hgrow1; have HG := Aside0.mk (And.intro hown1 hgrow1); clear hown1 hgrow1)
  go_end0
  refine ⟨rfl, ⟨n + 1, _, HG.out.1, by simp; omega, fun y => ?_⟩, HG.out.2⟩
  by_cases hy : y = x
  · subst hy
    rw [Maps.has_put_same HM.out (show WideAt.IsKeyLit (.int .i64 y) from trivial)]; simp
  · rw [Maps.has_put_other (fun e => hy (by injection e)), HH.out y]
    simp [hy]

theorem nodeVs_append (a b : List Int) : nodeVs (a ++ b) = nodeVs a ++ nodeVs b := by unfold nodeVs; simp
theorem nodeVs_len (a : List Int) : (nodeVs a).length = a.length := by unfold nodeVs; simp
theorem grown_set (w : World) (g i : Nat) (v : Value) : w.grownBy (w.setCell ⟨g, i, none⟩ v) (some g) :=
  ⟨rfl, rfl, rfl, by simp, fun k hk hn => Below.heap_setCell _ _ _ _ (fun e => hn (by rw [e]))⟩
/-- the beginning of a row -/
theorem own_cut {w : World} {base : Nat} {e : TypeId} {g n cap m : Nat} {xs : List Value} (h : w.ownsRow base e 1 (.slice (some ⟨g, 0, none⟩) n cap) n xs) (hm : m ≤ n) : w.ownsRow base e 1 (.slice (some ⟨g, 0, none⟩) m cap) m (xs.take m) := by
  obtain ⟨h1, h2⟩ := h
  rcases h2 with ⟨hv, _⟩ | ⟨g', cap', cur, hv, h3, h4, h5, h6, h7, h8⟩
  · cases hv
  · simp only [Value.slice.injEq, Option.some.injEq, Addr.mk.injEq] at hv
    obtain ⟨⟨rfl, _⟩, _, rfl⟩ := hv
    refine ⟨by rw [List.length_take]; omega, .inr ⟨g, cap, cur, rfl, h3, h4, by omega, h6, h7, ?_⟩⟩
    rw [← h8, List.take_take]
    congr 1
    omega
theorem own_cells {w : World} {base : Nat} {e : TypeId} {v : Value} {n : Nat} {xs : List Value} (h : w.ownsRow base e 1 v n xs) (h0 : 0 < n) : ∃ g c, v = .slice (some ⟨g, 0, none⟩) n c ∧ n ≤ c ∧ (∀ j u, xs[j]? = some u → w.cell? ⟨g, j, none⟩ = some u) ∧ (∃ cur, w.heap[g]? = some (.cells cur e (0, 0))) := by
  have hc := h
  rcases h.2 with ⟨_, h2⟩ | ⟨g, cap, cur, rfl, h3, h4, h5, h6, h7, h8⟩
  · omega
  · refine ⟨g, cap, rfl, h5, fun j u hu => ?_, cur, h4⟩
    have := hc.cells (g := g) rfl j u hu
    have hadd : (⟨g, 0, none⟩ : Addr).add j = ⟨g, j, none⟩ := by unfold Addr.add; split <;> simp_all
    rwa [hadd] at this

end Go.Proofs.YthkmblgehdofmaaGreat.R


/- Maps keyed by int64 whose elements are any values: a block's keys and its function. -/
namespace Go.MV
open Go Go.Maps Go.RowKit

/-- an element reads as itself -/
def anyElem (v : Value) : Option (DataW Value × List MemPlace) := some (.held v, [])
/-- block gm is a map with the keys ks, and f x at each -/
structure MapV (P : Program) (k : TypeId) (w : World) (gm : Nat) (ks : List Int) (f : Int → Value) : Prop where
  ex : ∃ D : DataW Value, w.ownsMap P k anyElem gm ks.length D ∧ Maps.size D = ks.length ∧ (∀ x, Maps.has D (.int .i64 x) = decide (x ∈ ks)) ∧ ∀ x ∈ ks, ∀ z, D.atKey (.int .i64 x) z = .held (f x)
  nd : ks.Nodup
def updV (f : Int → Value) (x : Int) (v : Value) : Int → Value := fun y => if y = x then v else f y
theorem updV_eq (f : Int → Value) (x : Int) (v : Value) : updV f x v x = v := by simp [updV]
theorem updV_ne {f : Int → Value} {x y : Int} {v : Value} (h : y ≠ x) : updV f x v y = f y := by simp [updV, h]
def addK (ks : List Int) (x : Int) : List Int := if x ∈ ks then ks else ks ++ [x]
theorem mem_addK {ks : List Int} {x y : Int} : y ∈ addK ks x ↔ y ∈ ks ∨ y = x := by
  unfold addK
  by_cases h : x ∈ ks
  · rw [if_pos h]; exact ⟨.inl, fun e => e.elim id (fun e => e ▸ h)⟩
  · rw [if_neg h]; simp
theorem addK_nodup {ks : List Int} {x : Int} (h : ks.Nodup) : (addK ks x).Nodup := by
  unfold addK
  by_cases hx : x ∈ ks
  · rw [if_pos hx]; exact h
  · rw [if_neg hx]
    exact List.nodup_append.2 ⟨h, by simp, fun a ha b hb e => hx (by rw [← List.mem_singleton.1 hb, ← e]; exact ha)⟩

section
variable {P : Program} {k e t : TypeId} {w w1 : World} {gm : Nat} {ks : List Int} {f : Int → Value}
theorem ownsMap_at_most {R : Value → Option (DataW Value × List MemPlace)} {b n m : Nat} {D : DataW Value} (h : w.ownsMap P k R b n D) (hm : Maps.size D ≤ m) : w.ownsMap P k R b m D := by
  obtain ⟨es, clock, hb, F, hs, rfl⟩ := h
  exact ⟨es, clock, hb, F, by simpa [Maps.size, length_sorted] using hm, rfl⟩
theorem MapV.lt (h : MapV P k w gm ks f) : gm < w.heap.size := by
  obtain ⟨D, h1, _⟩ := h.ex
  exact h1.lt
theorem MapV.stay (h : MapV P k w gm ks f) (hm : w1.heap[gm]? = w.heap[gm]?) : MapV P k w1 gm ks f := by
  obtain ⟨D, ⟨es, clock, hb, hr⟩, h2⟩ := h.ex
  exact ⟨⟨D, ⟨es, clock, hm.trans hb, hr⟩, h2⟩, h.nd⟩
theorem MapV.made (w : World) (f : Int → Value) : MapV P k (w.alloc (.map #[] 0)) w.heap.size [] f :=
  ⟨⟨.map [], World.ownsMap_made _ _ _ _, rfl, fun x => by simp [Maps.has], fun x hx => absurd hx List.not_mem_nil⟩, List.nodup_nil⟩
theorem MapV.cells_ne (h : MapV P k w gm ks f) {j : Nat} {c : Array Value} {t : TypeId} (hk : w.heap[j]? = some (.cells c t (0, 0))) : j ≠ gm := fun e => by
  obtain ⟨D, ⟨es, clock, hb, _⟩, _⟩ := h.ex
  rw [e, hb] at hk
  cases hk
theorem MapV.congr {f' : Int → Value} (h : MapV P k w gm ks f) (hf : ∀ x ∈ ks, f x = f' x) : MapV P k w gm ks f' := by
  obtain ⟨D, h1, h2, h3, h4⟩ := h.ex
  exact ⟨⟨D, h1, h2, h3, fun x hx z => by rw [h4 x hx z, hf x hx]⟩, h.nd⟩
variable (hk : P.underlying k = some (.int .i64))
include hk
/-- what stands at a key, or the zero value -/
theorem MapV.look (h : MapV P k w gm ks f) (ht : P.underlying t = some (.map k e)) {z : Value} (hz : (zeroValue e).run P w = .ok z w) {x : Int} (hw : (Lit.int .i64 x).wf = true) :
    (Instr.lookup t (.map (some gm)) (.int .i64 x) false).run P w = .ok (if x ∈ ks then f x else z) w := by
  obtain ⟨D, hown, _, hhas, hat⟩ := h.ex
  obtain ⟨v, ps, hrun, hv⟩ := hown.lookup (int_keyed hk) ht hz (zd := .held z) (zp := []) rfl (keyOf_int_mk hk hw)
  unfold anyElem at hv
  simp only [Option.some.injEq, Prod.mk.injEq] at hv
  by_cases hx : x ∈ ks
  · rw [hat x hx] at hv
    rw [if_pos hx, hrun, DataW.held.inj hv.1]
  · rw [Maps.atKey_of_not_has (by rw [hhas x]; exact decide_eq_false hx)] at hv
    rw [if_neg hx, hrun, DataW.held.inj hv.1]
theorem MapV.look_ok (h : MapV P k w gm ks f) (ht : P.underlying t = some (.map k e)) {z : Value} (hz : (zeroValue e).run P w = .ok z w) {x : Int} (hw : (Lit.int .i64 x).wf = true) :
    (Instr.lookup t (.map (some gm)) (.int .i64 x) true).run P w = .ok (.tuple #[if x ∈ ks then f x else z, .bool (decide (x ∈ ks))]) w := by
  obtain ⟨D, hown, _, hhas, hat⟩ := h.ex
  obtain ⟨v, ps, hrun, hv⟩ := hown.look_ok (int_keyed hk) ht hz (zd := .held z) (zp := []) rfl (keyOf_int_mk hk hw)
  unfold anyElem at hv
  simp only [Option.some.injEq, Prod.mk.injEq] at hv
  rw [hhas x] at hrun
  by_cases hx : x ∈ ks
  · rw [hat x hx] at hv
    rw [if_pos hx, hrun, DataW.held.inj hv.1]
  · rw [Maps.atKey_of_not_has (by rw [hhas x]; exact decide_eq_false hx)] at hv
    rw [if_neg hx, hrun, DataW.held.inj hv.1]
omit hk in
theorem MapV.len (h : MapV P k w gm ks f) (ht : P.underlying t = some (.map k e)) (ty : TypeId) : (Builtin.len_ #[t] ty #[.map (some gm)]).run P w = .ok (.int .i64 (ks.length : Int)) w := by
  obtain ⟨D, hown, hsz, _⟩ := h.ex
  rw [← hsz]
  exact hown.len ht ty
theorem MapV.put (h : MapV P k w gm ks f) (ht : P.underlying t = some (.map k e)) {x : Int} (hw : (Lit.int .i64 x).wf = true) (v : Value) (hn : ks.length < 100000) :
    ∃ w', (Instr.mapUpdate t (.map (some gm)) (.int .i64 x) v).run P w = .ok () w' ∧ MapV P k w' gm (addK ks x) (updV f x v) ∧ w.grownBy w' (some gm) := by
  obtain ⟨D, hown, hsz, hhas, hat⟩ := h.ex
  have hD := hown.isMap
  have hT := hown.tidy (int_keyed hk)
  obtain ⟨w', hrun, hown', hg⟩ := hown.update (int_keyed hk) ht (by unfold maxLen; omega) (keyOf_int_mk hk hw) (val := v) (d := .held v) (ps := []) rfl
  have hs : Maps.size (D.put (.int .i64 x) (.held v)) = (addK ks x).length := by
    rw [Maps.size_put hT, hhas x, hsz]
    unfold addK
    by_cases hx : x ∈ ks
    · rw [if_pos (decide_eq_true hx), if_pos hx]
    · rw [if_neg (by simp [hx]), if_neg hx]; simp
  refine ⟨w', hrun, ⟨⟨D.put (.int .i64 x) (.held v), ownsMap_at_most hown' (by rw [hs]; exact Nat.le_refl _), hs, fun y => ?_, fun y hy z => ?_⟩, addK_nodup h.nd⟩, hg⟩
  · by_cases e : y = x
    · subst e
      rw [Maps.has_put_same hD (show WideAt.IsKeyLit (.int .i64 y) from trivial)]
      exact (decide_eq_true (mem_addK.2 (.inr rfl))).symm
    · rw [Maps.has_put_other (fun e2 => e (by injection e2)), hhas y, decide_eq_decide, mem_addK]
      simp [e]
  · by_cases e : y = x
    · subst e
      rw [Maps.atKey_put_same hD (show WideAt.IsKeyLit (.int .i64 y) from trivial), updV_eq]
    · rw [Maps.atKey_put_other (fun e2 => e (by injection e2)), updV_ne e]
      exact hat y ((mem_addK.1 hy).resolve_right e) z
end

/-- block r goes over the map gm: done came, n are left -/
structure MapR (P : Program) (k : TypeId) (w : World) (gm r : Nat) (ks : List Int) (f : Int → Value) (done : List Int) (n : Nat) : Prop where
  ex : ∃ (D : DataW Value) (left : Lit → Bool), w.ranges P k anyElem gm r ks.length D left n ∧ Maps.size D = ks.length ∧ (∀ x, Maps.has D (.int .i64 x) = decide (x ∈ ks)) ∧ (∀ x ∈ ks, ∀ z, D.atKey (.int .i64 x) z = .held (f x)) ∧ (∀ x, left (.int .i64 x) = decide (x ∈ ks ∧ x ∉ done))
  nd : ks.Nodup
  dn : done.Nodup
  sub : ∀ x ∈ done, x ∈ ks
section
variable {P : Program} {k e t : TypeId} {w w1 : World} {gm r n : Nat} {ks done : List Int} {f : Int → Value}
theorem MapR.map (h : MapR P k w gm r ks f done n) : MapV P k w gm ks f := by
  obtain ⟨D, left, h1, h2, h3, h4, _⟩ := h.ex
  exact ⟨⟨D, h1.owns, h2, h3, h4⟩, h.nd⟩
theorem MapR.ne (h : MapR P k w gm r ks f done n) : r ≠ gm := by
  obtain ⟨D, left, h1, _⟩ := h.ex
  exact h1.ne
theorem MapR.lt (h : MapR P k w gm r ks f done n) : r < w.heap.size := by
  obtain ⟨D, left, h1, _⟩ := h.ex
  exact h1.lt
theorem MapR.stay (h : MapR P k w gm r ks f done n) (hm : w1.heap[gm]? = w.heap[gm]?) (hr : w1.heap[r]? = w.heap[r]?) : MapR P k w1 gm r ks f done n := by
  obtain ⟨D, left, ⟨es, clock, since, seen, c0, a1, a2, a3, a4, a5, a6⟩, h2⟩ := h.ex
  exact ⟨⟨D, left, ⟨es, clock, since, seen, c0, hm.trans a1, a2, a3, a4, hr.trans a5, a6⟩, h2⟩, h.nd, h.dn, h.sub⟩
theorem MapR.cells_ne (h : MapR P k w gm r ks f done n) {j : Nat} {c : Array Value} {t : TypeId} (hk : w.heap[j]? = some (.cells c t (0, 0))) : j ≠ r := fun e => by
  obtain ⟨D, left, ⟨es, clock, since, seen, c0, a1, a2, a3, a4, a5, a6⟩, h2⟩ := h.ex
  rw [e, a5] at hk
  cases hk
theorem MapR.left_eq (h : MapR P k w gm r ks f done n) : w.rangeLeft gm r = n := by
  obtain ⟨D, left, h1, _⟩ := h.ex
  exact h1.left_eq
variable {ops : Array Oper} {rest : List Oper} {o : Oper} {a : Act} {Q : Exit → Act → World → Prop}
theorem wpList_range_mapV (hk : P.underlying k = some (.int .i64)) (hg : o.guard = none) (m : Operand) (hop : o.op = Op.range t m) (ht : P.underlying t = some (.map k e)) (hm : a.eval m = .map (some gm)) (h : MapV P k w gm ks f)
    (hK : ∀ w', MapR P k w' gm w.heap.size ks f [] ks.length → w.grownBy w' none → w'.heap.size = w.heap.size + 1 → wpList P ops Q rest (a.put o.dst (.pointer (some ⟨w.heap.size, 0, none⟩))) w') :
    wpList P ops Q (o :: rest) a w := by
  obtain ⟨D, hown, hsz, hhas, hat⟩ := h.ex
  refine wpList_range_own w hg m t hop k e (int_keyed hk) ht anyElem gm ks.length D hm hown (fun w' h1 h2 h3 => hK w' ?_ h2 h3)
  rw [hsz] at h1
  exact ⟨⟨D, Maps.has D, h1, hsz, hhas, hat, fun x => by rw [hhas x, decide_eq_decide]; simp⟩, h.nd, List.nodup_nil, fun x hx => absurd hx List.not_mem_nil⟩
theorem wpList_next_mapV (hk : P.underlying k = some (.int .i64)) (hg : o.guard = none) (it : Operand) (hop : o.op = Op.next it false) (hit : a.eval it = .pointer (some ⟨r, 0, none⟩)) (h : MapR P k w gm r ks f done n)
    (hDone : done.Perm ks → wpList P ops Q rest (a.put o.dst (.tuple #[.bool false])) w)
    (hMore : ∀ (x : Int) (w' : World) (n' : Nat), x ∈ ks → x ∉ done → (Lit.int .i64 x).wf = true → MapR P k w' gm r ks f (done ++ [x]) n' → n' < n →
      w.grownBy w' (some r) → w'.heap.size = w.heap.size → (Instr.entry (.pointer (some ⟨r, 0, none⟩))).run P w' = .ok (.tuple #[.int .i64 x, f x]) w' → wpList P ops Q rest (a.put o.dst (.tuple #[.bool true, .int .i64 x, f x])) w') :
    wpList P ops Q (o :: rest) a w := by
  obtain ⟨D, left, hrg, hsz, hhas, hat, hleft⟩ := h.ex
  refine wpList_next_ranges w hg it hop k (int_keyed hk) anyElem (Value.int .i64) id (fun key kl hkey => by obtain ⟨x, rfl, _⟩ := Maps.keyOf_int_inv hk hkey; exact ⟨x, rfl⟩) (fun v y hv => ⟨v, rfl⟩) gm r ks.length D left n hit hrg ?_ ?_
  · intro h0 hl
    refine hDone ?_
    refine (List.perm_ext_iff_of_nodup h.dn h.nd).2 fun x => ⟨h.sub x, fun hx => ?_⟩
    have := hl (.int .i64 x)
    rw [hleft x, decide_eq_false_iff_not] at this
    exact Classical.byContradiction fun hn => this ⟨hx, hn⟩
  · intro x c kl y w' cnt' hkey hlk hv hatk hrg' hlt hgr hsz' hen
    obtain ⟨x', ex, rfl, hwx⟩ := Maps.keyOf_int_inv hk hkey
    cases ex
    rw [hleft x, decide_eq_true_iff] at hlk
    unfold anyElem at hv
    simp only [Option.some.injEq] at hv
    have hc : c = f x := by
      have h1 := hatk (.held c)
      rw [hat x hlk.1, ← hv] at h1
      exact (DataW.held.inj h1).symm
    subst hc
    refine hMore x w' cnt' hlk.1 hlk.2 hwx ⟨⟨D, _, hrg', hsz, hhas, hat, fun z => ?_⟩, h.nd, List.nodup_append.2 ⟨h.dn, by simp, fun a ha b hb e => hlk.2 (by rw [← List.mem_singleton.1 hb, ← e]; exact ha)⟩, fun z hz => ?_⟩ hlt hgr hsz' hen
    · rw [hleft z]
      by_cases e : z = x
      · subst e
        rw [WideAt.sameKey_self (show WideAt.IsKeyLit (.int .i64 z) from trivial)]
        simp
      · rw [Maps.sameKey_ne (fun e2 => e (by injection e2))]
        simp [e]
    · rcases List.mem_append.1 hz with hz | hz
      · exact h.sub z hz
      · rw [List.mem_singleton.1 hz]; exact hlk.1
end
end Go.MV

/- Sets of numbers in use: uid.Set. -/
namespace Go.Proofs.YthkmblgehdofmaaGreat.R
open Go.RowKit Go.Lab Go.Maps Go.MV Go.Proofs.YthkmblgehdofmaaGreatW.PrintWords Go.Proofs.YthkmblgehdofmaaGreatW.PrintLast Go.Proofs.YthkmblgehdofmaaGreatW.PrintMore

/-- blocks other than those of M stay -/
structure KeepF (M : Nat → Prop) (w w' : World) : Prop where
  os : w'.os = w.os
  tape : w'.tape = w.tape
  output : w'.output = w.output
  size : w.heap.size ≤ w'.heap.size
  block : ∀ k, k < w.heap.size → ¬ M k → w'.heap[k]? = w.heap[k]?
theorem KeepF.refl (M : Nat → Prop) (w : World) : KeepF M w w := ⟨rfl, rfl, rfl, Nat.le_refl _, fun _ _ _ => rfl⟩
theorem KeepF.trans {M : Nat → Prop} {a b c : World} (h : KeepF M a b) (k : KeepF M b c) : KeepF M a c :=
  ⟨k.os.trans h.os, k.tape.trans h.tape, k.output.trans h.output, Nat.le_trans h.size k.size, fun i hi ho => (k.block i (Nat.lt_of_lt_of_le hi h.size) ho).trans (h.block i hi ho)⟩
theorem KeepF.of_grown {M : Nat → Prop} {w w' : World} {o : Option Nat} (h : w.grownBy w' o) (hm : ∀ k, o = some k → M k) : KeepF M w w' := by
  obtain ⟨h1, h2, h3, h4, h5⟩ := h
  exact ⟨h1, h2, h3, h4, fun k hk hn => h5 k hk (fun e => hn (hm k e.symm))⟩
theorem KeepF.of_below {M : Nat → Prop} {w w' : World} (h : Below w.heap.size w w') : KeepF M w w' := ⟨h.os, h.tape, h.output, h.size, fun k hk _ => h.block k hk⟩
theorem KeepF.below {M : Nat → Prop} {w w' : World} (h : KeepF M w w') {B : Nat} (hB : B ≤ w.heap.size) (hm : ∀ k, M k → B ≤ k) : Below B w w' :=
  ⟨h.os, h.tape, h.output, h.size, fun k hk => h.block k (Nat.lt_of_lt_of_le hk hB) (fun hM => by have := hm k hM; omega)⟩
theorem KeepF.cell {M : Nat → Prop} {w w' : World} (h : KeepF M w w') {a : Addr} {v : Value} (hc : w.cell? a = some v) (hm : ¬ M a.block) : w'.cell? a = some v := by
  rw [World.cell?_of_block (h.block a.block (World.block_lt_of_cell? w a hc) hm)]; exact hc
theorem SetOk.cells_ne {w : World} {gm : Nat} {vis : List Int} (h : SetOk w gm vis) {k : Nat} {c : Array Value} {t : TypeId} (hk : w.heap[k]? = some (.cells c t (0, 0))) : k ≠ gm := fun e => by
  obtain ⟨n, D, ⟨es, clock, hb, _⟩, _⟩ := h.ex
  rw [e, hb] at hk
  cases hk
set_option maxHeartbeats 1000000 in
set_option maxRecDepth 100000 in
/-- what is not in a set is struck from it -/
theorem remove_not (gm : Nat) (vis : List Int) (x : Int) (w : World) (h : SetOk w gm vis) (hw : (Lit.int .i64 x).wf = true) (hx : x ∉ vis) :
    Calls Tryz.prog 109 #[.map (some gm), .int .i64 x] w fun e w' => e = .returned (.tuple #[]) ∧ SetOk w' gm vis ∧ w.grownBy w' (some gm) := by
  obtain ⟨n, D, hown, hn, hh⟩ := h.ex
  have hkey : keyOf Tryz.prog 2 (.int .i64 x) = some (.int .i64 x) := keyOf_int_mk Tryz.underlying2 hw
  have HH := Aside0.mk (And.intro hh hn)
  clear hh hn
  go_enter Tryz.func109, Tryz.ntmps109
  go_wp2_with (at_delete; refine wpList_delete_own _ rfl _ _ 174 2 rfl 191 lawS2 Tryz.underlying174 (unitElem (H := Unit)) gm n D rfl hown _ _ rfl hkey ?_; intro w1 hown1 hturn1; have HG := Aside0.mk (And.intro hown1 hturn1); clear hown1 hturn1)
  go_end0
  have hd := Maps.del_of_not_has (D := D) (k := .int .i64 x) (by rw [HH.out.1 x]; exact decide_eq_false hx)
  have h1 := HG.out.1
  rw [hd] at h1
  exact ⟨rfl, ⟨n, D, h1, HH.out.2, HH.out.1⟩, World.mapTurned.grown HG.out.2⟩

/-- the numbers of nodes in use -/
structure Uid (lo : Nat) (w : World) (gu gus gfr : Nat) (ns : List Int) : Prop where
  blk : ∃ mx : Int, w.heap[gu]? = some (.cells #[.int .i64 mx, .map (some gus), .map (some gfr)] 176 (0, 0))
  used : SetOk w gus ns
  free : SetOk w gfr []
  ne : gus ≠ gfr
  lo : lo ≤ gu ∧ lo ≤ gus ∧ lo ≤ gfr
theorem Uid.keep {lo : Nat} {w w1 : World} {gu gus gfr : Nat} {ns : List Int} (h : Uid lo w gu gus gfr ns) (h1 : w1.heap[gu]? = w.heap[gu]?) (h2 : w1.heap[gus]? = w.heap[gus]?) (h3 : w1.heap[gfr]? = w.heap[gfr]?) : Uid lo w1 gu gus gfr ns := by
  obtain ⟨mx, hb⟩ := h.blk
  exact ⟨⟨mx, h1.trans hb⟩, h.used.stay h2, h.free.stay h3, h.ne, h.lo⟩

set_option maxHeartbeats 1000000 in
set_option maxRecDepth 100000 in
theorem use_any (lo gu gus gfr : Nat) (ns : List Int) (x : Int) (w : World) (h : Uid lo w gu gus gfr ns) (hw : (Lit.int .i64 x).wf = true) (hl : ns.length ≤ 10000000) :
    Calls Tryz.prog 94 #[.pointer (some ⟨gu, 0, none⟩), .int .i64 x] w fun e w' => e = .returned (.tuple #[]) ∧ Uid lo w' gu gus gfr (ns ++ [x]) ∧ KeepF (fun k => k = gu ∨ k = gus ∨ k = gfr) w w' := by
  obtain ⟨mx, hb⟩ := h.blk
  have n1 : gu ≠ gus := h.used.cells_ne hb
  have n2 : gu ≠ gfr := h.free.cells_ne hb
  have c0 : w.cell? ⟨gu, 0, none⟩ = some (.int .i64 mx) := (blk_cell hb 0).trans rfl
  have c1 : w.cell? ⟨gu, 1, none⟩ = some (.map (some gus)) := (blk_cell hb 1).trans rfl
  have c2 : w.cell? ⟨gu, 2, none⟩ = some (.map (some gfr)) := (blk_cell hb 2).trans rfl
  have HH := Aside0.mk h
  have HB := Aside0.mk hb
  clear h hb
  go_enter Tryz.func94, Tryz.ntmps94
  go_wp2_with (first
    | (go_at_call 108; refine (add_any gus ns x _ HH.out.used hw hl).mono ?_; rintro e w1 ⟨rfl, hs1, hg1⟩; have H1 := Aside0.mk (And.intro hs1 (And.intro (HH.out.free.stay (hg1.block gfr HH.out.free.lt (fun e => HH.out.ne (Option.some.inj e).symm))) (And.intro hg1 ((hg1.block gu (blk_lt HB.out) (fun e => n1 (Option.some.inj e))).trans HB.out)))); have d2 : w1.cell? ⟨gu, 2, none⟩ = some (.map (some gfr)) := (blk_cell H1.out.2.2.2 2).trans rfl; clear hs1 hg1)
    | (go_at_call 109; refine (remove_not gfr [] x _ H1.out.2.1 hw List.not_mem_nil).mono ?_; rintro e w2 ⟨rfl, hs2, hg2⟩; have H2 := Aside0.mk (And.intro (H1.out.1.stay (hg2.block gus H1.out.1.lt (fun e => HH.out.ne (Option.some.inj e)))) (And.intro hs2 (And.intro hg2 ((hg2.block gu (blk_lt H1.out.2.2.2) (fun e => n2 (Option.some.inj e))).trans H1.out.2.2.2)))); have e0 : w2.cell? ⟨gu, 0, none⟩ = some (.int .i64 mx) := (blk_cell H2.out.2.2.2 0).trans rfl; have f0 := blk_frozen H2.out.2.2.2 0; clear hs2 hg2))
  · go_end0
    have hg := grown_set w2 gu 0 (.int .i64 x)
    refine ⟨rfl, ⟨⟨x, blk_put (cs := #[.int .i64 mx, .map (some gus), .map (some gfr)]) H2.out.2.2.2 0 _ rfl⟩, H2.out.1.stay (Below.heap_setCell _ _ _ _ (fun e => n1 e.symm)), H2.out.2.1.stay (Below.heap_setCell _ _ _ _ (fun e => n2 e.symm)), HH.out.ne, HH.out.lo⟩, ?_⟩
    exact ((KeepF.of_grown H1.out.2.2.1 (fun k e => .inr (.inl (Option.some.inj e).symm))).trans (KeepF.of_grown H2.out.2.2.1 (fun k e => .inr (.inr (Option.some.inj e).symm)))).trans (KeepF.of_grown hg (fun k e => .inl (Option.some.inj e).symm))
  · go_end0
    refine ⟨rfl, ⟨⟨mx, H2.out.2.2.2⟩, H2.out.1, H2.out.2.1, HH.out.ne, HH.out.lo⟩, ?_⟩
    exact (KeepF.of_grown H1.out.2.2.1 (fun k e => .inr (.inl (Option.some.inj e).symm))).trans (KeepF.of_grown H2.out.2.2.1 (fun k e => .inr (.inr (Option.some.inj e).symm)))

end Go.Proofs.YthkmblgehdofmaaGreat.R

/- simple.WeightedDirectedGraph: its blocks. -/
namespace Go.Proofs.YthkmblgehdofmaaGreat.R
open Go.RowKit Go.Lab Go.Maps Go.MV Go.Proofs.YthkmblgehdofmaaGreatW.PrintWords Go.Proofs.YthkmblgehdofmaaGreatW.PrintLast Go.Proofs.YthkmblgehdofmaaGreatW.PrintMore

def nV (x : Int) : Value := .iface 71 (.int .i64 x)
def eV (u v : Int) (x : Nat) : Value := .iface 151 (.agg #[.iface 71 (.int .i64 u), .iface 71 (.int .i64 v), .float .f64 x])
def mV (b : Nat) : Value := .map (some b)
def updF {α : Type} (f : Int → α) (x : Int) (v : α) : Int → α := fun y => if y = x then v else f y
theorem updF_eq {α : Type} (f : Int → α) (x : Int) (v : α) : updF f x v x = v := by simp [updF]
theorem updF_ne {α : Type} {f : Int → α} {x y : Int} {v : α} (h : y ≠ x) : updF f x v y = f y := by simp [updF, h]

/-- the blocks of a graph, and what stands in them -/
structure GS where
  gG : Nat
  gn : Nat
  gf : Nat
  gt : Nat
  gu : Nat
  gus : Nat
  gfr : Nat
  ns : List Int
  fk : List Int
  fb : Int → Nat
  fe : Int → List Int
  W : Int → Int → Nat
  tk : List Int
  tb : Int → Nat
  te : Int → List Int
def GS.maps (g : GS) : List Nat := g.gn :: g.gf :: g.gt :: g.gus :: g.gfr :: (g.fk.map g.fb ++ g.tk.map g.tb)
/-- no two of the blocks are one -/
structure Ap (g : GS) : Prop where
  n : g.gf ≠ g.gn ∧ g.gt ≠ g.gn ∧ g.gus ≠ g.gn ∧ g.gfr ≠ g.gn
  f : g.gt ≠ g.gf ∧ g.gus ≠ g.gf ∧ g.gfr ≠ g.gf
  t : g.gus ≠ g.gt ∧ g.gfr ≠ g.gt
  us : g.gfr ≠ g.gus
  fi : ∀ u ∈ g.fk, ∀ u' ∈ g.fk, g.fb u = g.fb u' → u = u'
  ti : ∀ u ∈ g.tk, ∀ u' ∈ g.tk, g.tb u = g.tb u' → u = u'
  ft : ∀ u ∈ g.fk, ∀ v ∈ g.tk, g.fb u ≠ g.tb v
  fx : ∀ u ∈ g.fk, g.fb u ≠ g.gn ∧ g.fb u ≠ g.gf ∧ g.fb u ≠ g.gt ∧ g.fb u ≠ g.gus ∧ g.fb u ≠ g.gfr
  tx : ∀ u ∈ g.tk, g.tb u ≠ g.gn ∧ g.tb u ≠ g.gf ∧ g.tb u ≠ g.gt ∧ g.tb u ≠ g.gus ∧ g.tb u ≠ g.gfr
structure SG (lo : Nat) (w : World) (g : GS) : Prop where
  blk : ∃ z1 z2 : Nat, w.heap[g.gG]? = some (.cells #[.map (some g.gn), .map (some g.gf), .map (some g.gt), .float .f64 z1, .float .f64 z2, .pointer (some ⟨g.gu, 0, none⟩)] 147 (0, 0))
  uid : Uid lo w g.gu g.gus g.gfr g.ns
  nodes : MapV Tryz.prog 2 w g.gn g.ns nV
  from_ : MapV Tryz.prog 2 w g.gf g.fk (fun u => mV (g.fb u))
  row : ∀ u ∈ g.fk, MapV Tryz.prog 2 w (g.fb u) (g.fe u) (fun v => eV u v (g.W u v))
  to_ : MapV Tryz.prog 2 w g.gt g.tk (fun v => mV (g.tb v))
  col : ∀ v ∈ g.tk, ∃ f, MapV Tryz.prog 2 w (g.tb v) (g.te v) f
  ap : Ap g
  lo_ : lo ≤ g.gG ∧ ∀ k ∈ g.maps, lo ≤ k
  fks : ∀ u ∈ g.fk, u ∈ g.ns
  fes : ∀ u ∈ g.fk, ∀ v ∈ g.fe u, v ∈ g.ns
  tks : ∀ u ∈ g.tk, u ∈ g.ns
  tes : ∀ u ∈ g.tk, ∀ v ∈ g.te u, v ∈ g.ns
  len : g.ns.length ≤ 1000

/-- what a graph's operations leave alone: all but maps (and the numbers in use) -/
structure GK (lo : Nat) (w w' : World) : Prop where
  os : w'.os = w.os
  tape : w'.tape = w.tape
  output : w'.output = w.output
  size : w.heap.size ≤ w'.heap.size
  low : ∀ k, k < lo → w'.heap[k]? = w.heap[k]?
  cells : ∀ (k : Nat) (c : Array Value) (t : TypeId), w.heap[k]? = some (.cells c t (0, 0)) → t ≠ 176 → w'.heap[k]? = w.heap[k]?
theorem GK.refl (lo : Nat) (w : World) : GK lo w w := ⟨rfl, rfl, rfl, Nat.le_refl _, fun _ _ => rfl, fun _ _ _ _ _ => rfl⟩
theorem GK.trans {lo : Nat} {a b c : World} (h : GK lo a b) (k : GK lo b c) : GK lo a c :=
  ⟨k.os.trans h.os, k.tape.trans h.tape, k.output.trans h.output, Nat.le_trans h.size k.size, fun i hi => (k.low i hi).trans (h.low i hi), fun i cs t hi ht => (k.cells i cs t ((h.cells i cs t hi ht).trans hi) ht).trans (h.cells i cs t hi ht)⟩
theorem GK.below {lo : Nat} {w w' : World} (h : GK lo w w') : Below lo w w' := ⟨h.os, h.tape, h.output, h.size, h.low⟩
theorem GK.grown {lo gm : Nat} {w w1 : World} (hg : w.grownBy w1 (some gm)) (hl : lo ≤ gm) (hn : ∀ c t, w.heap[gm]? ≠ some (.cells c t (0, 0))) (hlo : lo ≤ w.heap.size) : GK lo w w1 :=
  ⟨hg.os, hg.tape, hg.output, hg.size, fun k hk => hg.block k (by omega) (fun e => by have := Option.some.inj e; omega), fun k c t hk ht => hg.block k (blk_lt hk) (fun e => by
    have := Option.some.inj e
    subst this
    exact absurd hk (hn c t))⟩
theorem GK.alloc {lo : Nat} {w : World} (o : Obj) (hlo : lo ≤ w.heap.size) : GK lo w (w.alloc o) :=
  ⟨rfl, rfl, rfl, by simp, fun k hk => Below.heap_alloc _ _ _ (by omega), fun k c t hk ht => Below.heap_alloc _ _ _ (blk_lt hk)⟩
theorem mapV_no_cells {w : World} {gm : Nat} {ks : List Int} {f : Int → Value} (h : MapV Tryz.prog 2 w gm ks f) (c : Array Value) (t : TypeId) : w.heap[gm]? ≠ some (.cells c t (0, 0)) := fun e => h.cells_ne e rfl

section
variable {lo : Nat} {w w1 : World} {g : GS}
theorem SG.lts (h : SG lo w g) : ∀ k ∈ g.maps, k < w.heap.size := by
  intro k hk
  simp only [GS.maps, List.mem_cons, List.mem_append, List.mem_map] at hk
  rcases hk with rfl | rfl | rfl | rfl | rfl | ⟨u, hu, rfl⟩ | ⟨u, hu, rfl⟩
  · exact h.nodes.lt
  · exact h.from_.lt
  · exact h.to_.lt
  · exact h.uid.used.lt
  · exact h.uid.free.lt
  · exact (h.row u hu).lt
  · obtain ⟨f, hf⟩ := h.col u hu; exact hf.lt
theorem SG.mem_n : g.gn ∈ g.maps := by simp [GS.maps]
theorem SG.mem_f : g.gf ∈ g.maps := by simp [GS.maps]
theorem SG.mem_t : g.gt ∈ g.maps := by simp [GS.maps]
theorem SG.mem_us : g.gus ∈ g.maps := by simp [GS.maps]
theorem SG.mem_fr : g.gfr ∈ g.maps := by simp [GS.maps]
theorem SG.mem_fb {u : Int} (hu : u ∈ g.fk) : g.fb u ∈ g.maps := by
  simp only [GS.maps, List.mem_cons, List.mem_append, List.mem_map]
  exact .inr (.inr (.inr (.inr (.inr (.inl ⟨u, hu, rfl⟩)))))
theorem SG.mem_tb {u : Int} (hu : u ∈ g.tk) : g.tb u ∈ g.maps := by
  simp only [GS.maps, List.mem_cons, List.mem_append, List.mem_map]
  exact .inr (.inr (.inr (.inr (.inr (.inr ⟨u, hu, rfl⟩)))))
/-- a graph stays while its blocks do -/
theorem SG.keep (h : SG lo w g) (h0 : w1.heap[g.gG]? = w.heap[g.gG]?) (h1 : w1.heap[g.gu]? = w.heap[g.gu]?) (hm : ∀ k ∈ g.maps, w1.heap[k]? = w.heap[k]?) : SG lo w1 g := by
  obtain ⟨z1, z2, hb⟩ := h.blk
  exact ⟨⟨z1, z2, h0.trans hb⟩, h.uid.keep h1 (hm _ SG.mem_us) (hm _ SG.mem_fr), h.nodes.stay (hm _ SG.mem_n), h.from_.stay (hm _ SG.mem_f), fun u hu => (h.row u hu).stay (hm _ (SG.mem_fb hu)), h.to_.stay (hm _ SG.mem_t),
    fun u hu => by obtain ⟨f, hf⟩ := h.col u hu; exact ⟨f, hf.stay (hm _ (SG.mem_tb hu))⟩, h.ap, h.lo_, h.fks, h.fes, h.tks, h.tes, h.len⟩
theorem SG.below (h : SG lo w g) (hb : Below w.heap.size w w1) : SG lo w1 g := by
  obtain ⟨z1, z2, hbk⟩ := h.blk
  obtain ⟨mx, hu⟩ := h.uid.blk
  exact h.keep (hb.block _ (blk_lt hbk)) (hb.block _ (blk_lt hu)) fun k hk => hb.block k (h.lts k hk)
end
end Go.Proofs.YthkmblgehdofmaaGreat.R

/- simple.WeightedDirectedGraph: edges' methods, Weight, Node, NewWeightedEdge. -/
namespace Go.Proofs.YthkmblgehdofmaaGreat.R
open Go.RowKit Go.Lab Go.Maps Go.MV Go.Proofs.YthkmblgehdofmaaGreatW.PrintWords Go.Proofs.YthkmblgehdofmaaGreatW.PrintLast Go.Proofs.YthkmblgehdofmaaGreatW.PrintMore

theorem meth_EFrom (c : Array Value) (w : World) : (method 325 151 (.agg c) "From").run Tryz.prog w = .ok (177, .agg c) w := by kernel_rfl
theorem meth_ETo (c : Array Value) (w : World) : (method 325 151 (.agg c) "To").run Tryz.prog w = .ok (179, .agg c) w := by kernel_rfl
theorem meth_EWeight (c : Array Value) (w : World) : (method 325 151 (.agg c) "Weight").run Tryz.prog w = .ok (180, .agg c) w := by kernel_rfl
theorem zero152 (w : World) : (zeroValue 152).run Tryz.prog w = .ok (.map none) w := by kernel_rfl
theorem zero115 (w : World) : (zeroValue 115).run Tryz.prog w = .ok .nilIface w := by kernel_rfl
theorem zero89 (w : World) : (zeroValue 89).run Tryz.prog w = .ok .nilIface w := by kernel_rfl

set_option maxHeartbeats 400000 in
theorem eFrom_any (u v : Int) (x : Nat) (w : World) :
    Calls Tryz.prog 177 #[.agg #[.iface 71 (.int .i64 u), .iface 71 (.int .i64 v), .float .f64 x]] w fun e w' => e = .returned (.iface 71 (.int .i64 u)) ∧ Below w.heap.size w w' := by
  have hu := Tryz.underlying151
  go_enter Tryz.func177, Tryz.ntmps177
  go_wp2
  go_ret
  exact ⟨rfl, (Below.refl _ _).alloc (Nat.le_refl _) _⟩
set_option maxHeartbeats 400000 in
theorem eTo_any (u v : Int) (x : Nat) (w : World) :
    Calls Tryz.prog 179 #[.agg #[.iface 71 (.int .i64 u), .iface 71 (.int .i64 v), .float .f64 x]] w fun e w' => e = .returned (.iface 71 (.int .i64 v)) ∧ Below w.heap.size w w' := by
  have hu := Tryz.underlying151
  go_enter Tryz.func179, Tryz.ntmps179
  go_wp2
  go_ret
  exact ⟨rfl, (Below.refl _ _).alloc (Nat.le_refl _) _⟩
set_option maxHeartbeats 400000 in
theorem eWeight_any (u v : Int) (x : Nat) (w : World) :
    Calls Tryz.prog 180 #[.agg #[.iface 71 (.int .i64 u), .iface 71 (.int .i64 v), .float .f64 x]] w fun e w' => e = .returned (.float .f64 x) ∧ Below w.heap.size w w' := by
  have hu := Tryz.underlying151
  go_enter Tryz.func180, Tryz.ntmps180
  go_wp2
  go_ret
  exact ⟨rfl, (Below.refl _ _).alloc (Nat.le_refl _) _⟩
set_option maxHeartbeats 400000 in
theorem newE_any (p : Value) (u v : Int) (x : Nat) (w : World) :
    Calls Tryz.prog 64 #[p, .iface 71 (.int .i64 u), .iface 71 (.int .i64 v), .float .f64 x] w fun e w' => e = .returned (eV u v x) ∧ w' = w := by
  have hu := Tryz.underlying151
  go_enter Tryz.func64, Tryz.ntmps64
  go_wp2
  go_ret
  exact ⟨rfl, rfl⟩

/-- the weight of an edge that is there -/
def GS.ed (g : GS) (u v : Int) : Option Nat := if u ∈ g.fk ∧ v ∈ g.fe u then some (g.W u v) else none

set_option maxHeartbeats 1000000 in
set_option maxRecDepth 100000 in
theorem weightS_any (lo : Nat) (g : GS) (u v : Int) (w : World) (h : SG lo w g) (huv : u ≠ v) (wu : (Lit.int .i64 u).wf = true) (wv : (Lit.int .i64 v).wf = true) :
    Calls Tryz.prog 66 #[.pointer (some ⟨g.gG, 0, none⟩), .int .i64 u, .int .i64 v] w fun e w' => (∃ x, e = .returned (.tuple #[.float .f64 x, .bool (g.ed u v).isSome]) ∧ ∀ y, g.ed u v = some y → x = y) ∧ Below w.heap.size w w' := by
  obtain ⟨z1, z2, hb⟩ := h.blk
  have c1 : w.cell? ⟨g.gG, 1, none⟩ = some (.map (some g.gf)) := (blk_cell hb 1).trans rfl
  have c4 : w.cell? ⟨g.gG, 4, none⟩ = some (.float .f64 z2) := (blk_cell hb 4).trans rfl
  have L1 := h.from_.look_ok Tryz.underlying2 Tryz.underlying143 (zero152 w) wu
  have hne : (u == v) = false := by rw [beq_eq_false_iff_ne]; exact huv
  by_cases hu : u ∈ g.fk
  · rw [if_pos hu, decide_eq_true hu] at L1
    have L1' : (Instr.lookup 143 (.map (some g.gf)) (.int .i64 u) true).run Tryz.prog w = .ok (.tuple #[.map (some (g.fb u)), .bool true]) w := L1
    have L2 := (h.row u hu).look_ok Tryz.underlying2 Tryz.underlying152 (zero115 w) wv
    clear L1
    by_cases hv : v ∈ g.fe u
    · rw [if_pos hv, decide_eq_true hv] at L2
      have L2' : (Instr.lookup 152 (.map (some (g.fb u))) (.int .i64 v) true).run Tryz.prog w = .ok (.tuple #[.iface 151 (.agg #[.iface 71 (.int .i64 u), .iface 71 (.int .i64 v), .float .f64 (g.W u v)]), .bool true]) w := L2
      have HE := Aside0.mk (show g.ed u v = some (g.W u v) from if_pos ⟨hu, hv⟩)
      have m3 := meth_EWeight #[.iface 71 (.int .i64 u), .iface 71 (.int .i64 v), .float .f64 (g.W u v)]
      clear L2 h hb hu hv
      go_enter Tryz.func66, Tryz.ntmps66
      go_wp2_with (go_at_call 180; refine (eWeight_any u v (g.W u v) _).mono ?_; rintro e w1 ⟨rfl, hbel⟩; have HB := Aside0.mk hbel; clear hbel)
      go_ret2
      refine ⟨⟨g.W u v, by rw [HE.out]; rfl, fun y hy => ?_⟩, HB.out⟩
      rw [HE.out] at hy
      exact Option.some.inj hy
    · rw [if_neg hv, decide_eq_false hv] at L2
      have HE := Aside0.mk (show g.ed u v = none from if_neg (fun e => hv e.2))
      clear h hb hu hv
      go_enter Tryz.func66, Tryz.ntmps66
      go_wp2
      go_ret2
      refine ⟨⟨z2, by rw [HE.out]; rfl, fun y hy => ?_⟩, Below.refl _ _⟩
      rw [HE.out] at hy
      cases hy
  · rw [if_neg hu, decide_eq_false hu] at L1
    have HE := Aside0.mk (show g.ed u v = none from if_neg (fun e => hu e.1))
    clear h hb hu
    go_enter Tryz.func66, Tryz.ntmps66
    go_wp2
    go_ret2
    refine ⟨⟨z2, by rw [HE.out]; rfl, fun y hy => ?_⟩, Below.refl _ _⟩
    rw [HE.out] at hy
    cases hy

set_option maxHeartbeats 1000000 in
set_option maxRecDepth 100000 in
theorem nodeS_any (lo : Nat) (g : GS) (u : Int) (w : World) (h : SG lo w g) (hu : u ∈ g.ns) (wu : (Lit.int .i64 u).wf = true) :
    Calls Tryz.prog 73 #[.pointer (some ⟨g.gG, 0, none⟩), .int .i64 u] w fun e w' => e = .returned (.iface 71 (.int .i64 u)) ∧ w' = w := by
  obtain ⟨z1, z2, hb⟩ := h.blk
  have c0 : w.cell? ⟨g.gG, 0, none⟩ = some (.map (some g.gn)) := (blk_cell hb 0).trans rfl
  have L1 := h.nodes.look Tryz.underlying2 Tryz.underlying142 (zero89 w) wu
  rw [if_pos hu] at L1
  have L1' : (Instr.lookup 142 (.map (some g.gn)) (.int .i64 u) false).run Tryz.prog w = .ok (.iface 71 (.int .i64 u)) w := L1
  clear L1 h hb
  go_enter Tryz.func73, Tryz.ntmps73
  go_wp2
  go_ret
  exact ⟨rfl, rfl⟩
end Go.Proofs.YthkmblgehdofmaaGreat.R

/- Residual numbers of a simple graph; the way of first parents step by step. -/
namespace Go.Proofs.YthkmblgehdofmaaGreat.R
open Go.Flow Go.RowKit Go.Proofs.FLN

theorem bneck_snoc (r : Int → Int → Int) (a b : Int) : ∀ (l : List Int), l ≠ [] → bneck r (l ++ [a, b]) = min (bneck r (l ++ [a])) (r b a)
  | [], h => absurd rfl h
  | [x], _ => rfl
  | x :: y :: l, _ => by
    have ih := bneck_snoc r a b (y :: l) (by simp)
    obtain ⟨z, l', e⟩ : ∃ z l', l ++ [a, b] = z :: l' := by cases l <;> exact ⟨_, _, rfl⟩
    obtain ⟨z2, l2, e2⟩ : ∃ z l', l ++ [a] = z :: l' := by cases l <;> exact ⟨_, _, rfl⟩
    rw [show (x :: y :: l) ++ [a, b] = x :: y :: (l ++ [a, b]) from rfl, show (x :: y :: l) ++ [a] = x :: y :: (l ++ [a]) from rfl]
    rw [show (y :: l) ++ [a, b] = y :: (l ++ [a, b]) from rfl, show (y :: l) ++ [a] = y :: (l ++ [a]) from rfl] at ih
    rw [e, e2] at ih ⊢
    show min (r y x) (bneck r (y :: z :: l')) = min (min (r y x) (bneck r (y :: z2 :: l2))) (r b a)
    rw [ih]
    omega
theorem pushAll_snoc (q a b : Int) : ∀ (l : List Int) (r : Int → Int → Int), pushAll q (l ++ [a, b]) r = push q b a (pushAll q (l ++ [a]) r)
  | [], r => rfl
  | [x], r => rfl
  | x :: y :: l, r => by
    show pushAll q (y :: l ++ [a, b]) (push q y x r) = push q b a (pushAll q (y :: l ++ [a]) (push q y x r))
    exact pushAll_snoc q a b (y :: l) _
theorem take_snoc2 {α : Type} (l : List α) (j : Nat) (h : j + 1 < l.length) : l.take (j + 2) = l.take j ++ [l[j], l[j + 1]] := by
  rw [List.take_succ_eq_append_getElem h, List.take_succ_eq_append_getElem (show j < l.length by omega), List.append_assoc]
  rfl
theorem take_snoc1 {α : Type} (l : List α) (j : Nat) (h : j < l.length) : l.take (j + 1) = l.take j ++ [l[j]] := List.take_succ_eq_append_getElem h
theorem stepsUp_get {R : Nat → Nat → Prop} {par : List (List Nat)} : ∀ {l : List Nat}, stepsUp R par l → ∀ (i : Nat) (h : i + 1 < l.length), R l[i + 1] l[i] ∧ ∃ rest, par[l[i]]? = some (l[i + 1] :: rest)
  | [], _, i, h => by simp at h
  | [_], _, i, h => by simp at h
  | a :: b :: l, hs, 0, h => ⟨hs.1, hs.2.1⟩
  | a :: b :: l, hs, i + 1, h => stepsUp_get (l := b :: l) hs.2.2 i (by simpa using h)
theorem toI_len (l : List Nat) : (toI l).length = l.length := List.length_map ..
theorem toI_get (l : List Nat) (j : Nat) (h : j < l.length) : (toI l)[j]'(by rw [toI_len]; exact h) = (l[j] : Int) := by unfold toI; rw [List.getElem_map]

/-- what a simple graph carries: r over the arcs E -/
structure RG (g : GS) (E : Int → Int → Bool) (r : Int → Int → Int) : Prop where
  ed : ∀ u v, g.ed u v = if E u v = true then some (FLN.fl (r u v)) else none
  sym : ∀ u v, E u v = E v u
  off : ∀ u v, E u v = false → r u v = 0
  irr : ∀ u, E u u = false
  pos : ∀ u v, 0 ≤ r u v
  bd : ∀ u v, r u v + r v u ≤ 1000000000000000
section
variable {g : GS} {E : Int → Int → Bool} {r : Int → Int → Int}
theorem RG.le (h : RG g E r) (u v : Int) : r u v ≤ 1000000000000000 := by
  have := h.bd u v
  have := h.pos v u
  omega
theorem RG.on (h : RG g E r) {u v : Int} (hp : 0 < r u v) : E u v = true := by
  cases e : E u v with
  | true => rfl
  | false => have := h.off u v e; omega
/-- an arc may carry more -/
def carries (g : GS) (p v : Nat) : Prop := ∃ x, g.ed (p : Int) (v : Int) = some x ∧ FloatKind.f64.format.order x 0 = some .gt
theorem RG.carries (h : RG g E r) (p v : Nat) : carries g p v ↔ 0 < r (p : Int) (v : Int) := by
  have hb := h.le p v
  have h0 := h.pos p v
  have ho := order_fl (r p v) 0 (by omega) (by decide)
  rw [fl_zero] at ho
  constructor
  · rintro ⟨x, h1, h2⟩
    rw [h.ed] at h1
    split at h1
    · cases h1
      rw [ho] at h2
      have : compare (r p v) 0 = .gt := by simpa using h2
      apply Classical.byContradiction
      intro hn
      rcases Int.lt_or_eq_of_le (show r p v ≤ 0 by omega) with e | e
      · rw [cmp_lt e] at this; cases this
      · rw [e] at this; rw [cmp_eq] at this; cases this
    · cases h1
  · intro hp
    refine ⟨FLN.fl (r p v), ?_, ?_⟩
    · rw [h.ed, if_pos (h.on hp)]
    · rw [ho, cmp_gt hp]
end
end Go.Proofs.YthkmblgehdofmaaGreat.R
