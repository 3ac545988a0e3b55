import Derived.Test.YtddklkgcodjijaaGreatProg
import Derived.Below
import Derived.Deep.Draws
import Derived.Deep.AppendLies
import Derived.Maps.AppendAt
import Derived.OwnWalk
import Derived.Laws.BytesArg
import Derived.Laws.MakeOwn
import Derived.Laws.OwnMore
import Derived.Deep.OwnRows
import Derived.Tactics
import Derived.Lib.ConvBytes
import Derived.Laws.Slices
import Derived.WalkKit
import Derived.KernelRfl
import Derived.RowKit3
import Derived.Deep.LoopGhost
import Derived.Deep.QuietTactic
import Derived.BigQuiet
import Derived.WideLaws
import Derived.Deep.DeepCutAuto
import Derived.Deep.CutBlock
import Derived.Deep.RegionHeld3
import Derived.Laws.Rows
import Derived.Lib.AppendStr
import Derived.ArgAppend
import Derived.Laws.IdiomCopy
import Derived.OrdersHeld
import Derived.Laws.BitsLemmas
import Derived.RowKit
import Derived.Test.YtddklkgcodjijaaGreatAWWords
import Derived.Test.YtddklkgcodjijaaGreatAWLast
import Derived.Test.YtddklkgcodjijaaGreatAWTab
import Derived.Test.YtddklkgcodjijaaGreatAWFour
import Derived.Test.YtddklkgcodjijaaGreatAWQPut
import Derived.Test.YtddklkgcodjijaaGreatAWApart
import Derived.Test.YtddklkgcodjijaaGreatAWArr
import Derived.Test.YtddklkgcodjijaaGreatAWZeros
import Derived.Test.YtddklkgcodjijaaGreatAWFoot
import Derived.Test.YtddklkgcodjijaaGreatAWKept
import Derived.Test.YtddklkgcodjijaaGreatAWShare
import Derived.Test.YtddklkgcodjijaaGreatAWN
import Derived.Test.YtddklkgcodjijaaGreatAWFootNe
import Derived.Test.YtddklkgcodjijaaGreatAWAt
import Derived.Test.YtddklkgcodjijaaGreatAWEqStruct
import Derived.Test.YtddklkgcodjijaaGreatAWRepsOne
import Derived.Test.YtddklkgcodjijaaGreatAWInv
import Derived.Test.YtddklkgcodjijaaGreatAWInvWords
import Derived.Test.YtddklkgcodjijaaGreatAWGuard
import Derived.Test.YtddklkgcodjijaaGreatAWNEv
import Derived.Test.YtddklkgcodjijaaGreatAWMore
import Derived.ProofKit
import Derived.Lib.SmallJoins
import Derived.Deep.Slices
import Derived.WalkSpells
import Derived.WalkLawsBesides
import Derived.Lib.Hide
import Derived.Lib.SliceRun
import Derived.Laws.CopyOwn
import Derived.Lib.AppendZerosOnto
import Derived.Lib.Overlaps
import Derived.Deep.RegionLaw
import Derived.Deep.Cut
set_option linter.unusedVariables false
set_option linter.unusedSimpArgs false
/- Printed by a program (the kit's printer, run over contracts that were proved by hand). -/
namespace Go.Proofs.YtddklkgcodjijaaGreat.PL
open Go.RowKit Go.Proofs.YtddklkgcodjijaaGreatW.PrintWords Go.Proofs.YtddklkgcodjijaaGreatW.PrintLast Go.Proofs.YtddklkgcodjijaaGreatW.PrintMore
attribute [local go_sem] max2_int min2_int max_two min_two max_three min_three max_four min_four   -- for this text's walks alone



theorem info3 : (Tryz.prog.info? 3).map (fun i => (i.zero, i.size, i.bytes)) = some (some (.int .i64 0), 1, 8) := by kernel_rfl
-- the values' own types
/-! #### struct type 95 -/
structure S95 where
  f0 : Int
  f1 : Int
  f2 : Int
def z95 : S95 := ⟨(0 : Int), (0 : Int), (0 : Int)⟩
def k95 : Kd S95 := Kd.iso (Kd.pair (Kd.int .i64) (Kd.pair (Kd.int .i64) (Kd.int .i64))) (fun x : S95 => (x.f0, x.f1, x.f2))
theorem k95_open {w : World} {x : S95} {cs : List Value} (h : k95.K w x cs) : cs = [.int .i64 x.f0, .int .i64 x.f1, .int .i64 x.f2] := by
  obtain ⟨_, _, rfl, rfl, ⟨_, _, rfl, rfl, rfl⟩⟩ := h
  exact rfl
def rd_T38 (xs : List S95) (i : Int) : S95 := xs.getD i.toNat z95
theorem at_T38 {w : World} {A : Option Addr} {n : Nat} {xs : List S95} (h : Kd.C k95 w A n xs) (i : Int) (h0 : 0 ≤ i) (h1 : i < n) : ∃ ad , A = some ad ∧ w.cell? (ad.add (i.toNat * 3)) = some (.int .i64 (rd_T38 xs i).f0) ∧ w.cell? ⟨(ad.add (i.toNat * 3)).block, (ad.add (i.toNat * 3)).off + 1, none⟩ = some (.int .i64 (rd_T38 xs i).f1) ∧ w.cell? ⟨(ad.add (i.toNat * 3)).block, (ad.add (i.toNat * 3)).off + 2, none⟩ = some (.int .i64 (rd_T38 xs i).f2) := by
  obtain ⟨ad, c, e, _, hK, hc0⟩ := Kd.C_get h z95 i h0 h1
  have hc : ∀ j u, c[j]? = some u → w.cell? (ad.add (i.toNat * 3 + j)) = some u := hc0
  obtain rfl := k95_open hK
  exact ⟨ad, e, hc 0 _ rfl, by rw [← add_field _ _ 1 (by omega)]; exact hc 1 _ rfl, by rw [← add_field _ _ 2 (by omega)]; exact hc 2 _ rfl⟩

end Go.Proofs.YtddklkgcodjijaaGreat.PL


/- Printed by a program (the kit's printer, run over contracts that were proved by hand). -/
namespace Go.Proofs.YtddklkgcodjijaaGreat.PL
open Go.RowKit Go.Proofs.YtddklkgcodjijaaGreatW.PrintWords Go.Proofs.YtddklkgcodjijaaGreatW.PrintLast Go.Proofs.YtddklkgcodjijaaGreatW.PrintMore
attribute [local go_sem] max2_int min2_int max_two min_two max_three min_three max_four min_four   -- for this text's walks alone

def errW : Option Int → Value
 | none => .nilIface
 | some c => .iface 0 (.int .i64 c)
theorem errW_none : errW none = .nilIface := rfl
theorem errW_some (c : Int) : errW (some c) = .iface 0 (.int .i64 c) := rfl
theorem info22 : (Tryz.prog.info? 22).map (fun i => (i.zero, i.size, i.bytes)) = some (some (.slice none 0 0), 1, 24) := by kernel_rfl
theorem k95_mk (w : World) (x : S95)  : k95.K w x [.int .i64 x.f0, .int .i64 x.f1, .int .i64 x.f2] := ⟨[.int .i64 x.f0], [.int .i64 x.f1, .int .i64 x.f2], rfl, rfl, ⟨[.int .i64 x.f1], [.int .i64 x.f2], rfl, rfl, rfl⟩⟩
def rd_T95 (xs : List S95) (i : Int) : S95 := xs.getD i.toNat z95
theorem at_T95 {w : World} {A : Option Addr} {n : Nat} {xs : List S95} (h : Kd.C k95 w A n xs) (i : Int) (h0 : 0 ≤ i) (h1 : i < n) : ∃ ad , A = some ad ∧ w.cell? (ad.add (i.toNat * 3)) = some (.int .i64 (rd_T95 xs i).f0) ∧ w.cell? ⟨(ad.add (i.toNat * 3)).block, (ad.add (i.toNat * 3)).off + 1, none⟩ = some (.int .i64 (rd_T95 xs i).f1) ∧ w.cell? ⟨(ad.add (i.toNat * 3)).block, (ad.add (i.toNat * 3)).off + 2, none⟩ = some (.int .i64 (rd_T95 xs i).f2) := by
 obtain ⟨ad, c, e, _, hK, hc0⟩ := Kd.C_get h z95 i h0 h1
 have hc : ∀ j u, c[j]? = some u → w.cell? (ad.add (i.toNat * 3 + j)) = some u := hc0
 obtain rfl := k95_open hK
 exact ⟨ad, e, hc 0 _ rfl, by rw [← add_field _ _ 1 (by omega)]; exact hc 1 _ rfl, by rw [← add_field _ _ 2 (by omega)]; exact hc 2 _ rfl⟩
def rd_L2 (xs : List (List Int)) (i : Int) : (List Int) := xs.getD i.toNat ([] : List Int)
theorem at_L2 {w : World} {A : Option Addr} {n : Nat} {xs : List (List Int)} (h : Kd.C (Kd.slice 3 (Kd.int .i64)) w A n xs) (i : Int) (h0 : 0 ≤ i) (h1 : i < n) : ∃ ad A0 c0, A = some ad ∧ w.cell? (ad.add i.toNat) = some (.slice A0 (rd_L2 xs i).length c0) ∧ (rd_L2 xs i).length ≤ c0 ∧ (Kd.int .i64).C w A0 (rd_L2 xs i).length (rd_L2 xs i) := by
 obtain ⟨ad, c, e, _, hK, hc0⟩ := Kd.C_get h ([] : List Int) i h0 h1
 have hc : ∀ j u, c[j]? = some u → w.cell? (ad.add (i.toNat * 1 + j)) = some u := hc0
 obtain ⟨A0, c0, rfl, l0, g0⟩ := hK
 exact ⟨ad, A0, c0, e, by have hq := hc 0 _ rfl; rwa [Nat.mul_one, Nat.add_zero] at hq, l0, g0⟩
structure S36 where
 f0 : Bool
 f1 : Int
def z36 : S36 := ⟨false, (0 : Int)⟩
def k36 : Kd S36 := Kd.iso (Kd.pair Kd.bool (Kd.int .i64)) (fun x : S36 => (x.f0, x.f1))
theorem k36_open {w : World} {x : S36} {cs : List Value} (h : k36.K w x cs) : cs = [.bool x.f0, .int .i64 x.f1] := by
 obtain ⟨_, _, rfl, rfl, rfl⟩ := h
 exact rfl
theorem k36_mkM (w : World) (base : Nat) (ok : Nat → Prop) (x : S36)  : k36.M w base ok x [.bool x.f0, .int .i64 x.f1] := ⟨[.bool x.f0], [.int .i64 x.f1], rfl, rfl, rfl⟩
def rd_T36 (xs : List S36) (i : Int) : S36 := xs.getD i.toNat z36
theorem at_T36 {w : World} {A : Option Addr} {n : Nat} {xs : List S36} (h : Kd.C k36 w A n xs) (i : Int) (h0 : 0 ≤ i) (h1 : i < n) : ∃ ad , A = some ad ∧ w.cell? (ad.add (i.toNat * 2)) = some (.bool (rd_T36 xs i).f0) ∧ w.cell? ⟨(ad.add (i.toNat * 2)).block, (ad.add (i.toNat * 2)).off + 1, none⟩ = some (.int .i64 (rd_T36 xs i).f1) := by
 obtain ⟨ad, c, e, _, hK, hc0⟩ := Kd.C_get h z36 i h0 h1
 have hc : ∀ j u, c[j]? = some u → w.cell? (ad.add (i.toNat * 2 + j)) = some u := hc0
 obtain rfl := k36_open hK
 exact ⟨ad, e, hc 0 _ rfl, by rw [← add_field _ _ 1 (by omega)]; exact hc 1 _ rfl⟩
theorem eqA36 (d : Nat) (w : World) (x0 y0 : Bool) (x1 y1 : Int) :
  (Op.equalIn (d + 2) 36 (.agg #[.bool x0, .int .i64 x1]) (.agg #[.bool y0, .int .i64 y1])).run Tryz.prog w = .ok (x0 == y0 && (x1 == y1)) w := by
 refine eqA_of Tryz.underlying36 (by kernel_rfl) ?_
 refine eqf_cons (by rfl) (by go_simp; rfl) (by go_simp; rfl) (by go_simp) ?_
 exact eqf_last (by rfl) (by go_simp; rfl) (by go_simp; rfl) (by go_simp)

end Go.Proofs.YtddklkgcodjijaaGreat.PL

/- A graph as a law's argument, read. -/
namespace Go.Proofs.YtddklkgcodjijaaGreat.Rd
open Go.ChangeShapes Go.WideShapes Go.ChangeAt Go.RowKit Go.Deep Go.Proofs.YtddklkgcodjijaaGreatW.PrintWords PL

theorem Tryz.own : ownKnob Tryz.prog.godebug = none := by kernel_rfl
theorem Tryz.laidOut : laidOutB Tryz.prog = true := by kernel_rfl

section
variable {H : Type} {enc : TypeId × Value → H} {W : World}

set_option maxRecDepth 100000 in
theorem read_ints {fuel : Nat} {cs : List Value} {x : DataW H × List MemPlace} (h : DataW.trod enc Tryz.prog W 0 (fun _ => true) true fuel 22 cs = some x) :
    ∃ (a : Option Addr) (cap : Nat) (xs : List Int), cs = [.slice a xs.length cap] ∧ xs.length ≤ cap ∧ Kd.C (Kd.int .i64) W a xs.length xs ∧ ∀ x ∈ xs, (Lit.int .i64 x).wf = true := by
  rcases open_ints Tryz.underlying22 Tryz.underlying3 (by kernel_rfl) h with ⟨rfl, _⟩ | ⟨ad, l, c, zs, rfl, _, hl, hm, hz, _, hcell, hwz⟩
  · exact ⟨none, 0, [], rfl, Nat.le_refl _, ⟨rfl, Nat.zero_le _, fun h => absurd h (by simp)⟩, fun _ h => by cases h⟩
  · obtain ⟨xs, rfl, hr, _, hwf, hc⟩ := ReadsInt.ofRowC (k := .i64) (w := W) (a := some ad) (len := l) (cap := c) (zs := zs) (.inr ⟨_, rfl, hl, hm, by simpa using hz, hcell, hwz⟩)
    exact ⟨some ad, c, xs, rfl, hc, Kd.C_of_reads (d := (0 : Int)) (h1 := fun _ => rfl) hr, hwf⟩

instance : Inhabited S95 := ⟨z95⟩

set_option maxRecDepth 100000 in
theorem read_edges {fuel : Nat} {cs : List Value} {x : DataW H × List MemPlace} (h : DataW.trod enc Tryz.prog W 0 (fun _ => true) true fuel 23 cs = some x) :
    ∃ (a : Option Addr) (cap : Nat) (es : List S95), cs = [.slice a es.length cap] ∧ es.length ≤ cap ∧ Kd.C k95 W a es.length es := by
  have hC : Tryz.prog.cellsOf 95 = 3 := by kernel_rfl
  have hC3 : Tryz.prog.cellsOf 3 = 1 := by kernel_rfl
  rcases open_slice Tryz.underlying23 h with ⟨rfl, _⟩ | ⟨ad, l, c, m, n, D, Pl, rfl, _, hl, hm, hmm, _, hx⟩
  · exact ⟨none, 0, [], rfl, Nat.le_refl _, rfl, Nat.zero_le _, fun h => absurd h (by simp)⟩
  · rw [hC] at hx
    obtain ⟨V, hV⟩ := choose_lt (α := S95) (n := l) (p := fun i s => W.cells? 0 (ad.add (i * 3)) 3 = some [.int .i64 s.f0, .int .i64 s.f1, .int .i64 s.f2]) (fun i hi => by
      obtain ⟨cs', h1, h2⟩ := hx i (by simp at hmm; omega)
      obtain ⟨y0, y1, y2, n', _, hlen, t0, t1, t2⟩ := trod_struct3 Tryz.underlying95 h2
      rw [hC] at hlen
      match cs', hlen with
      | [u0, u1, u2], _ =>
        simp only [hC3] at t0 t1 t2
        obtain ⟨n0, e0, _⟩ := DataW.trod_int Tryz.underlying3 t0
        obtain ⟨n1, e1, _⟩ := DataW.trod_int Tryz.underlying3 t1
        obtain ⟨n2, e2, _⟩ := DataW.trod_int Tryz.underlying3 t2
        simp at e0 e1 e2
        subst e0 e1 e2
        exact ⟨⟨n0, n1, n2⟩, h1⟩)
    have hlen : ((List.range l).map V).length = l := by simp
    refine ⟨some ad, c, (List.range l).map V, by rw [hlen], by rw [hlen]; exact hl, rfl, by rw [hlen]; unfold maxLen at hm; omega, fun _ => ⟨ad, rfl, fun j p hp => ?_⟩⟩
    have hj : j < l := by
      have := (List.getElem?_eq_some_iff.1 hp).1
      rw [hlen] at this
      exact this
    obtain rfl : V j = p := by simpa [hj] using hp
    have hc := hV j hj
    obtain ⟨_, _, hcc⟩ := World.cells?_some hc
    refine ⟨_, rfl, k95_mk W (V j), fun i u hu => ?_⟩
    have hi : i < 3 := by
      have := (List.getElem?_eq_some_iff.1 hu).1
      simpa using this
    have := hcc i hi
    rw [YtddklkgcodjijaaGreatW.PrintWords.add_add] at this
    exact this.trans hu

set_option maxRecDepth 100000 in
theorem read_graph {base : Nat} {v : Value} {d : DataW H} {p : List MemPlace} (hv : Value.okWide Tryz.prog W .any base 25 v) (h : DataW.Trod enc Tryz.prog W 0 (fun _ => true) true 25 v d p) :
    ∃ (b : Bool) (A1 A2 : Option Addr) (c1 c2 : Nat) (zs : List Int) (es : List S95), v = .agg #[.bool b, .slice A1 zs.length c1, .slice A2 es.length c2] ∧ zs.length ≤ c1 ∧ es.length ≤ c2 ∧ Kd.C (Kd.int .i64) W A1 zs.length zs ∧ Kd.C k95 W A2 es.length es ∧ ∀ x ∈ zs, (Lit.int .i64 x).wf = true := by
  obtain ⟨v0, v1, v2, y0, y1, y2, n, rfl, _, _, t0, t1, t2⟩ := Go.Joins.open_agg3 Tryz.underlying25 (by kernel_rfl) (by kernel_rfl) hv h
  obtain ⟨b, hb, _⟩ := DataW.trod_bool Tryz.underlying4 t0
  obtain ⟨A1, c1, zs, h1, l1, C1, wf1⟩ := read_ints t1
  obtain ⟨A2, c2, es, h2, l2, C2⟩ := read_edges t2
  simp only [List.cons.injEq, and_true] at hb h1 h2
  subst hb h1 h2
  exact ⟨b, A1, A2, c1, c2, zs, es, rfl, l1, l2, C1, C2, wf1⟩

end
end Go.Proofs.YtddklkgcodjijaaGreat.Rd

namespace Go.Proofs.YtddklkgcodjijaaGreat.R
open Go.RowKit Go.Proofs.YtddklkgcodjijaaGreatW.PrintWords Go.Proofs.YtddklkgcodjijaaGreatW.PrintLast Go.Proofs.YtddklkgcodjijaaGreatW.PrintMore

theorem Tryz.info2 : (Tryz.prog.info? 2).map (fun i => (i.zero, i.size, i.bytes)) = some (some (.int .i64 0), 1, 8) := by kernel_rfl
theorem Tryz.info3 : (Tryz.prog.info? 3).map (fun i => (i.zero, i.size, i.bytes)) = some (some (.int .i64 0), 1, 8) := by kernel_rfl

/-- cells of a read slice of ints -/
theorem C_int_cells {w : World} {A : Option Addr} {n : Nat} {xs : List Int} {k : IntKind} (h : Kd.C (Kd.int k) w A n xs) {ad : Addr} (hA : A = some ad) :
    ∀ j u, (nums k xs)[j]? = some u → w.cell? (ad.add j) = some u := by
  intro j u hu
  obtain ⟨hl, _, hc⟩ := h
  have hj : j < xs.length := by
    rcases Nat.lt_or_ge j xs.length with h | h
    · exact h
    · rw [List.getElem?_eq_none (by rw [nums_length]; exact h)] at hu; cases hu
  obtain ⟨ad', e, hc⟩ := hc (by omega)
  rw [hA] at e; cases e
  obtain ⟨c, _, hr, hcell⟩ := hc j _ (List.getElem?_eq_getElem hj)
  have hr' : c = [.int k xs[j]] := hr
  subst hr'
  have := hcell 0 (.int k xs[j]) rfl
  simp only [nums, List.getElem?_map, List.getElem?_eq_getElem hj, Option.map_some, Option.some.injEq] at hu
  subst hu
  have hs : (Kd.int k).sz = 1 := rfl
  rw [hs] at this
  simpa using this

set_option maxHeartbeats 1000000 in
theorem clone64_some (A : Addr) (c : Nat) (xs : List Int) (w : World) (h : Kd.C (Kd.int .i64) w (some A) xs.length xs) (hb : xs.length * 8 ≤ 140737488355328) :
    Calls Tryz.prog 93 #[.slice (some A) xs.length c] w fun e w' => ∃ v', e = .returned v' ∧ w'.ownsRow w.heap.size 2 1 v' xs.length (nums .i64 xs) ∧ Below w.heap.size w w' := by
  have q60 : ∀ (w : World) (a : Option Addr) (n c n' c' : Nat), (binOp .eql 80 (.slice a n c) (.slice none n' c')).run Tryz.prog w = .ok (.bool a.isNone) w := fun w a n c n' c' => Lib.run_eql_slice_nil w _ _ a n c n' c' Tryz.underlying80
  have hcells := C_int_cells h rfl
  have HC := Aside0.mk hcells
  clear hcells
  have h1 : ∀ u ∈ nums .i64 xs, u.oneCell' = true := by intro u hu; obtain ⟨x, _, rfl⟩ := List.mem_map.1 hu; rfl
  have H1 := Aside0.mk h1
  clear h1
  have hn : xs.length ≤ maxLen := by unfold maxLen; omega
  obtain ⟨i0, hi, hz0, hz1, hz2⟩ := info_parts Tryz.info2
  have HL := Aside0.mk (nums_length .i64 xs)
  have HI := Aside0.mk (And.intro hi (And.intro hz0 (And.intro hz1 hz2)))
  clear hi hz0 hz1 hz2 h
  go_enter Tryz.func93, Tryz.ntmps93
  go_wp2_with (at_builtin; refine wpList_append_own _ rfl _ _ 80 rfl w.heap.size 2 i0 (.int .i64 0) 1 8 Tryz.underlying80 HI.out.1 HI.out.2.1 HI.out.2.2.1 HI.out.2.2.2 rfl (by decide) _ _ _ rfl (World.ownsRow_made w #[] 0 (Nat.le_refl _) (Nat.zero_le _) (by simp)) A xs.length c (nums .i64 xs) rfl ?qc1 ?qc2 ?qc3 ?qc4 ?qc5 ?qc6 ?_)
  case qc1 => rw [HL.out]; omega
  case qc2 =>
    intro j u hj
    exact Lib.cell?_alloc_some _ (HC.out j u hj)
  case qc3 => exact H1.out
  case qc4 => rw [Nat.zero_add]; exact hn
  case qc5 => rw [Nat.zero_add]; exact hb
  case qc6 => simp
  intro v' w1 hown hgrow hnil
  go_wp2
  go_ret
  refine ⟨v', rfl, by simpa using hown, ?_⟩
  exact ((Below.refl _ w).alloc (Nat.le_refl _) _).grown hgrow (by simp) (by intro k hk; simp [Value.ownBlock] at hk; omega)
end Go.Proofs.YtddklkgcodjijaaGreat.R


namespace Go.Proofs.YtddklkgcodjijaaGreat.R
open Go.RowKit Go.Proofs.YtddklkgcodjijaaGreatW.PrintWords Go.Proofs.YtddklkgcodjijaaGreatW.PrintLast Go.Proofs.YtddklkgcodjijaaGreatW.PrintMore

set_option maxHeartbeats 400000 in
theorem cmpNaN_any (n : Int) (w : World) :
    Calls Tryz.prog 139 #[.int .i64 n] w fun e w' => e = .returned (.bool false) ∧ w = w' := by
  go_enter Tryz.func139, Tryz.ntmps139
  go_wp2
  go_ret
  exact ⟨by simp, rfl⟩

set_option maxHeartbeats 400000 in
theorem slNaN_any (n : Int) (w : World) :
    Calls Tryz.prog 104 #[.int .i64 n] w fun e w' => e = .returned (.bool false) ∧ w = w' := by
  go_enter Tryz.func104, Tryz.ntmps104
  go_wp2
  go_ret
  exact ⟨by simp, rfl⟩

set_option maxHeartbeats 400000 in
theorem less_any (a b : Int) (w : World) :
    Calls Tryz.prog 103 #[.int .i64 a, .int .i64 b] w fun e w' => e = .returned (.bool (decide (a < b))) ∧ w = w' := by
  go_enter Tryz.func103, Tryz.ntmps103
  go_wp2_with (go_at_call 139; refine (cmpNaN_any _ _).mono ?_; rintro e w' ⟨rfl, rfl⟩)
  go_ret
  exact ⟨rfl, rfl⟩

/-- how many of a list are less -/
def rank (ids : List Int) (t : Int) : Nat := (ids.filter fun x => decide (x < t)).length

theorem rank_le (ids : List Int) (t : Int) : rank ids t ≤ ids.length := List.length_filter_le _ _

theorem rank_lt {ids : List Int} (h : ids.Pairwise (· < ·)) (t : Int) : ∀ i (hi : i < ids.length), ids[i] < t ↔ i < rank ids t := by
  induction ids with
  | nil => intro i hi; simp at hi
  | cons x r ih =>
    intro i hi
    rw [List.pairwise_cons] at h
    have hr : rank (x :: r) t = if x < t then rank r t + 1 else rank r t := by
      unfold rank
      rw [List.filter_cons]
      by_cases hx : x < t <;> simp [hx]
    by_cases hx : x < t
    · rw [hr, if_pos hx]
      cases i with
      | zero => simp [hx]
      | succ i => simpa using ih h.2 i (by simpa using hi)
    · have h0 : rank r t = 0 := by
        unfold rank
        rw [List.length_eq_zero_iff, List.filter_eq_nil_iff]
        intro y hy
        have := h.1 y hy
        simp; omega
      rw [hr, if_neg hx, h0]
      refine ⟨fun hlt => ?_, fun h => by omega⟩
      cases i with
      | zero => exact absurd hlt hx
      | succ i =>
        have hm : r[i]'(by simpa using hi) ∈ r := List.getElem_mem _
        have := h.1 _ hm
        simp at hlt; omega

theorem rank_mem {ids : List Int} (h : ids.Pairwise (· < ·)) (t : Int) : t ∈ ids ↔ ∃ hr : rank ids t < ids.length, ids[rank ids t] = t := by
  constructor
  · intro hm
    obtain ⟨i, hi, he⟩ := List.getElem_of_mem hm
    have h1 := rank_lt h t i hi
    have h2 : ¬ i < rank ids t := by rw [← h1]; omega
    have hr : rank ids t < ids.length := by omega
    refine ⟨hr, ?_⟩
    rcases Nat.lt_or_ge (rank ids t) i with h3 | h3
    · have := List.pairwise_iff_getElem.1 h _ _ hr hi h3
      have h4 := rank_lt h t _ hr
      have : ids[rank ids t] < t := by omega
      rw [h4] at this
      omega
    · have : i = rank ids t := by omega
      subst this; exact he
  · rintro ⟨hr, he⟩
    rw [← he]; exact List.getElem_mem _

theorem C_int_at {w : World} {A : Option Addr} {n : Nat} {xs : List Int} {k : IntKind} (h : Kd.C (Kd.int k) w A n xs) (i : Nat) (hi : i < n) : ∃ ad, A = some ad ∧ w.cell? (ad.add i) = some (.int k (xs.getD i 0)) := by
  obtain ⟨ad, e, hc⟩ := Kd.at_int h i (by omega) (by omega)
  exact ⟨ad, e, by simpa [rd] using hc⟩

set_option maxHeartbeats 1000000 in
set_option maxRecDepth 100000 in
theorem bsearch_any (A : Option Addr) (c : Nat) (ids : List Int) (t : Int) (w : World) (h : Kd.C (Kd.int .i64) w A ids.length ids) (hs : ids.Pairwise (· < ·)) (hb : ids.length ≤ 1000) :
    Calls Tryz.prog 76 #[.slice A ids.length c, .int .i64 t] w fun e w' => e = .returned (.tuple #[.int .i64 (rank ids t), .bool (decide (t ∈ ids))]) ∧ w = w' := by
  have HS := Aside0.mk hs
  have HC := Aside0.mk h
  clear hs h
  have hrl := rank_le ids t
  go_enter Tryz.func76, Tryz.ntmps76
  go_wp2
  go_loop [7, 8] (fun i j => ∃ a b : Nat, i = .int .i64 a ∧ j = .int .i64 b ∧ a ≤ rank ids t ∧ rank ids t ≤ b ∧ b ≤ ids.length) (fun i j => (intOf j - intOf i).toNat)
  case atStart => exact ⟨0, ids.length, rfl, rfl, Nat.zero_le _, hrl, Nat.le_refl _⟩
  case round =>
    obtain ⟨a, b, rfl, rfl, h1, h2, h3⟩ := hrel
    by_cases hab : a < b
    · obtain ⟨h, hh⟩ : ∃ h : Nat, ((a : Int) + (b : Int)) / 2 = (h : Int) := ⟨(a + b) / 2, by omega⟩
      have hh1 : a ≤ h := by omega
      have hh2 : h < b := by omega
      have hlt : h < ids.length := by omega
      obtain ⟨ad, rfl, hc⟩ := C_int_at HC.out h hlt
      have hge : ids.getD h 0 = ids[h] := by simp [List.getD_eq_getElem?_getD, hlt]
      have hr := rank_lt HS.out t h hlt
      rw [← hge] at hr
      have HR := Aside0.mk hr
      clear hr hge
      generalize ids.getD h 0 = x at HR hc
      by_cases hx : x < t
      · have hx' : decide (x < t) = true := by simpa using hx
        go_wp2_with (go_at_call 103; refine (less_any _ _ _).mono ?_; rintro e w' ⟨rfl, rfl⟩)
        go_round
        case rel => exact ⟨h + 1, b, by go_num, rfl, HR.out.1 hx, h2, h3⟩
        case measure => simp [intOf]; omega
      · have hx' : decide (x < t) = false := by simpa using hx
        go_wp2_with (go_at_call 103; refine (less_any _ _ _).mono ?_; rintro e w' ⟨rfl, rfl⟩)
        go_round
        case rel => exact ⟨a, h, rfl, rfl, h1, by have := HR.out; omega, by omega⟩
        case measure => simp [intOf]; omega
    · have hab' : a = rank ids t := by omega
      have hm := rank_mem HS.out t
      by_cases hlt : a < ids.length
      · obtain ⟨ad, rfl, hc⟩ := C_int_at HC.out a hlt
        have hge : ids.getD a 0 = ids[a] := by simp [List.getD_eq_getElem?_getD, hlt]
        have hm' : t ∈ ids ↔ ids.getD a 0 = t := by rw [hm, hge]; subst hab'; exact ⟨fun ⟨_, e⟩ => e, fun e => ⟨hlt, e⟩⟩
        have HM := Aside0.mk hm'
        have HA := Aside0.mk hab'
        clear hm hm' hge hab'
        generalize ids.getD a 0 = x at HM hc
        have hd : decide (t ∈ ids) = decide (x = t) := by simp [HM.out]
        have HD := Aside0.mk hd
        clear hd
        by_cases hx : x = t
        · have hx' : (x == t) = true := by simpa using hx
          go_wp2_with (go_at_call 104; refine (slNaN_any _ _).mono ?_; rintro e w' ⟨rfl, rfl⟩)
          go_ret2
          exact ⟨by rw [HD.out, ← HA.out]; simp [hx], rfl⟩
        · have hx' : (x == t) = false := by simpa using hx
          go_wp2_with (go_at_call 104; refine (slNaN_any _ _).mono ?_; rintro e w' ⟨rfl, rfl⟩)
          go_ret2
          exact ⟨by rw [HD.out, ← HA.out]; simp [hx], rfl⟩
      · have hd : decide (t ∈ ids) = false := by
          rw [decide_eq_false_iff_not, hm]; rintro ⟨h, _⟩; omega
        have HD := Aside0.mk hd
        have HA := Aside0.mk hab'
        clear hd hm hab'
        go_wp2
        go_ret2
        exact ⟨by rw [HD.out, ← HA.out]; rfl, rfl⟩
end Go.Proofs.YtddklkgcodjijaaGreat.R


/- Laws of no program: the builtin copy at elements of several cells, told as 'only this row has turned'. -/
namespace Go.Lab
open Go.RowKit

@[go_sem] theorem run_store_float {P : Program} {w : World} {a : Addr} {m : Mode} (k : FloatKind) (b : Nat) : (store a (.float k b) m).run P w = stored P w a (.float k b) m := run_store P w a _ m rfl

theorem run_copy_rowk {P : Program} (w : World) (dT sT ty elem : TypeId) (size g o dLen dCap : Nat) (a : Addr) (sLen sCap : Nat) (cur : Array Value) (t : TypeId) (cs : List Value)
    (hu : P.underlying dT = some (.slice elem)) (hs : (P.info? elem).map (·.size) = some size)
    (hg : w.heap[g]? = some (.cells cur t (0, 0))) (hn : cs.length = Nat.min sLen dLen * size)
    (hsrc : ∀ j v, cs[j]? = some v → w.cell? (a.add j) = some v) (hfit : o + cs.length ≤ cur.size) (h1 : ∀ v ∈ cs, v.oneCell' = true) :
    (Builtin.copy_ #[dT, sT] ty #[.slice (some ⟨g, o, none⟩) dLen dCap, .slice (some a) sLen sCap]).run P w =
      .ok (goInt (Nat.min sLen dLen)) (w.setRow g (cur.toList.take o ++ cs ++ cur.toList.drop (o + cs.length)).toArray) := by
  have hl := run_loadCells_list (P := P) w a cs hsrc
  have hst := run_storeCells_at P g o t cs 0 cur w hg (by simpa using hfit) h1
  cases hq : P.info? elem with
  | none => simp [hq] at hs
  | some i =>
    have hi : i.size = size := by simpa [hq] using hs
    subst hi
    rw [hn] at hl
    simp [Builtin.copy_, run_underlying hu, Builtin.lenOf, Builtin.firstCells, sizeOf, typeInfo, hq, hl, hst]

theorem grownBy_setRow (w : World) (g : Nat) (cs : Array Value) : w.grownBy (w.setRow g cs) (some g) :=
  ⟨rfl, rfl, rfl, by simp [World.setRow], fun k _ hk => setRow_other w g k _ (fun e => hk (by rw [e]))⟩

theorem grownBy_drew (w : World) (row : Option Nat) : w.grownBy w.drew row := ⟨rfl, rfl, rfl, Nat.le_refl _, fun _ _ _ => rfl⟩

theorem wpList_copyk {P : Program} {w : World} {ops : Array Oper} {rest : List Oper} {o : Oper} {a : Act} {Q : Exit → Act → World → Prop} (hgd : o.guard = none) (d s : Operand) (dT sT : TypeId)
    (ho : o.op = .call { callee := .builtin .copy, args := #[d, s], argTypes := #[dT, sT] }) (elem : TypeId) (size : Nat) (hu : P.underlying dT = some (.slice elem)) (hsz : (P.info? elem).map (·.size) = some size)
    (g off dLen dCap : Nat) (ad : Addr) (sLen sCap : Nat) (hd : a.eval d = .slice (some ⟨g, off, none⟩) dLen dCap) (hs : a.eval s = .slice (some ad) sLen sCap)
    (cur : List Value) (t : TypeId) (hg : w.heap[g]? = some (.cells cur.toArray t (0, 0))) (cs : List Value) (hn : cs.length = Nat.min sLen dLen * size)
    (hsrc : ∀ j v, cs[j]? = some v → w.cell? (ad.add j) = some v) (hfit : off + cs.length ≤ cur.length) (h1 : ∀ v ∈ cs, v.oneCell' = true)
    (h : ∀ w', Hid (w'.heap[g]? = some (.cells (splice cur off cs).toArray t (0, 0))) → w.grownBy w' (some g) → wpList P ops Q rest (a.put o.dst (goInt (Nat.min sLen dLen))) w') : wpList P ops Q (o :: rest) a w := by
  refine wpList_plain hgd fun K hK => ?_
  have hrun := run_copy_rowk (P := P) w dT sT o.type elem size g off dLen dCap ad sLen sCap cur.toArray t cs hu hsz hg hn hsrc (by simpa using hfit) h1
  unfold Oper.wp
  simp [execOp, ho, resolve, invoke, builtin, hd, hs, hrun, Result.andThen]
  exact hK _ _ (h _ (show _ = _ by simpa [splice] using setRow_heap w g _ _ t _ hg) (by simpa using grownBy_setRow w g _))

theorem step_copyk {P : Program} {ops : Array Oper} {o : Oper} {a : Act} {w : World} {K : Act → World → Prop} {Q : Exit → Act → World → Prop} {E : Prop} (hgd : o.guard = none) (d s : Operand) (dT sT : TypeId)
    (ho : o.op = .call { callee := .builtin .copy, args := #[d, s], argTypes := #[dT, sT] }) (elem : TypeId) (size : Nat) (hu : P.underlying dT = some (.slice elem)) (hsz : (P.info? elem).map (·.size) = some size)
    (g off dLen dCap : Nat) (ad : Addr) (sLen sCap : Nat) (hd : a.eval d = .slice (some ⟨g, off, none⟩) dLen dCap) (hs : a.eval s = .slice (some ad) sLen sCap)
    (cur : List Value) (t : TypeId) (hg : w.heap[g]? = some (.cells cur.toArray t (0, 0))) (cs : List Value) (hn : cs.length = Nat.min sLen dLen * size)
    (hsrc : ∀ j v, cs[j]? = some v → w.cell? (ad.add j) = some v) (hfit : off + cs.length ≤ cur.length) (h1 : ∀ v ∈ cs, v.oneCell' = true)
    (h : ∀ w', Hid (w'.heap[g]? = some (.cells (splice cur off cs).toArray t (0, 0))) → w.grownBy w' (some g) → K (a.put o.dst (goInt (Nat.min sLen dLen))) w') :
    if Region.wanted o (yielded ops a.tmps) = true then Oper.wp P o a w K Q else E := by
  have hw : Region.wanted o (yielded ops a.tmps) = true := by simp [Region.wanted, hgd]
  rw [if_pos hw]
  have hrun := run_copy_rowk (P := P) w dT sT o.type elem size g off dLen dCap ad sLen sCap cur.toArray t cs hu hsz hg hn hsrc (by simpa using hfit) h1
  unfold Oper.wp
  simp [execOp, ho, resolve, invoke, builtin, hd, hs, hrun, Result.andThen]
  exact h _ (show _ = _ by simpa [splice] using setRow_heap w g _ _ t _ hg) (by simpa using grownBy_setRow w g _)

/-- append(s[:i], make(T, k)...) where there is no room: a new block, told by its cells. -/
theorem wpList_append_zeros {P : Program} {w : World} {ops : Array Oper} {rest : List Oper} {o : Oper} {a : Act} {Q : Exit → Act → World → Prop} (hgd : o.guard = none) (s x : Operand) (t tn : TypeId)
    (ho : o.op = .call { callee := .builtin .append, args := #[s, x], argTypes := #[t, tn] }) (e : TypeId) (i : TypeInfo) (z : Value) (size bytes : Nat) (kq kn : IntKind) (ht : P.underlying t = some (.slice e)) (htn : P.underlying tn = some (.int kn)) (hi : P.info? e = some i) (hz : i.zero = some z)
    (hsize : i.size = size) (hby : i.bytes = bytes) (hzs : z.cells.size = size) (hs0 : 0 < size)
    (b sLen sCap : Nat) (kk : Int) (hs : a.eval s = .slice (some ⟨b, 0, none⟩) sLen sCap) (hx : a.eval x = .int kq kk) (k : Nat) (hkk : kk = (k : Int))
    (olds : List Value) (hol : olds.length = sLen * size) (hold : ∀ j v, olds[j]? = some v → w.cell? ((⟨b, 0, none⟩ : Addr).add j) = some v)
    (h0 : 0 < k) (hg : sCap < sLen + k) (h63 : ((sLen + k : Nat) : Int) ≤ 9223372036854775807) (hbig : (sLen + k) * bytes ≤ 140737488355328)
    (h : ∀ g cap zs w', sLen + k ≤ cap → cap ≤ 9223372036854775807 → zs.length = (cap - sLen) * size → w'.heap[g]? = some (.cells (olds ++ zs).toArray e (0, 0)) → w.grownBy w' none → g = w.heap.size →
      wpList P ops Q rest (a.put o.dst (.slice (some ⟨g, 0, none⟩) (sLen + k) cap)) w') : wpList P ops Q (o :: rest) a w := by
  subst hkk hsize hby
  have hold' : (Builtin.firstCells i.size sLen (.slice (some ⟨b, 0, none⟩) sLen sCap)).run P w.drew = .ok olds.toArray w.drew :=
    run_firstCells_some w.drew i.size sLen ⟨b, 0, none⟩ sLen sCap olds hol hold
  have hr := Lib.run_append_grow_zeros w t tn o.type e i z kq kn ht htn hi hz (some ⟨b, 0, none⟩) sLen sCap olds hold' k h0 hs0 hg h63 (by
    have : k * i.bytes ≤ (sLen + k) * i.bytes := Nat.mul_le_mul_right _ (by omega)
    omega) (growslice_fits hg hbig)
  refine Lib.wpList_append_run w hgd s x t tn ho _ _ hs hx _ _ hr ?_
  have hge := grownCap_ge w (sLen + k) sCap e
  have hcm := grownCap_le_maxLen w (sLen + k) sCap e (by unfold maxLen; omega)
  unfold maxLen at hcm
  refine h w.heap.size (grownCap w (sLen + k) sCap e) ((Builtin.zeroCells z.cells k ++ Builtin.zeroCells z.cells (grownCap w (sLen + k) sCap e - (sLen + k))).toList) _ hge (by omega) ?_ ?_ ?_ rfl
  · simp only [Array.length_toList, Array.size_append, size_zeroCells, hzs, ← Nat.add_mul]
    congr 1; omega
  · have := heap_alloc_new w.drew (.cells (olds.toArray ++ Builtin.zeroCells z.cells k ++ Builtin.zeroCells z.cells (grownCap w (sLen + k) sCap e - (sLen + k))) e)
    rw [show w.drew.heap.size = w.heap.size from rfl] at this
    rw [this]
    congr 2
    apply Array.ext'
    simp
  · exact (grownBy_drew w none).trans (World.grownBy_alloc _ _ _)

theorem splice_at {α : Type} (X Y cs : List α) : splice (X ++ Y) X.length cs = X ++ (cs ++ Y.drop cs.length) := by
  unfold splice
  rw [List.take_left, List.drop_append]
  simp

theorem splice_after {α : Type} (A zs F D : List α) : (splice (splice (A ++ zs) A.length F) (A.length + F.length) D).take (A.length + F.length + D.length) = A ++ F ++ D := by
  rw [splice_at, ← List.append_assoc, show A.length + F.length = (A ++ F).length by simp, splice_at, ← List.append_assoc, show (A ++ F).length + D.length = (A ++ F ++ D).length by simp; omega, List.take_left]

theorem splice_before {α : Type} (A M1 M2 F D : List α) (h : M1.length = F.length) : (splice (splice (A ++ M1 ++ M2) (A.length + F.length) D) A.length F).take (A.length + F.length + D.length) = A ++ F ++ D := by
  rw [show A.length + F.length = (A ++ M1).length by simp [h], splice_at, List.append_assoc, splice_at, ← h, List.drop_left, ← List.append_assoc, ← List.append_assoc]
  rw [show (A ++ M1).length + D.length = (A ++ F ++ D).length by simp [h]; omega, List.take_left]
end Go.Lab


namespace Go.Proofs.YtddklkgcodjijaaGreat.R
open Go.RowKit Go.Lab Go.Proofs.YtddklkgcodjijaaGreatW.PrintWords Go.Proofs.YtddklkgcodjijaaGreatW.PrintLast Go.Proofs.YtddklkgcodjijaaGreatW.PrintMore

theorem Tryz.info231 : (Tryz.prog.info? 231).map (fun i => (i.zero, i.size, i.bytes)) = some (some (.agg #[.int .i64 0, .float .f64 0]), 2, 16) := by kernel_rfl
theorem Tryz.size231 : (Tryz.prog.info? 231).map (·.size) = some 2 := by kernel_rfl

/-- arcs, cell by cell -/
def fl (l : List (Int × Nat)) : List Value := l.flatMap fun a => [.int .i64 a.1, .float .f64 a.2]
theorem fl_nil : fl [] = [] := rfl
theorem fl_cons (a : Int × Nat) (l : List (Int × Nat)) : fl (a :: l) = .int .i64 a.1 :: .float .f64 a.2 :: fl l := rfl
theorem fl_append (l m : List (Int × Nat)) : fl (l ++ m) = fl l ++ fl m := by simp [fl]
theorem fl_length (l : List (Int × Nat)) : (fl l).length = l.length * 2 := by
  induction l with
  | nil => rfl
  | cons a l ih => rw [fl_cons]; simp [ih]; omega
theorem fl_one (l : List (Int × Nat)) : ∀ u ∈ fl l, u.oneCell' = true := by
  intro u hu
  simp only [fl, List.mem_flatMap] at hu
  obtain ⟨a, _, ha⟩ := hu
  simp at ha
  rcases ha with rfl | rfl <;> rfl
theorem fl_take (l : List (Int × Nat)) : ∀ i, (fl l).take (i * 2) = fl (l.take i) := by
  induction l with
  | nil => intro i; simp [fl_nil]
  | cons a l ih =>
    intro i
    cases i with
    | zero => simp [fl_nil]
    | succ i => rw [show (i + 1) * 2 = i * 2 + 1 + 1 by omega, fl_cons, List.take_succ_cons, List.take_succ_cons, List.take_succ_cons, fl_cons, ih]
theorem fl_drop (l : List (Int × Nat)) : ∀ i, (fl l).drop (i * 2) = fl (l.drop i) := by
  induction l with
  | nil => intro i; simp [fl_nil]
  | cons a l ih =>
    intro i
    cases i with
    | zero => simp
    | succ i => rw [show (i + 1) * 2 = i * 2 + 1 + 1 by omega, fl_cons, List.drop_succ_cons, List.drop_succ_cons, List.drop_succ_cons, ih]

/-- the list with a at place i -/
def insAt (l : List (Int × Nat)) (i : Nat) (a : Int × Nat) : List (Int × Nat) := l.take i ++ a :: l.drop i

theorem insAt_end (l : List (Int × Nat)) (a : Int × Nat) : insAt l l.length a = l ++ [a] := by simp [insAt]

theorem blk_news {w : World} {vb : Nat} {a : Int × Nat} (hvb : w.heap[vb]? = some (.cells #[.int .i64 a.1, .float .f64 a.2] 231 (0,0))) :
    ∀ j u, (fl [a])[j]? = some u → w.cell? ((⟨vb, 0, none⟩ : Addr).add j) = some u := by
  intro j u hu
  rw [add_plain, cell_of_row w vb j _ _ _ hvb]
  simpa [fl] using hu

set_option maxHeartbeats 1000000 in
set_option maxRecDepth 100000 in
theorem insert_end (base : Nat) (v : Value) (l : List (Int × Nat)) (a : Int × Nat) (vb : Nat) (w : World) (hown : w.ownsRow base 231 2 v l.length (fl l))
    (hvb : w.heap[vb]? = some (.cells #[.int .i64 a.1, .float .f64 a.2] 231 (0,0))) (hbase : base ≤ w.heap.size) (hlen : l.length ≤ 1000) :
    Calls Tryz.prog 170 #[v, .int .i64 l.length, .slice (some ⟨vb, 0, none⟩) 1 1] w fun e w' => ∃ v', e = .returned v' ∧ w'.ownsRow base 231 2 v' (l.length + 1) (fl (insAt l l.length a)) ∧ w.grownBy w' v.ownBlock ∧
      (v'.ownBlock = v.ownBlock ∨ v'.ownBlock = some w.heap.size) := by
  have HN := Aside0.mk (blk_news hvb)
  have HO := Aside0.mk hown
  obtain ⟨i0, hi, hz0, hz1, hz2⟩ := info_parts Tryz.info231
  have HI := Aside0.mk (And.intro hi (And.intro hz0 (And.intro hz1 hz2)))
  clear hi hz0 hz1 hz2
  have hcase : ∃ A c, v = .slice A l.length c ∧ l.length ≤ c ∧ c ≤ maxLen := by
    rcases hown.2 with ⟨rfl, h0⟩ | ⟨g, cap, cur, rfl, _, _, h1, h2, _⟩
    · rw [h0]; exact ⟨_, _, rfl, Nat.zero_le _, Nat.zero_le _⟩
    · exact ⟨_, _, rfl, h1, h2⟩
  obtain ⟨A, c, rfl, hc, hc2⟩ := hcase
  unfold maxLen at hc2
  clear hvb hown
  have hfin : ∀ v' (w' : World), w'.ownsRow base 231 2 v' (l.length + 1) (fl l ++ fl [a]) → w'.ownsRow base 231 2 v' (l.length + 1) (fl (insAt l l.length a)) := by
    intro v' w' h; rw [insAt_end, fl_append]; exact h
  have HF := Aside0.mk hfin
  have HB := Aside0.mk (fl_length [a])
  clear hfin
  by_cases hcn : c = l.length
  · subst hcn
    go_enter Tryz.func170, Tryz.ntmps170
    go_wp2_with (at_builtin; refine wpList_append_own_at _ rfl _ _ 195 rfl base 231 i0 (.agg #[.int .i64 0, .float .f64 0]) 2 16 Tryz.underlying195 HI.out.1 HI.out.2.1 HI.out.2.2.1 HI.out.2.2.2 rfl (by decide) _ l.length (fl l) rfl HO.out ⟨vb, 0, none⟩ 1 1 (fl [a]) rfl ?q1 HN.out ?q2 ?q3 ?q4 ?q5 ?_)
    case q1 => rw [HB.out]; rfl
    case q2 => exact fl_one _
    case q3 => unfold maxLen; omega
    case q4 => omega
    case q5 => exact hbase
    intro v' w1 hown1 hgrow _ hat
    go_wp2
    go_ret
    exact ⟨v', rfl, HF.out _ _ hown1, hgrow, hat⟩
  · have hA : ∃ ad, A = some ad := by
      rcases HO.out.2 with ⟨h, h0⟩ | ⟨g, cap, cur, h, _⟩
      · injection h with h1 h2 h3; omega
      · injection h with h1 h2 h3; exact ⟨_, h1⟩
    obtain ⟨ad, rfl⟩ := hA
    go_enter Tryz.func170, Tryz.ntmps170
    go_wp2_with (at_builtin; refine wpList_append_own_at _ rfl _ _ 195 rfl base 231 i0 (.agg #[.int .i64 0, .float .f64 0]) 2 16 Tryz.underlying195 HI.out.1 HI.out.2.1 HI.out.2.2.1 HI.out.2.2.2 rfl (by decide) _ l.length (fl l) rfl HO.out ⟨vb, 0, none⟩ 1 1 (fl [a]) rfl ?q1 HN.out ?q2 ?q3 ?q4 ?q5 ?_)
    case q1 => rw [HB.out]; rfl
    case q2 => exact fl_one _
    case q3 => unfold maxLen; omega
    case q4 => omega
    case q5 => exact hbase
    intro v' w1 hown1 hgrow _ hat
    go_wp2
    go_ret
    exact ⟨v', rfl, HF.out _ _ hown1, hgrow, hat⟩
end Go.Proofs.YtddklkgcodjijaaGreat.R


namespace Go.Proofs.YtddklkgcodjijaaGreat.R
open Go.RowKit Go.Lab Go.Proofs.YtddklkgcodjijaaGreatW.PrintWords Go.Proofs.YtddklkgcodjijaaGreatW.PrintLast Go.Proofs.YtddklkgcodjijaaGreatW.PrintMore

theorem Tryz.sizeOf231 : ∀ w, (Go.sizeOf 231).run Tryz.prog w = .ok 2 w := fun _ => by kernel_rfl

theorem overlaps_no (w : World) (b vb off la ca lb cb : Nat) (cur : Array Value) (x y : Value) (hb : w.heap[b]? = some (.cells cur 231 (0,0))) (hcur : cur.size ≠ 0)
    (hvb : w.heap[vb]? = some (.cells #[x, y] 231 (0,0))) (hne : vb ≠ b) :
    (callFunc 179 #[.slice (some ⟨vb, 0, none⟩) la ca, .slice (some ⟨b, off, none⟩) lb cb]).run Tryz.prog w = .ok (.value (.bool false)) w := by
  rw [run_callFunc_extern Tryz.func179 (by kernel_rfl) (by kernel_rfl) (by kernel_rfl) (e := Extern.SlicesOverlaps.overlaps #[195, 195] #[4]) (by kernel_rfl),
    Lib.run_overlaps_apart w 195 4 231 Tryz.underlying195 2 Tryz.sizeOf231 ⟨vb, 0, none⟩ ⟨b, off, none⟩ la ca lb cb hne 231 231 2 cur.size (by simp [World.shape?, hvb]) (by simp [World.shape?, hb]) hcur (by simp [World.frozen?, hvb]) (by simp [World.frozen?, hvb])]
  rfl

set_option maxHeartbeats 2000000 in
set_option maxRecDepth 100000 in
theorem insert_shift (base b cap : Nat) (cur : Array Value) (l : List (Int × Nat)) (i : Nat) (hi : i < l.length) (hcap : l.length + 1 ≤ cap) (hc2 : cap ≤ 9223372036854775807) (a : Int × Nat) (vb : Nat) (w : World)
    (hb : w.heap[b]? = some (.cells cur 231 (0,0))) (hcur : cur.size = cap * 2) (htake : cur.toList.take (l.length * 2) = fl l)
    (hvb : w.heap[vb]? = some (.cells #[.int .i64 a.1, .float .f64 a.2] 231 (0,0))) (hne : vb ≠ b) (hlen : l.length ≤ 1000) :
    Calls Tryz.prog 170 #[.slice (some ⟨b, 0, none⟩) l.length cap, .int .i64 i, .slice (some ⟨vb, 0, none⟩) 1 1] w fun e w' => e = .returned (.slice (some ⟨b, 0, none⟩) (l.length + 1) cap) ∧
      w'.heap[b]? = some (.cells (splice (splice cur.toList ((i + 1) * 2) (fl (l.drop i))) (i * 2) (fl [a])).toArray 231 (0,0)) ∧ w.grownBy w' (some b) := by
  have HN := Aside0.mk (blk_news hvb)
  have HB := Aside0.mk hb
  have HV := Aside0.mk hvb
  have hov := fun off la ca lb cb => overlaps_no w b vb off la ca lb cb cur _ _ hb (by omega) hvb hne
  have hsrc : ∀ j v, (fl (l.drop i))[j]? = some v → w.cell? ((⟨b, 0 + i * 2, none⟩ : Addr).add j) = some v := by
    intro j v hv
    have : (⟨b, 0 + i * 2, none⟩ : Addr).add j = ⟨b, i * 2 + j, none⟩ := by unfold Addr.add; split <;> simp_all
    rw [this, cell_of_row w b _ _ _ _ hb]
    rw [← fl_drop, ← htake, List.getElem?_drop, List.getElem?_take] at hv
    split at hv
    · simpa using hv
    · cases hv
  have HS := Aside0.mk hsrc
  have hl1 := fl_length (l.drop i)
  have hl2 := fl_length [a]
  rw [List.length_drop] at hl1
  have HL1 := Aside0.mk hl1
  have HL2 := Aside0.mk hl2
  have HC := Aside0.mk hcur
  have HT := Aside0.mk htake
  have hlw : cur.toList.length = cap * 2 := by simpa using hcur
  have HLW := Aside0.mk hlw
  have hn1 : ¬ ((i : Int) = (l.length : Int)) := by omega
  have hn2 : ¬ (cap = i + 1) := by omega
  have hn3 : ¬ (cap = i) := by omega
  clear hb hvb hsrc hl1 hl2 hcur htake hlw
  go_enter Tryz.func170, Tryz.ntmps170
  go_wp2_with (simp only [hov])
  have hm1 : Nat.min (l.length + 1 - i) (l.length - i) = l.length - i := Nat.min_eq_right (by omega)
  have HM1 := Aside0.mk hm1
  clear hm1
  have hx1 : IntKind.i64.wrap ((i : Int) + 1) = (i : Int) + 1 := by rw [IntKind.wrap_i64]; omega
  have hx2 : (0 : Int) ≤ (i : Int) + 1 := by omega
  have hx3 : (i : Int) + 1 ≤ (l.length : Int) + 1 := by omega
  have hx4 : ((i : Int) + 1).toNat = i + 1 := by omega
  have hx6 : (i : Int) ≤ (l.length : Int) + 1 := by omega
  have hx5 : l.length + 1 - (i + 1) = l.length - i := by omega
  go_region_law (refine step_copyk rfl (.tmp 73) (.tmp 76) 195 195 rfl 231 2 Tryz.underlying195 Tryz.size231 b ((i + 1) * 2) (l.length - i) (cap - (i + 1)) ⟨b, i * 2, none⟩ (l.length + 1 - i) (cap - i) (by simp [Act.eval, Act.put]) (by simp [Act.eval, Act.put]) cur.toList 231 HB.out (fl (l.drop i)) (by rw [HL1.out, HM1.out]) (by simpa using HS.out) (by rw [HL1.out, HLW.out]; omega) (fl_one _) ?_; intro w2 HG2 hg2)
  have hv2 : w2.heap[vb]? = some (.cells #[.int .i64 a.1, .float .f64 a.2] 231 (0,0)) := by
    rw [hg2.block vb (blk_lt HV.out) (by simpa using hne)]; exact HV.out
  have HN2 := Aside0.mk (blk_news hv2)
  have HW := Aside0.mk ((grownBy_drew w (some b)).trans hg2)
  have hm2 : Nat.min 1 (l.length + 1 - i) = 1 := Nat.min_eq_left (by omega)
  have HM2 := Aside0.mk hm2
  have hls : (splice cur.toList ((i + 1) * 2) (fl (l.drop i))).length = cap * 2 := by rw [length_splice _ _ _ (by rw [HL1.out, HLW.out]; omega), HLW.out]
  have HLS := Aside0.mk hls
  clear hm2 hv2 hg2 hls hov
  go_wp2_with (with_reducible refine wpList_copyk rfl (.tmp 80) (.tmp 81) 195 195 rfl 231 2 Tryz.underlying195 Tryz.size231 b (i * 2) (l.length + 1 - i) (cap - i) ⟨vb, 0, none⟩ 1 1 ?p1 ?p2 (splice cur.toList ((i + 1) * 2) (fl (l.drop i))) 231 HG2.out (fl [a]) ?p3 HN2.out ?p4 ?p5 ?_)
  case p1 => simp [Act.eval]
  case p2 => simp [Act.eval]
  case p3 => rw [HL2.out, HM2.out]; rfl
  case p4 => rw [HL2.out, HLS.out]; simp; omega
  case p5 => exact fl_one _
  intro w3 HG3 hg3
  go_wp2
  go_ret
  exact ⟨rfl, HG3.out, HW.out.trans hg3⟩
end Go.Proofs.YtddklkgcodjijaaGreat.R


namespace Go.Proofs.YtddklkgcodjijaaGreat.R
open Go.RowKit Go.Lab Go.Proofs.YtddklkgcodjijaaGreatW.PrintWords Go.Proofs.YtddklkgcodjijaaGreatW.PrintLast Go.Proofs.YtddklkgcodjijaaGreatW.PrintMore

set_option maxHeartbeats 2000000 in
set_option maxRecDepth 100000 in
theorem insert_grow (b : Nat) (cur : Array Value) (l : List (Int × Nat)) (i : Nat) (hi : i < l.length) (a : Int × Nat) (vb : Nat) (w : World)
    (hb : w.heap[b]? = some (.cells cur 231 (0,0))) (hcur : cur.size = l.length * 2) (htake : cur.toList = fl l)
    (hvb : w.heap[vb]? = some (.cells #[.int .i64 a.1, .float .f64 a.2] 231 (0,0))) (hlen : l.length ≤ 1000) :
    Calls Tryz.prog 170 #[.slice (some ⟨b, 0, none⟩) l.length l.length, .int .i64 i, .slice (some ⟨vb, 0, none⟩) 1 1] w fun e w' => ∃ cap cells, e = .returned (.slice (some ⟨w.heap.size, 0, none⟩) (l.length + 1) cap) ∧ l.length + 1 ≤ cap ∧ cap ≤ 9223372036854775807 ∧
      w'.heap[w.heap.size]? = some (.cells cells 231 (0,0)) ∧ cells.size = cap * 2 ∧ cells.toList.take ((l.length + 1) * 2) = fl (insAt l i a) ∧ w.grownBy w' none := by
  have HV := Aside0.mk hvb
  have HBB := Aside0.mk hb
  have hbw := blk_lt hb
  have hvw := blk_lt hvb
  obtain ⟨i0, hi0, hz0, hz1, hz2⟩ := info_parts Tryz.info231
  have HI := Aside0.mk (And.intro hi0 (And.intro hz0 (And.intro hz1 hz2)))
  have hold : ∀ j v, (fl (l.take i))[j]? = some v → w.cell? ((⟨b, 0, none⟩ : Addr).add j) = some v := by
    intro j v hv
    rw [add_plain, cell_of_row w b _ _ _ _ hb]
    rw [← fl_take, ← htake, List.getElem?_take] at hv
    split at hv
    · simpa using hv
    · cases hv
  have HO := Aside0.mk hold
  have hl0 := fl_length (l.take i)
  rw [List.length_take, Nat.min_eq_left (by omega)] at hl0
  have hl1 := fl_length (l.drop i)
  rw [List.length_drop] at hl1
  have hl2 := fl_length [a]
  have HL0 := Aside0.mk hl0
  have HL1 := Aside0.mk hl1
  have HL2 := Aside0.mk hl2
  have HT := Aside0.mk htake
  have hn1 : ¬ ((i : Int) = (l.length : Int)) := by omega
  have hn3 : ¬ (l.length = i) := by omega
  clear hb hvb hl0 hl1 hl2 htake hold hi0 hz0 hz1 hz2 hcur
  obtain ⟨N, hN⟩ : ∃ N, N = w.heap.size := ⟨_, rfl⟩
  have HNN := Aside0.mk hN
  go_enter Tryz.func170, Tryz.ntmps170
  go_wp2_with (at_builtin; refine wpList_append_zeros rfl _ _ 195 3 rfl 231 i0 (.agg #[.int .i64 0, .float .f64 0]) 2 16 .i64 .i64 Tryz.underlying195 Tryz.underlying3 HI.out.1 HI.out.2.1 HI.out.2.2.1 HI.out.2.2.2 rfl (by decide) b i l.length _ rfl rfl (l.length + 1 - i) ?q0 (fl (l.take i)) HL0.out HO.out ?q1 ?q2 ?q3 ?q4 ?_)
  case q0 => omega
  case q1 => omega
  case q2 => omega
  case q3 => omega
  case q4 => omega
  intro g cap zs w1 hcap hcap2 hzs hw1 hg1 hgw
  have e1 : i + (l.length + 1 - i) = l.length + 1 := by omega
  rw [e1] at hcap ⊢
  have hv1 : w1.heap[vb]? = some (.cells #[.int .i64 a.1, .float .f64 a.2] 231 (0,0)) := by rw [hg1.block vb hvw (by simp)]; exact HV.out
  have hb1 : w1.heap[b]? = some (.cells cur 231 (0,0)) := by rw [hg1.block b hbw (by simp)]; exact HBB.out
  have hgb : b ≠ g := by omega
  have hgv : vb ≠ g := by omega
  have HN1 := Aside0.mk (blk_news hv1)
  have HB1 := Aside0.mk hb1
  have HW1 := Aside0.mk hw1
  have HG1 := Aside0.mk hg1
  have HGW := Aside0.mk hgw
  have HZS := Aside0.mk hzs
  have hrl : (fl (l.take i) ++ zs).length = cap * 2 := by rw [List.length_append, HL0.out, hzs]; omega
  have HRL := Aside0.mk hrl
  have hm1 : Nat.min 1 (l.length + 1 - i) = 1 := Nat.min_eq_left (by omega)
  have HM1 := Aside0.mk hm1
  have hn4 : ¬ (cap = i) := by omega
  clear e1 hv1 hb1 hw1 hg1 hgw hzs hrl hm1
  go_wp2_with (with_reducible refine wpList_copyk rfl (.tmp 43) (.tmp 44) 195 195 rfl 231 2 Tryz.underlying195 Tryz.size231 g (i * 2) (l.length + 1 - i) (cap - i) ⟨vb, 0, none⟩ 1 1 ?p1 ?p2 (fl (l.take i) ++ zs) 231 HW1.out (fl [a]) ?p3 HN1.out ?p4 ?p5 ?_)
  case p1 => simp [Act.eval]
  case p2 => simp [Act.eval]
  case p3 => rw [HL2.out, HM1.out]; rfl
  case p4 => rw [HL2.out, HRL.out]; simp; omega
  case p5 => exact fl_one _
  intro w2 HG2 hg2
  have hb2 : w2.heap[b]? = some (.cells cur 231 (0,0)) := by rw [hg2.block b (blk_lt HB1.out) (by simpa using hgb)]; exact HB1.out
  have hsrc : ∀ j v, (fl (l.drop i))[j]? = some v → w2.cell? ((⟨b, i * 2, none⟩ : Addr).add j) = some v := by
    intro j v hv
    have : (⟨b, i * 2, none⟩ : Addr).add j = ⟨b, i * 2 + j, none⟩ := by unfold Addr.add; split <;> simp_all
    rw [this, cell_of_row w2 b _ _ _ _ hb2]
    rw [← fl_drop, ← HT.out, List.getElem?_drop] at hv
    simpa using hv
  have HS := Aside0.mk hsrc
  have HGG2 := Aside0.mk hg2
  have hr2 : (splice (fl (l.take i) ++ zs) (i * 2) (fl [a])).length = cap * 2 := by rw [length_splice _ _ _ (by rw [HL2.out, HRL.out]; simp; omega), HRL.out]
  have HR2 := Aside0.mk hr2
  have hm2 : Nat.min (l.length - i) (l.length - i) = l.length - i := Nat.min_self _
  have HM2 := Aside0.mk hm2
  have hx1 : IntKind.i64.wrap ((i : Int) + 1) = (i : Int) + 1 := by rw [IntKind.wrap_i64]; omega
  have hx2 : (0 : Int) ≤ (i : Int) + 1 := by omega
  have hx3 : (i : Int) + 1 ≤ (l.length : Int) + 1 := by omega
  have hx4 : ((i : Int) + 1).toNat = i + 1 := by omega
  have hx5 : l.length + 1 - (i + 1) = l.length - i := by omega
  have hx6 : (i : Int) ≤ (l.length : Int) + 1 := by omega
  have hx7 : (i : Int) ≤ (l.length : Int) := by omega
  have hx8 : ¬ (cap = i + 1) := by omega
  clear hsrc hg2 hb2 hr2 hm2
  go_wp2
  go_region_law (refine step_copyk rfl (.tmp 50) (.tmp 53) 195 195 rfl 231 2 Tryz.underlying195 Tryz.size231 g ((i + 1) * 2) (l.length - i) (cap - (i + 1)) ⟨b, i * 2, none⟩ (l.length - i) (l.length - i) (by simp [Act.eval, Act.put]) (by simp [Act.eval, Act.put]) (splice (fl (l.take i) ++ zs) (i * 2) (fl [a])) 231 HG2.out (fl (l.drop i)) (by rw [HL1.out, HM2.out]) HS.out (by rw [HL1.out, HR2.out]; omega) (fl_one _) ?_; intro w3 HG3 hg3)
  go_wp2
  go_ret
  have hgrow : w.grownBy w3 none := by
    have h1 := HG1.out
    have h2 := HGG2.out
    have hsz1 : w1.heap.size ≤ w2.heap.size := h2.size
    refine ⟨hg3.os.trans (h2.os.trans h1.os), hg3.tape.trans (h2.tape.trans h1.tape), hg3.output.trans (h2.output.trans h1.output), Nat.le_trans h1.size (Nat.le_trans h2.size hg3.size), fun k hk _ => ?_⟩
    have hkg : some k ≠ some g := by rw [HGW.out]; simp; omega
    have := h1.size
    exact (hg3.block k (show k < w2.heap.size by omega) hkg).trans ((h2.block k (by omega) hkg).trans (h1.block k hk (by simp)))
  refine ⟨cap, (splice (splice (fl (l.take i) ++ zs) (i * 2) (fl [a])) ((i + 1) * 2) (fl (l.drop i))).toArray, by rw [HGW.out]; rfl, by omega, hcap2, by rw [← HGW.out]; exact HG3.out, ?_, ?_, hgrow⟩
  · rw [List.size_toArray, length_splice _ _ _ (by rw [HL1.out, HR2.out]; omega), HR2.out]
  · have h := splice_after (fl (l.take i)) zs (fl [a]) (fl (l.drop i))
    rw [HL0.out, HL1.out, HL2.out] at h
    rw [List.toList_toArray, show (l.length + 1) * 2 = i * 2 + [a].length * 2 + (l.length - i) * 2 by simp; omega, show (i + 1) * 2 = i * 2 + [a].length * 2 by simp; omega, h, ← fl_append, ← fl_append]
    simp [insAt]

/-- slices.Insert at arcs, one new arc: whatever room there is. -/
theorem insert_any (base : Nat) (v : Value) (l : List (Int × Nat)) (i : Nat) (hi : i ≤ l.length) (a : Int × Nat) (vb : Nat) (w : World) (hown : w.ownsRow base 231 2 v l.length (fl l))
    (hvb : w.heap[vb]? = some (.cells #[.int .i64 a.1, .float .f64 a.2] 231 (0,0))) (hne : v.ownBlock ≠ some vb) (hbase : base ≤ w.heap.size) (hlen : l.length ≤ 1000) :
    Calls Tryz.prog 170 #[v, .int .i64 i, .slice (some ⟨vb, 0, none⟩) 1 1] w fun e w' => ∃ v', e = .returned v' ∧ w'.ownsRow base 231 2 v' (l.length + 1) (fl (insAt l i a)) ∧ w.grownBy w' v.ownBlock ∧
      (v'.ownBlock = v.ownBlock ∨ v'.ownBlock = some w.heap.size) := by
  by_cases h : i = l.length
  · subst h; exact insert_end base v l a vb w hown hvb hbase hlen
  · have hlt : i < l.length := by omega
    have hil : (insAt l i a).length = l.length + 1 := by simp [insAt]; omega
    have hfl : (fl (insAt l i a)).length = (l.length + 1) * 2 := by rw [fl_length, hil]
    rcases hown.2 with ⟨_, h0⟩ | ⟨g, cap, cur, rfl, hb1, hg, hc1, hc2, hcs, htk⟩
    · omega
    · have hc3 := hc2
      unfold maxLen at hc3
      by_cases hroom : l.length + 1 ≤ cap
      · refine (insert_shift base g cap cur l i hlt hroom (by omega) a vb w hg hcs htk hvb (fun e => hne (by rw [e]; rfl)) hlen).mono ?_
        rintro e w' ⟨rfl, hh, hgr⟩
        refine ⟨_, rfl, ⟨hfl, .inr ⟨g, cap, _, rfl, hb1, hh, hroom, hc2, ?_, ?_⟩⟩, hgr, .inl rfl⟩
        · have hl1 := fl_length (l.drop i)
          rw [List.length_drop] at hl1
          have hl2 := fl_length [a]
          have hcl : cur.toList.length = cap * 2 := by simpa using hcs
          have h1 : (splice cur.toList ((i + 1) * 2) (fl (l.drop i))).length = cap * 2 := by rw [length_splice _ _ _ (by rw [hl1, hcl]; omega), hcl]
          rw [List.size_toArray, length_splice _ _ _ (by rw [h1, hl2]; simp; omega), h1]
        · have hl1 := fl_length (l.drop i)
          rw [List.length_drop] at hl1
          have hl2 := fl_length [a]
          have hcl : cur.toList.length = cap * 2 := by simpa using hcs
          have hsp : cur.toList = (cur.toList.take (i * 2)) ++ ((cur.toList.drop (i * 2)).take 2) ++ (cur.toList.drop (i * 2)).drop 2 := by
            rw [List.append_assoc, List.take_append_drop, List.take_append_drop]
          have hA : cur.toList.take (i * 2) = fl (l.take i) := by
            rw [← fl_take, ← htk, List.take_take, Nat.min_eq_left (by omega)]
          have hl0 := fl_length (l.take i)
          rw [List.length_take, Nat.min_eq_left (by omega)] at hl0
          have h := splice_before (fl (l.take i)) ((cur.toList.drop (i * 2)).take 2) ((cur.toList.drop (i * 2)).drop 2) (fl [a]) (fl (l.drop i)) (by rw [hl2, List.length_take, List.length_drop, hcl]; simp; omega)
          rw [hl0, hl1, hl2, ← hA, ← hsp] at h
          rw [List.toList_toArray, show (l.length + 1) * 2 = i * 2 + [a].length * 2 + (l.length - i) * 2 by simp; omega, show (i + 1) * 2 = i * 2 + [a].length * 2 by simp; omega, h, hA, ← fl_append, ← fl_append]
          simp [insAt]
      · obtain rfl : cap = l.length := by omega
        have htk' : cur.toList = fl l := by rw [← htk, List.take_of_length_le (by simp [hcs])]
        refine (insert_grow g cur l i hlt a vb w hg hcs htk' hvb hlen).mono ?_
        rintro e w' ⟨cap, cells, rfl, h1, h2, h3, h4, h5, h6⟩
        exact ⟨_, rfl, ⟨hfl, .inr ⟨w.heap.size, cap, cells, rfl, hbase, h3, h1, by unfold maxLen; omega, h4, h5⟩⟩, ⟨h6.os, h6.tape, h6.output, h6.size, fun k hk _ => h6.block k hk (by simp)⟩, .inr rfl⟩
end Go.Proofs.YtddklkgcodjijaaGreat.R


namespace Go.Proofs.YtddklkgcodjijaaGreat.R
open Go.RowKit Go.Lab Go.Proofs.YtddklkgcodjijaaGreatW.PrintWords Go.Proofs.YtddklkgcodjijaaGreatW.PrintLast Go.Proofs.YtddklkgcodjijaaGreatW.PrintMore

set_option maxHeartbeats 400000 in
theorem cmp39_any (x k : Int) (y : Nat) (w : World) (h0 : 0 ≤ x) (h1 : x ≤ 1000) (h2 : 0 ≤ k) (h3 : k ≤ 1000) :
    Calls Tryz.prog 169 #[.agg #[.int .i64 x, .float .f64 y], .int .i64 k] w fun e w' => e = .returned (.int .i64 (x - k)) ∧ w.alloc (.cells #[.int .i64 x, .float .f64 y] 231) = w' := by
  go_enter Tryz.func169, Tryz.ntmps169
  go_wp2
  go_ret
  exact ⟨rfl, rfl⟩

/-- the cells of arc h of an owned row -/
theorem fl_cells {w : World} {base : Nat} {v : Value} {l : List (Int × Nat)} (h : w.ownsRow base 231 2 v l.length (fl l)) (j : Nat) (hj : j < l.length) :
    ∃ g cap, v = .slice (some ⟨g, 0, none⟩) l.length cap ∧ g < w.heap.size ∧ l.length ≤ cap ∧ w.cell? ⟨g, j * 2, none⟩ = some (.int .i64 l[j].1) ∧ w.cell? ⟨g, j * 2 + 1, none⟩ = some (.float .f64 l[j].2) := by
  rcases h.2 with ⟨_, h0⟩ | ⟨g, cap, cur, rfl, hb1, hg, hc1, hc2, hcs, htk⟩
  · omega
  · refine ⟨g, cap, rfl, blk_lt hg, hc1, ?_, ?_⟩
    · rw [cell_of_row w g _ _ _ _ hg]
      have h1 : (fl l)[j * 2]? = some (.int .i64 l[j].1) := by
        have := fl_drop l j
        rw [List.drop_eq_getElem_cons hj, fl_cons] at this
        have h2 : ((fl l).drop (j * 2))[0]? = some (.int .i64 l[j].1) := by rw [this]; rfl
        rw [List.getElem?_drop] at h2
        simpa using h2
      rw [← htk, List.getElem?_take] at h1
      split at h1
      · simpa using h1
      · cases h1
    · rw [cell_of_row w g _ _ _ _ hg]
      have h1 : (fl l)[j * 2 + 1]? = some (.float .f64 l[j].2) := by
        have := fl_drop l j
        rw [List.drop_eq_getElem_cons hj, fl_cons] at this
        have h2 : ((fl l).drop (j * 2))[1]? = some (.float .f64 l[j].2) := by rw [this]; rfl
        rw [List.getElem?_drop] at h2
        simpa using h2
      rw [← htk, List.getElem?_take] at h1
      split at h1
      · simpa using h1
      · cases h1

def keys (l : List (Int × Nat)) : List Int := l.map (·.1)
theorem keys_length (l : List (Int × Nat)) : (keys l).length = l.length := by simp [keys]

set_option maxHeartbeats 2000000 in
set_option maxRecDepth 100000 in
theorem bsf39_any (base : Nat) (v : Value) (l : List (Int × Nat)) (k : Int) (w : World) (h : w.ownsRow base 231 2 v l.length (fl l)) (hs : (keys l).Pairwise (· < ·)) (hb : l.length ≤ 1000)
    (hk0 : 0 ≤ k) (hk1 : k ≤ 1000) (hkk : ∀ a ∈ l, 0 ≤ a.1 ∧ a.1 ≤ 1000) :
    Calls Tryz.prog 168 #[v, .int .i64 k, .func (.func 169) #[] #[]] w fun e w' => e = .returned (.tuple #[.int .i64 (rank (keys l) k), .bool (decide (k ∈ keys l))]) ∧ Below w.heap.size w w' := by
  have HS := Aside0.mk hs
  have HC := Aside0.mk h
  have HK := Aside0.mk hkk
  have hrl := rank_le (keys l) k
  rw [keys_length] at hrl
  have HKL := Aside0.mk (keys_length l)
  have hv : ∃ A c, v = .slice A l.length c := own_slice h
  obtain ⟨A, c, rfl⟩ := hv
  clear hs h hkk
  go_enter Tryz.func168, Tryz.ntmps168
  go_wp2
  go_loopw [9, 10] (fun i j wr => ∃ a b : Nat, i = .int .i64 a ∧ j = .int .i64 b ∧ a ≤ rank (keys l) k ∧ rank (keys l) k ≤ b ∧ b ≤ l.length ∧ Below w.heap.size w wr) (fun i j _ => (intOf j - intOf i).toNat)
  case atStart => exact ⟨0, l.length, rfl, rfl, Nat.zero_le _, hrl, Nat.le_refl _, Below.refl _ _⟩
  case round =>
    obtain ⟨a, b, rfl, rfl, h1, h2, h3, hbl⟩ := hrel
    have HBL := Aside0.mk hbl
    clear hbl
    by_cases hab : a < b
    · obtain ⟨h, hh⟩ : ∃ h : Nat, ((a : Int) + (b : Int)) / 2 = (h : Int) := ⟨(a + b) / 2, by omega⟩
      have hh1 : a ≤ h := by omega
      have hh2 : h < b := by omega
      have hlt : h < l.length := by omega
      obtain ⟨g, cap, hv, hgw, hlc, hc1, hc2⟩ := fl_cells HC.out h hlt
      injection hv with e1 e2 e3
      subst e1 e3
      have hr := rank_lt HS.out k h (by rw [HKL.out]; exact hlt)
      have hge : (keys l)[h]'(by rw [HKL.out]; exact hlt) = l[h].1 := by simp [keys]
      rw [hge] at hr
      have hx := HK.out l[h] (List.getElem_mem _)
      rw [← HBL.out.cell (p := ⟨g, h * 2, none⟩) hgw] at hc1
      rw [← HBL.out.cell (p := ⟨g, h * 2 + 1, none⟩) hgw] at hc2
      have HR := Aside0.mk hr
      clear hr hge
      generalize l[h].1 = x at HR hc1 hx
      generalize l[h].2 = y at hc2
      obtain ⟨hx0, hx1⟩ := hx
      by_cases hx : x < k
      · have hx' : decide (x - k < 0) = true := by simp; omega
        go_wp2_with (go_at_call 169; refine (cmp39_any _ _ _ _ hx0 hx1 hk0 hk1).mono ?_; rintro e w' ⟨rfl, rfl⟩)
        go_roundw
        case rel => exact ⟨h + 1, b, by go_num, rfl, HR.out.1 hx, h2, h3, HBL.out.alloc HBL.out.size _⟩
        case measure => simp [intOf]; omega
      · have hx' : decide (x - k < 0) = false := by simp; omega
        go_wp2_with (go_at_call 169; refine (cmp39_any _ _ _ _ hx0 hx1 hk0 hk1).mono ?_; rintro e w' ⟨rfl, rfl⟩)
        go_roundw
        case rel => exact ⟨a, h, rfl, rfl, h1, by have := HR.out; omega, by omega, HBL.out.alloc HBL.out.size _⟩
        case measure => simp [intOf]; omega
    · have hab' : a = rank (keys l) k := by omega
      have hm := rank_mem HS.out k
      by_cases hlt : a < l.length
      · obtain ⟨g, cap, hv, hgw, hlc, hc1, hc2⟩ := fl_cells HC.out a hlt
        injection hv with e1 e2 e3
        subst e1 e3
        have hlt' : a < (keys l).length := by rw [HKL.out]; exact hlt
        have hge : (keys l)[a]'hlt' = l[a].1 := by simp [keys]
        have hm' : k ∈ keys l ↔ l[a].1 = k := by rw [hm, ← hge]; subst hab'; exact ⟨fun ⟨_, e⟩ => e, fun e => ⟨hlt', e⟩⟩
        have hx := HK.out l[a] (List.getElem_mem _)
        rw [← HBL.out.cell (p := ⟨g, a * 2, none⟩) hgw] at hc1
        rw [← HBL.out.cell (p := ⟨g, a * 2 + 1, none⟩) hgw] at hc2
        have HM := Aside0.mk hm'
        have HA := Aside0.mk hab'
        clear hm hm' hge hab'
        generalize l[a].1 = x at HM hc1 hx
        generalize l[a].2 = y at hc2
        obtain ⟨hx0, hx1⟩ := hx
        have hd : decide (k ∈ keys l) = decide (x = k) := by simp [HM.out]
        have HD := Aside0.mk hd
        clear hd
        by_cases hx : x = k
        · have hx' : ((x - k) == 0) = true := by simp; omega
          have HX := Aside0.mk hx
          clear hx
          go_wp2_with (go_at_call 169; refine (cmp39_any _ _ _ _ hx0 hx1 hk0 hk1).mono ?_; rintro e w' ⟨rfl, rfl⟩)
          go_ret2
          exact ⟨by rw [HD.out, ← HA.out]; simp [HX.out], HBL.out.alloc HBL.out.size _⟩
        · have hx' : ((x - k) == 0) = false := by simp; omega
          have HX := Aside0.mk hx
          clear hx
          go_wp2_with (go_at_call 169; refine (cmp39_any _ _ _ _ hx0 hx1 hk0 hk1).mono ?_; rintro e w' ⟨rfl, rfl⟩)
          go_ret2
          exact ⟨by rw [HD.out, ← HA.out]; simp [HX.out], HBL.out.alloc HBL.out.size _⟩
      · have hd : decide (k ∈ keys l) = false := by
          rw [decide_eq_false_iff_not, hm]; rintro ⟨h, _⟩; rw [HKL.out] at h; omega
        have HD := Aside0.mk hd
        have HA := Aside0.mk hab'
        clear hd hm hab'
        go_wp2
        go_ret2
        exact ⟨by rw [HD.out, ← HA.out]; rfl, HBL.out⟩

end Go.Proofs.YtddklkgcodjijaaGreat.R


namespace Go.Proofs.YtddklkgcodjijaaGreat.R
open Go.RowKit Go.Lab Go.Proofs.YtddklkgcodjijaaGreatW.PrintWords Go.Proofs.YtddklkgcodjijaaGreatW.PrintLast Go.Proofs.YtddklkgcodjijaaGreatW.PrintMore

/-- a list with the arc to 'to' laid -/
def setA (l : List (Int × Nat)) (k : Int) (x : Nat) : List (Int × Nat) :=
  if k ∈ keys l then l.set (rank (keys l) k) (k, x) else insAt l (rank (keys l) k) (k, x)

theorem fl_set (l : List (Int × Nat)) : ∀ (i : Nat) (a : Int × Nat), fl (l.set i a) = ((fl l).set (i * 2) (.int .i64 a.1)).set (i * 2 + 1) (.float .f64 a.2) := by
  induction l with
  | nil => intro i a; simp [fl_nil]
  | cons b l ih =>
    intro i a
    cases i with
    | zero => simp [fl_cons]
    | succ i => rw [List.set_cons_succ, fl_cons, fl_cons, ih, show (i + 1) * 2 = i * 2 + 1 + 1 by omega]; rfl

theorem own_set_w {w : World} {base g cap : Nat} {l : List (Int × Nat)} (h : w.ownsRow base 231 2 (.slice (some ⟨g, 0, none⟩) l.length cap) l.length (fl l)) (i : Nat) (hi : i < l.length) (x : Nat) :
    (w.setCell ⟨g, i * 2 + 1, none⟩ (.float .f64 x)).ownsRow base 231 2 (.slice (some ⟨g, 0, none⟩) l.length cap) (l.set i (l[i].1, x)).length (fl (l.set i (l[i].1, x))) := by
  rcases h.2 with ⟨hn, _⟩ | ⟨g', cap', cur, hv, hb1, hg, hc1, hc2, hcs, htk⟩
  · cases hn
  · injection hv with e1 _ e3
    injection e1 with e1
    injection e1 with e1
    subst e1 e3
    refine ⟨by rw [fl_length], .inr ⟨g, cap, cur.setIfInBounds (i * 2 + 1) (.float .f64 x), by simp, hb1, blk_set hg _ _, by simpa using hc1, hc2, by simpa using hcs, ?_⟩⟩
    rw [Array.toList_setIfInBounds, List.length_set, List.take_set, htk, fl_set]
    have : (fl l)[i * 2]? = some (.int .i64 l[i].1) := by
      have := fl_drop l i
      rw [List.drop_eq_getElem_cons hi, fl_cons] at this
      have h2 : ((fl l).drop (i * 2))[0]? = some (.int .i64 l[i].1) := by rw [this]; rfl
      rw [List.getElem?_drop] at h2
      simpa using h2
    have h3 : (fl l).set (i * 2) (.int .i64 l[i].1) = fl l := by
      apply List.ext_getElem?
      intro j
      rw [List.getElem?_set]
      split
      · rename_i e; subst e
        split
        · rw [this]
        · rename_i hh; rw [List.getElem?_eq_none (by omega)]
      · rfl
    rw [h3]

set_option maxHeartbeats 2000000 in
set_option maxRecDepth 100000 in
theorem set_has (base : Nat) (v : Value) (l : List (Int × Nat)) (k : Int) (x : Nat) (w : World) (h : w.ownsRow base 231 2 v l.length (fl l)) (hs : (keys l).Pairwise (· < ·)) (hb : l.length ≤ 1000)
    (hk0 : 0 ≤ k) (hk1 : k ≤ 1000) (hkk : ∀ a ∈ l, 0 ≤ a.1 ∧ a.1 ≤ 1000) (hmem : k ∈ keys l) :
    Calls Tryz.prog 132 #[v, .int .i64 k, .float .f64 x] w fun e w' => ∃ v', e = .returned v' ∧ w'.ownsRow base 231 2 v' (setA l k x).length (fl (setA l k x)) ∧ w.grownBy w' v.ownBlock ∧
      (v'.ownBlock = v.ownBlock ∨ ∃ b, v'.ownBlock = some b ∧ w.heap.size ≤ b) := by
  have HS := Aside0.mk hs
  have HC := Aside0.mk h
  have HK := Aside0.mk hkk
  have HM := Aside0.mk hmem
  obtain ⟨hr, he⟩ := (rank_mem hs k).1 hmem
  rw [keys_length] at hr
  obtain ⟨g, cap, rfl, hgw, hlc, hc1, hc2⟩ := fl_cells h (rank (keys l) k) hr
  have hke : l[rank (keys l) k].1 = k := by simpa [keys] using he
  have hfz : w.frozen? ⟨g, rank (keys l) k * 2 + 1, none⟩ = false := by
    rcases h.2 with ⟨hn, _⟩ | ⟨g', cap', cur, hv, hb1, hg, _⟩
    · cases hn
    · injection hv with e1 _ e3
      injection e1 with e1
      injection e1 with e1
      subst e1
      exact blk_frozen hg _
  have hset : setA l k x = l.set (rank (keys l) k) (l[rank (keys l) k].1, x) := by unfold setA; rw [if_pos hmem, hke]
  have HSET := Aside0.mk hset
  generalize l[rank (keys l) k].2 = y at hc2
  clear hc1 hke hset
  obtain ⟨i, hi⟩ : ∃ i, i = rank (keys l) k := ⟨_, rfl⟩
  rw [← hi] at hr hc2 hfz
  have HI := Aside0.mk hi
  have hd : decide (k ∈ keys l) = true := decide_eq_true hmem
  clear hs h hkk hmem he hi
  go_enter Tryz.func132, Tryz.ntmps132
  go_wp2_with (go_at_call 168; refine (bsf39_any base _ l k _ HC.out HS.out hb hk0 hk1 HK.out).mono ?_; rintro e w1 ⟨rfl, hbl⟩; rw [hd, ← HI.out]; rw [← hbl.cell (p := ⟨g, i * 2 + 1, none⟩) hgw] at hc2; rw [← hbl.frozen (p := ⟨g, i * 2 + 1, none⟩) hgw] at hfz; have HBL := Aside0.mk hbl; clear hbl hd)
  go_ret
  refine ⟨_, rfl, ?_, ?_, .inl rfl⟩
  · rw [HSET.out]
    have h1 := own_set_w (World.ownsRow.kept HC.out (grown_of_below HBL.out none) (.inr (by simp [Value.ownBlock]))) i hr x
    have e : l[i] = l[rank (keys l) k]'(by rw [← HI.out]; exact hr) := by simp [HI.out]
    have e2 : l.set (rank (keys l) k) ((l[rank (keys l) k]'(by rw [← HI.out]; exact hr)).1, x) = l.set i (l[i].1, x) := by rw [← e, ← HI.out]
    rw [e2]
    exact h1
  · exact (grown_of_below HBL.out _).trans ⟨rfl, rfl, rfl, by simp [World.setCell], fun k hk hne => Below.heap_setCell _ _ _ _ (fun e => hne (by simp [Value.ownBlock, e]))⟩

set_option maxHeartbeats 2000000 in
set_option maxRecDepth 100000 in
theorem set_new (base : Nat) (v : Value) (l : List (Int × Nat)) (k : Int) (x : Nat) (w : World) (h : w.ownsRow base 231 2 v l.length (fl l)) (hs : (keys l).Pairwise (· < ·)) (hb : l.length ≤ 1000)
    (hk0 : 0 ≤ k) (hk1 : k ≤ 1000) (hkk : ∀ a ∈ l, 0 ≤ a.1 ∧ a.1 ≤ 1000) (hmem : ¬ k ∈ keys l) (hbase : base ≤ w.heap.size) :
    Calls Tryz.prog 132 #[v, .int .i64 k, .float .f64 x] w fun e w' => ∃ v', e = .returned v' ∧ w'.ownsRow base 231 2 v' (setA l k x).length (fl (setA l k x)) ∧ w.grownBy w' v.ownBlock ∧
      (v'.ownBlock = v.ownBlock ∨ ∃ b, v'.ownBlock = some b ∧ w.heap.size ≤ b) := by
  have HS := Aside0.mk hs
  have HC := Aside0.mk h
  have HK := Aside0.mk hkk
  have hset : setA l k x = insAt l (rank (keys l) k) (k, x) := by unfold setA; rw [if_neg hmem]
  have hil : (insAt l (rank (keys l) k) (k, x)).length = l.length + 1 := by
    have := rank_le (keys l) k
    rw [keys_length] at this
    simp [insAt]; omega
  rw [hset, hil]
  have hrl := rank_le (keys l) k
  rw [keys_length] at hrl
  obtain ⟨i, hi⟩ : ∃ i, i = rank (keys l) k := ⟨_, rfl⟩
  rw [← hi] at hrl ⊢
  have HI := Aside0.mk hi
  have hd : decide (k ∈ keys l) = false := decide_eq_false hmem
  have hvw : ∀ g, v.ownBlock = some g → g < w.heap.size := fun g hg => own_lt h g hg
  have HVW := Aside0.mk hvw
  clear hs h hkk hmem hi hset hil hvw
  go_enter Tryz.func132, Tryz.ntmps132
  go_wp2_with (go_at_call 168; refine (bsf39_any base _ l k _ HC.out HS.out hb hk0 hk1 HK.out).mono ?_; rintro e w1 ⟨rfl, hbl⟩; rw [hd, ← HI.out]; have HBL := Aside0.mk hbl; clear hbl hd)
  have hsz := HBL.out.size
  refine (insert_any base v l i hrl (k, x) w1.heap.size _ ((World.ownsRow.kept HC.out (grown_of_below HBL.out none) (by cases v.ownBlock <;> simp)).alloc _) (heap_alloc_new _ _) (fun e => by have := HVW.out _ e; omega) (by simp; omega) hb).mono ?_
  rintro e w2 ⟨v', rfl, hown2, hgr2, hat⟩
  go_wp2
  go_ret
  refine ⟨v', rfl, hown2, ?_, ?_⟩
  · exact (grown_of_below HBL.out _).trans ((World.grownBy_alloc _ _ _).trans hgr2)
  · rcases hat with h | h
    · exact .inl h
    · exact .inr ⟨_, h, by simp; omega⟩

/-- impl.set: the arc to k is laid into a row of arcs. -/
theorem set_any (base : Nat) (v : Value) (l : List (Int × Nat)) (k : Int) (x : Nat) (w : World) (h : w.ownsRow base 231 2 v l.length (fl l)) (hs : (keys l).Pairwise (· < ·)) (hb : l.length ≤ 1000)
    (hk0 : 0 ≤ k) (hk1 : k ≤ 1000) (hkk : ∀ a ∈ l, 0 ≤ a.1 ∧ a.1 ≤ 1000) (hbase : base ≤ w.heap.size) :
    Calls Tryz.prog 132 #[v, .int .i64 k, .float .f64 x] w fun e w' => ∃ v', e = .returned v' ∧ w'.ownsRow base 231 2 v' (setA l k x).length (fl (setA l k x)) ∧ w.grownBy w' v.ownBlock ∧
      (v'.ownBlock = v.ownBlock ∨ ∃ b, v'.ownBlock = some b ∧ w.heap.size ≤ b) := by
  by_cases hm : k ∈ keys l
  · exact set_has base v l k x w h hs hb hk0 hk1 hkk hm
  · exact set_new base v l k x w h hs hb hk0 hk1 hkk hm hbase
end Go.Proofs.YtddklkgcodjijaaGreat.R


namespace Go.Proofs.YtddklkgcodjijaaGreat.R
open Go.RowKit Go.Lab Go.Proofs.YtddklkgcodjijaaGreatW.PrintWords Go.Proofs.YtddklkgcodjijaaGreatW.PrintLast Go.Proofs.YtddklkgcodjijaaGreatW.PrintMore

/-- a plain graph: ids, and for each the arcs from it and to it -/
structure Pl where
  ids : List Int
  out : List (List (Int × Nat))
  inn : List (List (Int × Nat))

/-- they lie in no block in common -/
def ApartS (a b : Value) : Prop := ∀ k, a.ownBlock = some k → b.ownBlock ≠ some k
theorem ApartS.symm {a b : Value} (h : ApartS a b) : ApartS b a := fun k hb ha => h k ha hb

/-- two tables of rows of arcs, no two rows in one block -/
structure Rows2 (w : World) (base : Nat) (A B : List (List (Int × Nat))) (ra rb : List Value) (va vb : Value) : Prop where
  a : w.ownsRow base 195 1 va ra.length ra
  b : w.ownsRow base 195 1 vb rb.length rb
  la : ra.length = A.length
  lb : rb.length = B.length
  rowA : ∀ i (h : i < ra.length), w.ownsRow base 231 2 ra[i] (A.getD i []).length (fl (A.getD i []))
  rowB : ∀ i (h : i < rb.length), w.ownsRow base 231 2 rb[i] (B.getD i []).length (fl (B.getD i []))
  sepT : ApartS va vb
  sepA : ∀ i j (h : i < ra.length) (h' : j < ra.length), i ≠ j → ApartS ra[i] ra[j]
  sepB : ∀ i j (h : i < rb.length) (h' : j < rb.length), i ≠ j → ApartS rb[i] rb[j]
  sepAB : ∀ i j (h : i < ra.length) (h' : j < rb.length), ApartS ra[i] rb[j]

theorem Rows2.symm {w : World} {base : Nat} {A B : List (List (Int × Nat))} {ra rb : List Value} {va vb : Value} (h : Rows2 w base A B ra rb va vb) : Rows2 w base B A rb ra vb va :=
  ⟨h.b, h.a, h.lb, h.la, h.rowB, h.rowA, h.sepT.symm, h.sepB, h.sepA, fun i j hi hj => (h.sepAB j i hj hi).symm⟩

structure PlAt (w : World) (base bp : Nat) (p : Pl) (ro ri : List Value) (vi vo vn : Value) : Prop where
  blk : w.heap[bp]? = some (.cells #[vi, vo, vn] 83 (0, 0))
  hb : base ≤ bp
  ids : w.ownsRow base 2 1 vi p.ids.length (nums .i64 p.ids)
  rows : Rows2 w base p.out p.inn ro ri vo vn
  po : p.out.length = p.ids.length
  pi : p.inn.length = p.ids.length

theorem own_of_heap {w w1 : World} {base : Nat} {e : TypeId} {size n : Nat} {v : Value} {xs : List Value} (h : w.ownsRow base e size v n xs) (hk : ∀ k, v.ownBlock = some k → w1.heap[k]? = w.heap[k]?) : w1.ownsRow base e size v n xs := own_move h hk

/-- a row of one-cell elements, one element stored -/
theorem own_put {w : World} {base g cap n : Nat} {e : TypeId} {xs : List Value} (h : w.ownsRow base e 1 (.slice (some ⟨g, 0, none⟩) n cap) n xs) (i : Nat) (v : Value) :
    (w.setCell ⟨g, i, none⟩ v).ownsRow base e 1 (.slice (some ⟨g, 0, none⟩) n cap) n (xs.set i v) := by
  rcases h.2 with ⟨hn, _⟩ | ⟨g', cap', cur, hv, hb1, hg, hc1, hc2, hcs, htk⟩
  · cases hn
  · injection hv with e1 _ e3
    injection e1 with e1
    injection e1 with e1
    subst e1 e3
    refine ⟨by simpa using h.1, .inr ⟨g, cap, cur.setIfInBounds i v, rfl, hb1, blk_set hg _ _, hc1, hc2, by simpa using hcs, ?_⟩⟩
    rw [Array.toList_setIfInBounds, List.take_set, htk]

theorem own_block {w : World} {base : Nat} {e : TypeId} {size n : Nat} {v : Value} {xs : List Value} (h : w.ownsRow base e size v n xs) {k : Nat} (hk : v.ownBlock = some k) : ∃ cells, w.heap[k]? = some (.cells cells e (0, 0)) := own_typed h k hk

theorem blk_type {w : World} {k : Nat} {c c' : Array Value} {e e' : TypeId} (h : w.heap[k]? = some (.cells c e (0,0))) (h' : w.heap[k]? = some (.cells c' e' (0,0))) : e = e' := by
  rw [h] at h'
  injection h' with h'
  injection h' with _ h'

/-- what stays when row i of a table is written anew and its header stored -/
theorem put_keep {w w1 : World} {base : Nat} {A B : List (List (Int × Nat))} {ra rb : List Value} {vb : Value} {g cap : Nat} (h : Rows2 w base A B ra rb (.slice (some ⟨g, 0, none⟩) ra.length cap) vb) (i : Nat) (hi : i < ra.length)
    (v' : Value) (hg : w.grownBy w1 ra[i].ownBlock) {k : Nat} {c : Array Value} {e : TypeId} (hk : w.heap[k]? = some (.cells c e (0,0))) (he : e ≠ 231) (he2 : e ≠ 195) : (w1.setCell ⟨g, i, none⟩ v').heap[k]? = w.heap[k]? := by
  obtain ⟨cg, hcg⟩ := own_block h.a (k := g) rfl
  rw [Below.heap_setCell _ _ _ _ (by rintro rfl; exact he2 (blk_type hk hcg))]
  refine hg.block _ (blk_lt hk) (fun hc => ?_)
  obtain ⟨c', hc'⟩ := own_block (h.rowA i hi) hc.symm
  exact he (blk_type hk hc')

theorem Rows2.put {w w1 : World} {base : Nat} {A B : List (List (Int × Nat))} {ra rb : List Value} {vb : Value} {g cap : Nat} (h : Rows2 w base A B ra rb (.slice (some ⟨g, 0, none⟩) ra.length cap) vb) (i : Nat) (hi : i < ra.length)
    (v' : Value) (l' : List (Int × Nat)) (hg : w.grownBy w1 ra[i].ownBlock) (hown : w1.ownsRow base 231 2 v' l'.length (fl l')) (hat : v'.ownBlock = ra[i].ownBlock ∨ ∃ b, v'.ownBlock = some b ∧ w.heap.size ≤ b) :
    Rows2 (w1.setCell ⟨g, i, none⟩ v') base (A.set i l') B (ra.set i v') rb (.slice (some ⟨g, 0, none⟩) (ra.set i v').length cap) vb := by
  obtain ⟨cg, hcg⟩ := own_block h.a (k := g) rfl
  have keep1 : ∀ {k : Nat} {c : Array Value} {e : TypeId}, w.heap[k]? = some (.cells c e (0,0)) → e ≠ 231 → w1.heap[k]? = w.heap[k]? := fun {k c e} hk he => hg.block _ (blk_lt hk) (fun hc => by
    obtain ⟨c', hc'⟩ := own_block (h.rowA i hi) hc.symm
    exact he (blk_type hk hc'))
  have keepR : ∀ {b : Value} {n : Nat} {xs : List Value}, w.ownsRow base 231 2 b n xs → ApartS b ra[i] → (w1.setCell ⟨g, i, none⟩ v').ownsRow base 231 2 b n xs := by
    intro b n xs hb ha
    refine own_of_heap hb (fun k hk => ?_)
    obtain ⟨c, hc⟩ := own_block hb hk
    rw [Below.heap_setCell _ _ _ _ (by rintro rfl; exact absurd (blk_type hc hcg) (by decide))]
    exact hg.block _ (blk_lt hc) (fun e => ha k hk e.symm)
  have hlen : (ra.set i v').length = ra.length := by simp
  have hnew : ∀ {b : Value} {n : Nat} {xs : List Value}, w.ownsRow base 231 2 b n xs → ApartS b ra[i] → ApartS b v' := by
    intro b n xs hb ha k hk e
    rcases hat with h2 | ⟨c, h2, h3⟩
    · exact ha k hk (by rw [← h2, e])
    · have := own_lt hb k hk
      rw [h2] at e
      injection e with e
      omega
  have hT : ∀ k, vb.ownBlock = some k → k ≠ g := by
    rintro k hk rfl
    exact h.sepT k rfl hk
  refine ⟨?_, own_of_heap h.b (fun k hk => ?_), by simpa using h.la, h.lb, ?_, ?_, ?_, ?_, h.sepB, ?_⟩
  · rw [hlen]
    refine own_put (own_of_heap h.a (fun k hk => ?_)) i v'
    obtain ⟨c, hc⟩ := own_block h.a hk; exact keep1 hc (by decide)
  · obtain ⟨c, hc⟩ := own_block h.b hk
    rw [Below.heap_setCell _ _ _ _ (hT k hk)]
    exact keep1 hc (by decide)
  · intro j hj
    rw [hlen] at hj
    rw [List.getD_eq_getElem?_getD, List.getElem?_set]
    by_cases hji : j = i
    · subst hji
      have : j < A.length := by rw [← h.la]; exact hi
      rw [if_pos rfl, if_pos this]
      simp only [List.getElem_set_self, Option.getD_some]
      refine own_of_heap hown (fun k hk => ?_)
      obtain ⟨c, hc⟩ := own_block hown hk
      have hg1 : w1.heap[g]? = some (.cells cg 195 (0,0)) := (keep1 hcg (by decide)).trans hcg
      rw [Below.heap_setCell _ _ _ _ (by rintro rfl; exact absurd (blk_type hc hg1) (by decide))]
    · rw [if_neg (Ne.symm hji), List.getElem_set_ne (Ne.symm hji), ← List.getD_eq_getElem?_getD]
      exact keepR (h.rowA j hj) (h.sepA j i hj hi hji)
  · intro j hj
    exact keepR (h.rowB j hj) (h.sepAB i j hi hj).symm
  · intro k hk e
    exact h.sepT k (by simpa [Value.ownBlock] using hk) e
  · intro j j' hj hj' hne
    rw [hlen] at hj hj'
    rw [List.getElem_set, List.getElem_set]
    by_cases h1 : i = j
    · rw [if_pos h1, if_neg (by omega)]
      exact (hnew (h.rowA j' hj') (h.sepA j' i hj' hi (by omega))).symm
    · rw [if_neg h1]
      by_cases h2 : i = j'
      · rw [if_pos h2]; exact hnew (h.rowA j hj) (h.sepA j i hj hi (by omega))
      · rw [if_neg h2]; exact h.sepA j j' hj hj' hne
  · intro j j' hj hj'
    rw [hlen] at hj
    rw [List.getElem_set]
    by_cases h1 : i = j
    · rw [if_pos h1]; exact (hnew (h.rowB j' hj') (h.sepAB i j' hi hj').symm).symm
    · rw [if_neg h1]; exact h.sepAB j j' hj hj'

theorem PlAt.put_out {w w1 : World} {base bp : Nat} {p : Pl} {ro ri : List Value} {vi vn : Value} {g cap : Nat} (h : PlAt w base bp p ro ri vi (.slice (some ⟨g, 0, none⟩) ro.length cap) vn) (i : Nat) (hi : i < ro.length)
    (v' : Value) (l' : List (Int × Nat)) (hg : w.grownBy w1 ro[i].ownBlock) (hown : w1.ownsRow base 231 2 v' l'.length (fl l')) (hat : v'.ownBlock = ro[i].ownBlock ∨ ∃ b, v'.ownBlock = some b ∧ w.heap.size ≤ b) :
    PlAt (w1.setCell ⟨g, i, none⟩ v') base bp { p with out := p.out.set i l' } (ro.set i v') ri vi (.slice (some ⟨g, 0, none⟩) (ro.set i v').length cap) vn := by
  refine ⟨?_, h.hb, own_of_heap h.ids (fun k hk => ?_), h.rows.put i hi v' l' hg hown hat, by simpa using h.po, h.pi⟩
  · rw [put_keep h.rows i hi v' hg h.blk (by decide) (by decide), List.length_set]; exact h.blk
  · obtain ⟨c, hc⟩ := own_block h.ids hk; exact put_keep h.rows i hi v' hg hc (by decide) (by decide)

theorem PlAt.put_inn {w w1 : World} {base bp : Nat} {p : Pl} {ro ri : List Value} {vi vo : Value} {g cap : Nat} (h : PlAt w base bp p ro ri vi vo (.slice (some ⟨g, 0, none⟩) ri.length cap)) (i : Nat) (hi : i < ri.length)
    (v' : Value) (l' : List (Int × Nat)) (hg : w.grownBy w1 ri[i].ownBlock) (hown : w1.ownsRow base 231 2 v' l'.length (fl l')) (hat : v'.ownBlock = ri[i].ownBlock ∨ ∃ b, v'.ownBlock = some b ∧ w.heap.size ≤ b) :
    PlAt (w1.setCell ⟨g, i, none⟩ v') base bp { p with inn := p.inn.set i l' } ro (ri.set i v') vi vo (.slice (some ⟨g, 0, none⟩) (ri.set i v').length cap) := by
  refine ⟨?_, h.hb, own_of_heap h.ids (fun k hk => ?_), (h.rows.symm.put i hi v' l' hg hown hat).symm, h.po, by simpa using h.pi⟩
  · rw [put_keep h.rows.symm i hi v' hg h.blk (by decide) (by decide), List.length_set]; exact h.blk
  · obtain ⟨c, hc⟩ := own_block h.ids hk; exact put_keep h.rows.symm i hi v' hg hc (by decide) (by decide)
end Go.Proofs.YtddklkgcodjijaaGreat.R


namespace Go.Proofs.YtddklkgcodjijaaGreat.R
open Go.RowKit Go.Lab Go.Proofs.YtddklkgcodjijaaGreatW.PrintWords Go.Proofs.YtddklkgcodjijaaGreatW.PrintLast Go.Proofs.YtddklkgcodjijaaGreatW.PrintMore

/-- a row of arcs: ascending, to places below n -/
def GoodRow (n : Nat) (l : List (Int × Nat)) : Prop := (keys l).Pairwise (· < ·) ∧ ∀ a ∈ l, 0 ≤ a.1 ∧ a.1 < n

theorem pairwise_len : ∀ (l : List Int) (lo hi : Int), l.Pairwise (· < ·) → (∀ x ∈ l, lo ≤ x ∧ x < hi) → lo ≤ hi → (l.length : Int) ≤ hi - lo
  | [], lo, hi, _, _, h => by simp; omega
  | x :: r, lo, hi, hp, hb, h => by
    rw [List.pairwise_cons] at hp
    have hx := hb x (by simp)
    have := pairwise_len r (x + 1) hi hp.2 (fun y hy => ⟨by have := hp.1 y hy; omega, (hb y (by simp [hy])).2⟩) (by omega)
    simp only [List.length_cons]
    omega

theorem GoodRow.len {n : Nat} {l : List (Int × Nat)} (h : GoodRow n l) : l.length ≤ n := by
  have := pairwise_len (keys l) 0 n h.1 (fun x hx => by
    obtain ⟨a, ha, rfl⟩ := List.mem_map.1 hx
    exact h.2 a ha) (by omega)
  rw [keys_length] at this
  omega

theorem keys_insAt (l : List (Int × Nat)) (i : Nat) (a : Int × Nat) : keys (insAt l i a) = (keys l).take i ++ a.1 :: (keys l).drop i := by
  simp [keys, insAt, List.map_take, List.map_drop]

theorem insert_sorted {l : List Int} (h : l.Pairwise (· < ·)) (k : Int) (hk : ¬ k ∈ l) : (l.take (rank l k) ++ k :: l.drop (rank l k)).Pairwise (· < ·) := by
  rw [List.pairwise_append]
  have hr := rank_le l k
  refine ⟨h.take, ?_, ?_⟩
  · rw [List.pairwise_cons]
    refine ⟨fun y hy => ?_, h.drop⟩
    obtain ⟨j, hj, rfl⟩ := List.getElem_of_mem hy
    rw [List.getElem_drop]
    rw [List.length_drop] at hj
    have hj' : rank l k + j < l.length := by omega
    have h1 := rank_lt h k (rank l k + j) hj'
    have h2 : ¬ l[rank l k + j] < k := by rw [h1]; omega
    have h3 : l[rank l k + j] ≠ k := fun e => hk (by rw [← e]; exact List.getElem_mem _)
    omega
  · intro x hx y hy
    obtain ⟨j, hj, rfl⟩ := List.getElem_of_mem hx
    rw [List.getElem_take]
    rw [List.length_take] at hj
    have hj' : j < l.length := by omega
    have h1 := (rank_lt h k j hj').2 (by omega)
    rcases List.mem_cons.1 hy with rfl | hy
    · exact h1
    · obtain ⟨m, hm, rfl⟩ := List.getElem_of_mem hy
      rw [List.getElem_drop]
      rw [List.length_drop] at hm
      exact (List.pairwise_iff_getElem.1 h) j (rank l k + m) hj' (by omega) (by omega)

theorem GoodRow.setA {n : Nat} {l : List (Int × Nat)} (h : GoodRow n l) (k : Nat) (hk : k < n) (x : Nat) : GoodRow n (setA l k x) := by
  unfold R.setA
  by_cases hm : (k : Int) ∈ keys l
  · rw [if_pos hm]
    obtain ⟨hr, he⟩ := (rank_mem h.1 _).1 hm
    have hkeys : keys (l.set (rank (keys l) k) ((k : Int), x)) = keys l := by
      unfold keys
      rw [List.map_set]
      apply List.ext_getElem?
      intro j
      rw [List.getElem?_set]
      split
      · rename_i e; subst e
        split
        · have h2 : (keys l)[rank (keys l) k]? = some (k : Int) := by rw [List.getElem?_eq_getElem hr, he]
          exact h2.symm
        · rename_i hh; rw [List.getElem?_eq_none (by omega)]
      · rfl
    refine ⟨by rw [hkeys]; exact h.1, fun a ha => ?_⟩
    rcases List.mem_or_eq_of_mem_set ha with ha | rfl
    · exact h.2 a ha
    · simp; omega
  · rw [if_neg hm]
    refine ⟨by rw [keys_insAt]; exact insert_sorted h.1 _ hm, fun a ha => ?_⟩
    unfold insAt at ha
    rw [List.mem_append, List.mem_cons] at ha
    rcases ha with ha | rfl | ha
    · exact h.2 a (List.mem_of_mem_take ha)
    · simp; omega
    · exact h.2 a (List.mem_of_mem_drop ha)

/-- every row is good -/
structure Pl.Good (p : Pl) : Prop where
  n : p.ids.length ≤ 1000
  out : ∀ i, GoodRow p.ids.length (p.out.getD i [])
  inn : ∀ i, GoodRow p.ids.length (p.inn.getD i [])

def Pl.outs (p : Pl) (i k : Nat) (x : Nat) : Pl := { p with out := p.out.set i (setA (p.out.getD i []) k x) }
def Pl.inns (p : Pl) (i k : Nat) (x : Nat) : Pl := { p with inn := p.inn.set i (setA (p.inn.getD i []) k x) }
def Pl.lay (p : Pl) (i k : Nat) (x : Nat) (d : Bool) : Pl := if d then (p.outs i k x).inns k i x else (((p.outs i k x).inns k i x).outs k i x).inns i k x

theorem getD_set_row {n : Nat} {L : List (List (Int × Nat))} (h : ∀ i, GoodRow n (L.getD i [])) (i : Nat) (r : List (Int × Nat)) (hr : GoodRow n r) : ∀ j, GoodRow n ((L.set i r).getD j []) := by
  intro j
  rw [List.getD_eq_getElem?_getD, List.getElem?_set]
  split
  · split
    · exact hr
    · exact ⟨List.Pairwise.nil, by simp⟩
  · rw [← List.getD_eq_getElem?_getD]; exact h j

theorem Pl.Good.outs {p : Pl} (h : p.Good) (i k x : Nat) (hk : k < p.ids.length) : (p.outs i k x).Good := ⟨h.n, getD_set_row h.out i _ ((h.out i).setA k hk x), h.inn⟩
theorem Pl.Good.inns {p : Pl} (h : p.Good) (i k x : Nat) (hk : k < p.ids.length) : (p.inns i k x).Good := ⟨h.n, h.out, getD_set_row h.inn i _ ((h.inn i).setA k hk x)⟩
theorem Pl.Good.lay {p : Pl} (h : p.Good) (i k x : Nat) (d : Bool) (hi : i < p.ids.length) (hk : k < p.ids.length) : (p.lay i k x d).Good := by
  unfold Pl.lay
  split
  · exact (h.outs i k x hk).inns k i x hi
  · exact (((h.outs i k x hk).inns k i x hi).outs k i x hi).inns i k x hk

def PlOk (w : World) (base bp : Nat) (p : Pl) : Prop := ∃ ro ri vi vo vn, PlAt w base bp p ro ri vi vo vn

/-- what a row update reads -/
theorem PlOk.open_out {w : World} {base bp : Nat} {p : Pl} (h : PlOk w base bp p) (i : Nat) (hi : i < p.ids.length) :
    ∃ ro ri vi vn g cap, ∃ hi' : i < ro.length, PlAt w base bp p ro ri vi (.slice (some ⟨g, 0, none⟩) ro.length cap) vn ∧ w.cell? ⟨bp, 1, none⟩ = some (.slice (some ⟨g, 0, none⟩) ro.length cap) ∧ w.cell? ⟨g, i, none⟩ = some ro[i] ∧ w.frozen? ⟨g, i, none⟩ = false ∧
      bp < w.heap.size ∧ g < w.heap.size ∧ base ≤ g ∧ ro.length = p.ids.length := by
  obtain ⟨ro, ri, vi, vo, vn, hp⟩ := h
  have hi' : i < ro.length := by rw [hp.rows.la, hp.po]; exact hi
  rcases hp.rows.a.2 with ⟨rfl, h0⟩ | ⟨g, cap, cur, rfl, hb1, hg, hc1, hc2, hcs, htk⟩
  · omega
  · refine ⟨ro, ri, vi, vn, g, cap, hi', hp, ?_, ?_, blk_frozen hg _, blk_lt hp.blk, blk_lt hg, hb1, by rw [hp.rows.la, hp.po]⟩
    · rw [blk_cell hp.blk]; rfl
    · rw [blk_cell hg]
      have : (cur.toList.take (ro.length * 1))[i]? = some ro[i] := by rw [htk]; exact List.getElem?_eq_getElem hi'
      rw [List.getElem?_take] at this
      split at this
      · simpa using this
      · cases this

theorem PlOk.open_inn {w : World} {base bp : Nat} {p : Pl} (h : PlOk w base bp p) (i : Nat) (hi : i < p.ids.length) :
    ∃ ro ri vi vo g cap, ∃ hi' : i < ri.length, PlAt w base bp p ro ri vi vo (.slice (some ⟨g, 0, none⟩) ri.length cap) ∧ w.cell? ⟨bp, 2, none⟩ = some (.slice (some ⟨g, 0, none⟩) ri.length cap) ∧ w.cell? ⟨g, i, none⟩ = some ri[i] ∧ w.frozen? ⟨g, i, none⟩ = false ∧
      bp < w.heap.size ∧ g < w.heap.size ∧ base ≤ g ∧ ri.length = p.ids.length := by
  obtain ⟨ro, ri, vi, vo, vn, hp⟩ := h
  have hi' : i < ri.length := by rw [hp.rows.lb, hp.pi]; exact hi
  rcases hp.rows.b.2 with ⟨rfl, h0⟩ | ⟨g, cap, cur, rfl, hb1, hg, hc1, hc2, hcs, htk⟩
  · omega
  · refine ⟨ro, ri, vi, vo, g, cap, hi', hp, ?_, ?_, blk_frozen hg _, blk_lt hp.blk, blk_lt hg, hb1, by rw [hp.rows.lb, hp.pi]⟩
    · rw [blk_cell hp.blk]; rfl
    · rw [blk_cell hg]
      have : (cur.toList.take (ri.length * 1))[i]? = some ri[i] := by rw [htk]; exact List.getElem?_eq_getElem hi'
      rw [List.getElem?_take] at this
      split at this
      · simpa using this
      · cases this
end Go.Proofs.YtddklkgcodjijaaGreat.R


namespace Go.Proofs.YtddklkgcodjijaaGreat.R
open Go.RowKit Go.Lab Go.Proofs.YtddklkgcodjijaaGreatW.PrintWords Go.Proofs.YtddklkgcodjijaaGreatW.PrintLast Go.Proofs.YtddklkgcodjijaaGreatW.PrintMore

/-- blocks of other types than arcs and rows are as they were -/
def KeepT (w w' : World) : Prop := ∀ (k : Nat) (c : Array Value) (e : TypeId), w.heap[k]? = some (Obj.cells c e (0, 0)) → e ≠ 231 → e ≠ 195 → w'.heap[k]? = w.heap[k]?
theorem KeepT.refl (w : World) : KeepT w w := fun _ _ _ _ _ _ => rfl
theorem KeepT.trans {a b c : World} (h : KeepT a b) (h' : KeepT b c) : KeepT a c := fun k x e hk h1 h2 => (h' k x e ((h k x e hk h1 h2).trans hk) h1 h2).trans (h k x e hk h1 h2)

/-- the bounds of a good row, as set asks for them -/
theorem GoodRow.bounds {n : Nat} {l : List (Int × Nat)} (h : GoodRow n l) (hn : n ≤ 1000) : ∀ a ∈ l, 0 ≤ a.1 ∧ a.1 ≤ 1000 := fun a ha => by have := h.2 a ha; omega

set_option maxHeartbeats 8000000 in
set_option maxRecDepth 100000 in
theorem lay_true (base bp : Nat) (p : Pl) (i k x : Nat) (w : World) (h : PlOk w base bp p) (hg : p.Good) (hi : i < p.ids.length) (hk : k < p.ids.length) (hbase : base ≤ w.heap.size) :
    Calls Tryz.prog 94 #[.pointer (some ⟨bp, 0, none⟩), .int .i64 i, .int .i64 k, .float .f64 x, .bool true] w fun e w' => e = .returned (.tuple #[]) ∧ PlOk w' base bp (p.lay i k x true) ∧ Below base w w' ∧ KeepT w w' := by
  have HG := Aside0.mk hg
  have hn := hg.n
  have HP := Aside0.mk h
  have HB := Aside0.mk (Below.refl base w)
  have HK := Aside0.mk (KeepT.refl w)
  clear h hg
  go_enter Tryz.func94, Tryz.ntmps94
  go_upto_region 0 with fail
  go_cut [] from 10 (fun w' => Aside0 (PlOk w' base bp (p.outs i k x) ∧ Below base w w' ∧ KeepT w w'))
  case first =>
    obtain ⟨ro, ri, vi, vx, g, cap, hi', hp, c1, c2, c3, l1, l2, l3, l4⟩ := HP.out.open_out i hi
    have HPA := Aside0.mk hp
    have hrow := hp.rows.rowA i hi'
    have HROW := Aside0.mk hrow
    have hne1 : some bp ≠ ro[i].ownBlock := fun e => by
      obtain ⟨c, hc⟩ := own_block hrow e.symm
      exact absurd (blk_type hp.blk hc) (by decide)
    have hne2 : some g ≠ ro[i].ownBlock := fun e => by
      obtain ⟨c, hc⟩ := own_block hrow e.symm
      obtain ⟨c', hc'⟩ := own_block hp.rows.a (k := g) rfl
      exact absurd (blk_type hc' hc) (by decide)
    have hbr : ∀ q, ro[i].ownBlock = some q → base ≤ q := fun q hq => own_base hrow q hq
    have HBR := Aside0.mk hbr
    have hx1 : (i : Int) < (ro.length : Int) := by omega
    have hx2 : (0 : Int) ≤ (i : Int) := by omega
    have hx3 : (k : Int) ≤ 1000 := by omega
    clear hp hrow hbr
    obtain ⟨r, hr⟩ : ∃ r, r = ro[i] := ⟨_, rfl⟩
    rw [← hr] at c2 hne1 hne2
    have HR := Aside0.mk hr
    have HL4 := Aside0.mk l4
    have hbw := Nat.le_trans hbase HB.out.size
    clear hr l4
    go_region_law (first | (go_simp; go_at_call 132; refine (set_any base _ (p.out.getD i []) k x _ (by rw [HR.out]; exact HROW.out) (HG.out.out i).1 (Nat.le_trans (HG.out.out i).len hn) (by omega) (by omega) ((HG.out.out i).bounds hn) (by first | exact hbw | simpa using hbw)).mono ?_; rintro e w1 ⟨v', rfl, hown, hgr, hat⟩; obtain ⟨A', c', rfl⟩ := own_slice hown; have d1 := (hgr.cell_far ⟨bp, 1, none⟩ l1 hne1).trans c1; have d2 := (hgr.cell_far ⟨g, i, none⟩ l2 hne2).trans c2; have d3 := (hgr.frozen_far ⟨g, i, none⟩ l2 hne2).trans c3))
    all_goals
      go_wp2
      go_meet
      case rel => exact ⟨⟨_, _, _, _, _, PlAt.put_out HPA.out i hi' _ _ (by rw [← HR.out]; exact (grownBy_drew _ _).trans hgr) hown (by rw [← HR.out]; exact hat)⟩, (HB.out.grown ((grownBy_drew _ _).trans hgr) hbw (fun q hq => HBR.out q (by rw [← HR.out]; exact hq))).setCell l3 _, HK.out.trans (fun q c e hq he1 he2 => put_keep HPA.out.rows i hi' _ (by rw [← HR.out]; exact (grownBy_drew _ _).trans hgr) hq he1 he2)⟩
  case rest =>
    obtain ⟨hpk, hbel, hkeep⟩ := hcut
    obtain ⟨p1, hnp⟩ : ∃ q, q = p.outs i k x := ⟨_, rfl⟩
    rw [← hnp] at hpk
    have HE1 := Aside0.mk hnp
    have HP1 := Aside0.mk hpk
    have HB1 := Aside0.mk hbel
    have HK1 := Aside0.mk hkeep
    have HG1 := Aside0.mk (show p1.Good by rw [hnp]; exact HG.out.outs i k x hk)
    have hn1 := HG1.out.n
    have hi1 : i < p1.ids.length := by rw [hnp]; exact hi
    have hk1 : k < p1.ids.length := by rw [hnp]; exact hk
    clear hpk hbel hkeep hnp
    go_upto_region 1 with fail
    go_cut [] from 10 (fun w' => Aside0 (PlOk w' base bp (p1.inns k i x) ∧ Below base w w' ∧ KeepT w w'))
    case first =>
      obtain ⟨ro, ri, vi, vx, g, cap, hi', hp, c1, c2, c3, l1, l2, l3, l4⟩ := HP1.out.open_inn k hk1
      have HPA := Aside0.mk hp
      have hrow := hp.rows.rowB k hi'
      have HROW := Aside0.mk hrow
      have hne1 : some bp ≠ ri[k].ownBlock := fun e => by
        obtain ⟨c, hc⟩ := own_block hrow e.symm
        exact absurd (blk_type hp.blk hc) (by decide)
      have hne2 : some g ≠ ri[k].ownBlock := fun e => by
        obtain ⟨c, hc⟩ := own_block hrow e.symm
        obtain ⟨c', hc'⟩ := own_block hp.rows.b (k := g) rfl
        exact absurd (blk_type hc' hc) (by decide)
      have hbr : ∀ q, ri[k].ownBlock = some q → base ≤ q := fun q hq => own_base hrow q hq
      have HBR := Aside0.mk hbr
      have hx1 : (k : Int) < (ri.length : Int) := by omega
      have hx2 : (0 : Int) ≤ (k : Int) := by omega
      have hx3 : (i : Int) ≤ 1000 := by omega
      clear hp hrow hbr
      obtain ⟨r, hr⟩ : ∃ r, r = ri[k] := ⟨_, rfl⟩
      rw [← hr] at c2 hne1 hne2
      have HR := Aside0.mk hr
      have HL4 := Aside0.mk l4
      have hbw := Nat.le_trans hbase HB1.out.size
      clear hr l4
      go_region_law (first | (go_simp; go_at_call 132; refine (set_any base _ (p1.inn.getD k []) i x _ (by rw [HR.out]; exact HROW.out) (HG1.out.inn k).1 (Nat.le_trans (HG1.out.inn k).len hn1) (by omega) (by omega) ((HG1.out.inn k).bounds hn1) (by first | exact hbw | simpa using hbw)).mono ?_; rintro e w1 ⟨v', rfl, hown, hgr, hat⟩; obtain ⟨A', c', rfl⟩ := own_slice hown; have d1 := (hgr.cell_far ⟨bp, 2, none⟩ l1 hne1).trans c1; have d2 := (hgr.cell_far ⟨g, k, none⟩ l2 hne2).trans c2; have d3 := (hgr.frozen_far ⟨g, k, none⟩ l2 hne2).trans c3))
      all_goals
        go_wp2
        go_meet
        case rel => exact ⟨⟨_, _, _, _, _, PlAt.put_inn HPA.out k hi' _ _ (by rw [← HR.out]; exact (grownBy_drew _ _).trans hgr) hown (by rw [← HR.out]; exact hat)⟩, (HB1.out.grown ((grownBy_drew _ _).trans hgr) hbw (fun q hq => HBR.out q (by rw [← HR.out]; exact hq))).setCell l3 _, HK1.out.trans (fun q c e hq he1 he2 => put_keep HPA.out.rows.symm k hi' _ (by rw [← HR.out]; exact (grownBy_drew _ _).trans hgr) hq he1 he2)⟩
    case rest =>
      obtain ⟨hpk, hbel, hkeep⟩ := hcut
      obtain ⟨p2, hnp⟩ : ∃ q, q = p1.inns k i x := ⟨_, rfl⟩
      rw [← hnp] at hpk
      have HE2 := Aside0.mk hnp
      have HP2 := Aside0.mk hpk
      have HB2 := Aside0.mk hbel
      have HK2 := Aside0.mk hkeep
      have HG2 := Aside0.mk (show p2.Good by rw [hnp]; exact HG1.out.inns k i x hi1)
      have hn2 := HG2.out.n
      have hi2 : i < p2.ids.length := by rw [hnp]; exact hi1
      have hk2 : k < p2.ids.length := by rw [hnp]; exact hk1
      clear hpk hbel hkeep hnp
      go_wp2
      go_end0
      exact ⟨rfl, (show PlOk _ base bp (p.lay i k x true) by unfold Pl.lay; rw [if_pos rfl, ← HE1.out, ← HE2.out]; exact HP2.out), HB2.out, HK2.out⟩

set_option maxHeartbeats 8000000 in
set_option maxRecDepth 100000 in
theorem lay_false (base bp : Nat) (p : Pl) (i k x : Nat) (w : World) (h : PlOk w base bp p) (hg : p.Good) (hi : i < p.ids.length) (hk : k < p.ids.length) (hbase : base ≤ w.heap.size) :
    Calls Tryz.prog 94 #[.pointer (some ⟨bp, 0, none⟩), .int .i64 i, .int .i64 k, .float .f64 x, .bool false] w fun e w' => e = .returned (.tuple #[]) ∧ PlOk w' base bp (p.lay i k x false) ∧ Below base w w' ∧ KeepT w w' := by
  have HG := Aside0.mk hg
  have hn := hg.n
  have HP := Aside0.mk h
  have HB := Aside0.mk (Below.refl base w)
  have HK := Aside0.mk (KeepT.refl w)
  clear h hg
  go_enter Tryz.func94, Tryz.ntmps94
  go_upto_region 0 with fail
  go_cut [] from 10 (fun w' => Aside0 (PlOk w' base bp (p.outs i k x) ∧ Below base w w' ∧ KeepT w w'))
  case first =>
    obtain ⟨ro, ri, vi, vx, g, cap, hi', hp, c1, c2, c3, l1, l2, l3, l4⟩ := HP.out.open_out i hi
    have HPA := Aside0.mk hp
    have hrow := hp.rows.rowA i hi'
    have HROW := Aside0.mk hrow
    have hne1 : some bp ≠ ro[i].ownBlock := fun e => by
      obtain ⟨c, hc⟩ := own_block hrow e.symm
      exact absurd (blk_type hp.blk hc) (by decide)
    have hne2 : some g ≠ ro[i].ownBlock := fun e => by
      obtain ⟨c, hc⟩ := own_block hrow e.symm
      obtain ⟨c', hc'⟩ := own_block hp.rows.a (k := g) rfl
      exact absurd (blk_type hc' hc) (by decide)
    have hbr : ∀ q, ro[i].ownBlock = some q → base ≤ q := fun q hq => own_base hrow q hq
    have HBR := Aside0.mk hbr
    have hx1 : (i : Int) < (ro.length : Int) := by omega
    have hx2 : (0 : Int) ≤ (i : Int) := by omega
    have hx3 : (k : Int) ≤ 1000 := by omega
    clear hp hrow hbr
    obtain ⟨r, hr⟩ : ∃ r, r = ro[i] := ⟨_, rfl⟩
    rw [← hr] at c2 hne1 hne2
    have HR := Aside0.mk hr
    have HL4 := Aside0.mk l4
    have hbw := Nat.le_trans hbase HB.out.size
    clear hr l4
    go_region_law (first | (go_simp; go_at_call 132; refine (set_any base _ (p.out.getD i []) k x _ (by rw [HR.out]; exact HROW.out) (HG.out.out i).1 (Nat.le_trans (HG.out.out i).len hn) (by omega) (by omega) ((HG.out.out i).bounds hn) (by first | exact hbw | simpa using hbw)).mono ?_; rintro e w1 ⟨v', rfl, hown, hgr, hat⟩; obtain ⟨A', c', rfl⟩ := own_slice hown; have d1 := (hgr.cell_far ⟨bp, 1, none⟩ l1 hne1).trans c1; have d2 := (hgr.cell_far ⟨g, i, none⟩ l2 hne2).trans c2; have d3 := (hgr.frozen_far ⟨g, i, none⟩ l2 hne2).trans c3))
    all_goals
      go_wp2
      go_meet
      case rel => exact ⟨⟨_, _, _, _, _, PlAt.put_out HPA.out i hi' _ _ (by rw [← HR.out]; exact (grownBy_drew _ _).trans hgr) hown (by rw [← HR.out]; exact hat)⟩, (HB.out.grown ((grownBy_drew _ _).trans hgr) hbw (fun q hq => HBR.out q (by rw [← HR.out]; exact hq))).setCell l3 _, HK.out.trans (fun q c e hq he1 he2 => put_keep HPA.out.rows i hi' _ (by rw [← HR.out]; exact (grownBy_drew _ _).trans hgr) hq he1 he2)⟩
  case rest =>
    obtain ⟨hpk, hbel, hkeep⟩ := hcut
    obtain ⟨p1, hnp⟩ : ∃ q, q = p.outs i k x := ⟨_, rfl⟩
    rw [← hnp] at hpk
    have HE1 := Aside0.mk hnp
    have HP1 := Aside0.mk hpk
    have HB1 := Aside0.mk hbel
    have HK1 := Aside0.mk hkeep
    have HG1 := Aside0.mk (show p1.Good by rw [hnp]; exact HG.out.outs i k x hk)
    have hn1 := HG1.out.n
    have hi1 : i < p1.ids.length := by rw [hnp]; exact hi
    have hk1 : k < p1.ids.length := by rw [hnp]; exact hk
    clear hpk hbel hkeep hnp
    go_upto_region 1 with fail
    go_cut [] from 10 (fun w' => Aside0 (PlOk w' base bp (p1.inns k i x) ∧ Below base w w' ∧ KeepT w w'))
    case first =>
      obtain ⟨ro, ri, vi, vx, g, cap, hi', hp, c1, c2, c3, l1, l2, l3, l4⟩ := HP1.out.open_inn k hk1
      have HPA := Aside0.mk hp
      have hrow := hp.rows.rowB k hi'
      have HROW := Aside0.mk hrow
      have hne1 : some bp ≠ ri[k].ownBlock := fun e => by
        obtain ⟨c, hc⟩ := own_block hrow e.symm
        exact absurd (blk_type hp.blk hc) (by decide)
      have hne2 : some g ≠ ri[k].ownBlock := fun e => by
        obtain ⟨c, hc⟩ := own_block hrow e.symm
        obtain ⟨c', hc'⟩ := own_block hp.rows.b (k := g) rfl
        exact absurd (blk_type hc' hc) (by decide)
      have hbr : ∀ q, ri[k].ownBlock = some q → base ≤ q := fun q hq => own_base hrow q hq
      have HBR := Aside0.mk hbr
      have hx1 : (k : Int) < (ri.length : Int) := by omega
      have hx2 : (0 : Int) ≤ (k : Int) := by omega
      have hx3 : (i : Int) ≤ 1000 := by omega
      clear hp hrow hbr
      obtain ⟨r, hr⟩ : ∃ r, r = ri[k] := ⟨_, rfl⟩
      rw [← hr] at c2 hne1 hne2
      have HR := Aside0.mk hr
      have HL4 := Aside0.mk l4
      have hbw := Nat.le_trans hbase HB1.out.size
      clear hr l4
      go_region_law (first | (go_simp; go_at_call 132; refine (set_any base _ (p1.inn.getD k []) i x _ (by rw [HR.out]; exact HROW.out) (HG1.out.inn k).1 (Nat.le_trans (HG1.out.inn k).len hn1) (by omega) (by omega) ((HG1.out.inn k).bounds hn1) (by first | exact hbw | simpa using hbw)).mono ?_; rintro e w1 ⟨v', rfl, hown, hgr, hat⟩; obtain ⟨A', c', rfl⟩ := own_slice hown; have d1 := (hgr.cell_far ⟨bp, 2, none⟩ l1 hne1).trans c1; have d2 := (hgr.cell_far ⟨g, k, none⟩ l2 hne2).trans c2; have d3 := (hgr.frozen_far ⟨g, k, none⟩ l2 hne2).trans c3))
      all_goals
        go_wp2
        go_meet
        case rel => exact ⟨⟨_, _, _, _, _, PlAt.put_inn HPA.out k hi' _ _ (by rw [← HR.out]; exact (grownBy_drew _ _).trans hgr) hown (by rw [← HR.out]; exact hat)⟩, (HB1.out.grown ((grownBy_drew _ _).trans hgr) hbw (fun q hq => HBR.out q (by rw [← HR.out]; exact hq))).setCell l3 _, HK1.out.trans (fun q c e hq he1 he2 => put_keep HPA.out.rows.symm k hi' _ (by rw [← HR.out]; exact (grownBy_drew _ _).trans hgr) hq he1 he2)⟩
    case rest =>
      obtain ⟨hpk, hbel, hkeep⟩ := hcut
      obtain ⟨p2, hnp⟩ : ∃ q, q = p1.inns k i x := ⟨_, rfl⟩
      rw [← hnp] at hpk
      have HE2 := Aside0.mk hnp
      have HP2 := Aside0.mk hpk
      have HB2 := Aside0.mk hbel
      have HK2 := Aside0.mk hkeep
      have HG2 := Aside0.mk (show p2.Good by rw [hnp]; exact HG1.out.inns k i x hi1)
      have hn2 := HG2.out.n
      have hi2 : i < p2.ids.length := by rw [hnp]; exact hi1
      have hk2 : k < p2.ids.length := by rw [hnp]; exact hk1
      clear hpk hbel hkeep hnp
      go_upto_region 3 with fail
      go_cut [] from 10 (fun w' => Aside0 (PlOk w' base bp (p2.outs k i x) ∧ Below base w w' ∧ KeepT w w'))
      case first =>
        obtain ⟨ro, ri, vi, vx, g, cap, hi', hp, c1, c2, c3, l1, l2, l3, l4⟩ := HP2.out.open_out k hk2
        have HPA := Aside0.mk hp
        have hrow := hp.rows.rowA k hi'
        have HROW := Aside0.mk hrow
        have hne1 : some bp ≠ ro[k].ownBlock := fun e => by
          obtain ⟨c, hc⟩ := own_block hrow e.symm
          exact absurd (blk_type hp.blk hc) (by decide)
        have hne2 : some g ≠ ro[k].ownBlock := fun e => by
          obtain ⟨c, hc⟩ := own_block hrow e.symm
          obtain ⟨c', hc'⟩ := own_block hp.rows.a (k := g) rfl
          exact absurd (blk_type hc' hc) (by decide)
        have hbr : ∀ q, ro[k].ownBlock = some q → base ≤ q := fun q hq => own_base hrow q hq
        have HBR := Aside0.mk hbr
        have hx1 : (k : Int) < (ro.length : Int) := by omega
        have hx2 : (0 : Int) ≤ (k : Int) := by omega
        have hx3 : (i : Int) ≤ 1000 := by omega
        clear hp hrow hbr
        obtain ⟨r, hr⟩ : ∃ r, r = ro[k] := ⟨_, rfl⟩
        rw [← hr] at c2 hne1 hne2
        have HR := Aside0.mk hr
        have HL4 := Aside0.mk l4
        have hbw := Nat.le_trans hbase HB2.out.size
        clear hr l4
        go_region_law (first | (go_simp; go_at_call 132; refine (set_any base _ (p2.out.getD k []) i x _ (by rw [HR.out]; exact HROW.out) (HG2.out.out k).1 (Nat.le_trans (HG2.out.out k).len hn2) (by omega) (by omega) ((HG2.out.out k).bounds hn2) (by first | exact hbw | simpa using hbw)).mono ?_; rintro e w1 ⟨v', rfl, hown, hgr, hat⟩; obtain ⟨A', c', rfl⟩ := own_slice hown; have d1 := (hgr.cell_far ⟨bp, 1, none⟩ l1 hne1).trans c1; have d2 := (hgr.cell_far ⟨g, k, none⟩ l2 hne2).trans c2; have d3 := (hgr.frozen_far ⟨g, k, none⟩ l2 hne2).trans c3))
        all_goals
          go_wp2
          go_meet
          case rel => exact ⟨⟨_, _, _, _, _, PlAt.put_out HPA.out k hi' _ _ (by rw [← HR.out]; exact (grownBy_drew _ _).trans hgr) hown (by rw [← HR.out]; exact hat)⟩, (HB2.out.grown ((grownBy_drew _ _).trans hgr) hbw (fun q hq => HBR.out q (by rw [← HR.out]; exact hq))).setCell l3 _, HK2.out.trans (fun q c e hq he1 he2 => put_keep HPA.out.rows k hi' _ (by rw [← HR.out]; exact (grownBy_drew _ _).trans hgr) hq he1 he2)⟩
      case rest =>
        obtain ⟨hpk, hbel, hkeep⟩ := hcut
        obtain ⟨p3, hnp⟩ : ∃ q, q = p2.outs k i x := ⟨_, rfl⟩
        rw [← hnp] at hpk
        have HE3 := Aside0.mk hnp
        have HP3 := Aside0.mk hpk
        have HB3 := Aside0.mk hbel
        have HK3 := Aside0.mk hkeep
        have HG3 := Aside0.mk (show p3.Good by rw [hnp]; exact HG2.out.outs k i x hi2)
        have hn3 := HG3.out.n
        have hi3 : i < p3.ids.length := by rw [hnp]; exact hi2
        have hk3 : k < p3.ids.length := by rw [hnp]; exact hk2
        clear hpk hbel hkeep hnp
        go_upto_region 4 with fail
        obtain ⟨ro, ri, vi, vx, g, cap, hi', hp, c1, c2, c3, l1, l2, l3, l4⟩ := HP3.out.open_inn i hi3
        have HPA := Aside0.mk hp
        have hrow := hp.rows.rowB i hi'
        have HROW := Aside0.mk hrow
        have hne1 : some bp ≠ ri[i].ownBlock := fun e => by
          obtain ⟨c, hc⟩ := own_block hrow e.symm
          exact absurd (blk_type hp.blk hc) (by decide)
        have hne2 : some g ≠ ri[i].ownBlock := fun e => by
          obtain ⟨c, hc⟩ := own_block hrow e.symm
          obtain ⟨c', hc'⟩ := own_block hp.rows.b (k := g) rfl
          exact absurd (blk_type hc' hc) (by decide)
        have hbr : ∀ q, ri[i].ownBlock = some q → base ≤ q := fun q hq => own_base hrow q hq
        have HBR := Aside0.mk hbr
        have hx1 : (i : Int) < (ri.length : Int) := by omega
        have hx2 : (0 : Int) ≤ (i : Int) := by omega
        have hx3 : (k : Int) ≤ 1000 := by omega
        clear hp hrow hbr
        obtain ⟨r, hr⟩ : ∃ r, r = ri[i] := ⟨_, rfl⟩
        rw [← hr] at c2 hne1 hne2
        have HR := Aside0.mk hr
        have HL4 := Aside0.mk l4
        have hbw := Nat.le_trans hbase HB3.out.size
        clear hr l4
        go_region_law (first | (go_simp; go_at_call 132; refine (set_any base _ (p3.inn.getD i []) k x _ (by rw [HR.out]; exact HROW.out) (HG3.out.inn i).1 (Nat.le_trans (HG3.out.inn i).len hn3) (by omega) (by omega) ((HG3.out.inn i).bounds hn3) (by first | exact hbw | simpa using hbw)).mono ?_; rintro e w1 ⟨v', rfl, hown, hgr, hat⟩; obtain ⟨A', c', rfl⟩ := own_slice hown; have d1 := (hgr.cell_far ⟨bp, 2, none⟩ l1 hne1).trans c1; have d2 := (hgr.cell_far ⟨g, i, none⟩ l2 hne2).trans c2; have d3 := (hgr.frozen_far ⟨g, i, none⟩ l2 hne2).trans c3))
        all_goals
          go_wp2
          go_end0
          refine ⟨rfl, ?_, (HB3.out.grown ((grownBy_drew _ _).trans hgr) hbw (fun q hq => HBR.out q (by rw [← HR.out]; exact hq))).setCell l3 _, HK3.out.trans (fun q c e hq he1 he2 => put_keep HPA.out.rows.symm i hi' _ (by rw [← HR.out]; exact (grownBy_drew _ _).trans hgr) hq he1 he2)⟩
          unfold Pl.lay
          rw [if_neg (by decide), ← HE1.out, ← HE2.out, ← HE3.out]
          exact ⟨_, _, _, _, _, PlAt.put_inn HPA.out i hi' _ _ (by rw [← HR.out]; exact (grownBy_drew _ _).trans hgr) hown (by rw [← HR.out]; exact hat)⟩

theorem lay_any (base bp : Nat) (p : Pl) (i k x : Nat) (d : Bool) (w : World) (h : PlOk w base bp p) (hg : p.Good) (hi : i < p.ids.length) (hk : k < p.ids.length) (hbase : base ≤ w.heap.size) :
    Calls Tryz.prog 94 #[.pointer (some ⟨bp, 0, none⟩), .int .i64 i, .int .i64 k, .float .f64 x, .bool d] w fun e w' => e = .returned (.tuple #[]) ∧ PlOk w' base bp (p.lay i k x d) ∧ Below base w w' ∧ KeepT w w' := by
  cases d
  · exact lay_false base bp p i k x w h hg hi hk hbase
  · exact lay_true base bp p i k x w h hg hi hk hbase
end Go.Proofs.YtddklkgcodjijaaGreat.R


/- Numbers ascending. -/
namespace Go.Lab
/-- numbers ascending -/
def srt (xs : List Int) : List Int := xs.mergeSort fun x y => decide (x ≤ y)
theorem srt_length (xs : List Int) : (srt xs).length = xs.length := List.length_mergeSort _
theorem srt_perm (xs : List Int) : (srt xs).Perm xs := List.mergeSort_perm _ _
theorem srt_le (xs : List Int) : (srt xs).Pairwise (· ≤ ·) := by
  have h := List.pairwise_mergeSort (le := fun x y : Int => decide (x ≤ y)) (fun a b c h1 h2 => by simp at *; omega) (fun a b => by simp; omega) xs
  exact h.imp (fun h => by simpa using h)
theorem mem_srt (xs : List Int) (x : Int) : x ∈ srt xs ↔ x ∈ xs := (srt_perm xs).mem_iff
end Go.Lab

