import Derived.Test.YtolbfjjgdheikaaGreatFV0
import Derived.WalkKit
import Derived.ProofKit
import Derived.Lib.SmallJoins
import Derived.Deep.Slices
set_option linter.unusedVariables false
set_option linter.unusedSimpArgs false
/- A graph as a law's argument, read. -/
namespace Go.Proofs.YtolbfjjgdheikaaGreat.Rd
open Go.ChangeShapes Go.WideShapes Go.ChangeAt Go.RowKit Go.Deep Go.Proofs.YtolbfjjgdheikaaGreatW.PrintWords PL

theorem Tryz.own : ownKnob Tryz.prog.godebug = none := by kernel_rfl
theorem Tryz.laidOut : laidOutB Tryz.prog = true := by kernel_rfl

section
variable {H : Type} {enc : TypeId × Value → H} {W : World}

set_option maxRecDepth 100000 in
theorem read_ints {fuel : Nat} {cs : List Value} {x : DataW H × List MemPlace} (h : DataW.trod enc Tryz.prog W 0 (fun _ => true) true fuel 22 cs = some x) :
    ∃ (a : Option Addr) (cap : Nat) (xs : List Int), cs = [.slice a xs.length cap] ∧ xs.length ≤ cap ∧ Kd.C (Kd.int .i64) W a xs.length xs ∧ ∀ x ∈ xs, (Lit.int .i64 x).wf = true := by
  rcases open_ints Tryz.underlying22 Tryz.underlying3 (by kernel_rfl) h with ⟨rfl, _⟩ | ⟨ad, l, c, zs, rfl, _, hl, hm, hz, _, hcell, hwz⟩
  · exact ⟨none, 0, [], rfl, Nat.le_refl _, ⟨rfl, Nat.zero_le _, fun h => absurd h (by simp)⟩, fun _ h => by cases h⟩
  · obtain ⟨xs, rfl, hr, _, hwf, hc⟩ := ReadsInt.ofRowC (k := .i64) (w := W) (a := some ad) (len := l) (cap := c) (zs := zs) (.inr ⟨_, rfl, hl, hm, by simpa using hz, hcell, hwz⟩)
    exact ⟨some ad, c, xs, rfl, hc, Kd.C_of_reads (d := (0 : Int)) (h1 := fun _ => rfl) hr, hwf⟩

instance : Inhabited S34 := ⟨z34⟩

set_option maxRecDepth 100000 in
theorem read_edges {fuel : Nat} {cs : List Value} {x : DataW H × List MemPlace} (h : DataW.trod enc Tryz.prog W 0 (fun _ => true) true fuel 23 cs = some x) :
    ∃ (a : Option Addr) (cap : Nat) (es : List S34), cs = [.slice a es.length cap] ∧ es.length ≤ cap ∧ Kd.C k34 W a es.length es := by
  have hC : Tryz.prog.cellsOf 34 = 3 := by kernel_rfl
  have hC3 : Tryz.prog.cellsOf 3 = 1 := by kernel_rfl
  rcases open_slice Tryz.underlying23 h with ⟨rfl, _⟩ | ⟨ad, l, c, m, n, D, Pl, rfl, _, hl, hm, hmm, _, hx⟩
  · exact ⟨none, 0, [], rfl, Nat.le_refl _, rfl, Nat.zero_le _, fun h => absurd h (by simp)⟩
  · rw [hC] at hx
    obtain ⟨V, hV⟩ := choose_lt (α := S34) (n := l) (p := fun i s => W.cells? 0 (ad.add (i * 3)) 3 = some [.int .i64 s.f0, .int .i64 s.f1, .int .i64 s.f2]) (fun i hi => by
      obtain ⟨cs', h1, h2⟩ := hx i (by simp at hmm; omega)
      obtain ⟨y0, y1, y2, n', _, hlen, t0, t1, t2⟩ := trod_struct3 Tryz.underlying34 h2
      rw [hC] at hlen
      match cs', hlen with
      | [u0, u1, u2], _ =>
        simp only [hC3] at t0 t1 t2
        obtain ⟨n0, e0, _⟩ := DataW.trod_int Tryz.underlying3 t0
        obtain ⟨n1, e1, _⟩ := DataW.trod_int Tryz.underlying3 t1
        obtain ⟨n2, e2, _⟩ := DataW.trod_int Tryz.underlying3 t2
        simp at e0 e1 e2
        subst e0 e1 e2
        exact ⟨⟨n0, n1, n2⟩, h1⟩)
    have hlen : ((List.range l).map V).length = l := by simp
    refine ⟨some ad, c, (List.range l).map V, by rw [hlen], by rw [hlen]; exact hl, rfl, by rw [hlen]; unfold maxLen at hm; omega, fun _ => ⟨ad, rfl, fun j p hp => ?_⟩⟩
    have hj : j < l := by
      have := (List.getElem?_eq_some_iff.1 hp).1
      rw [hlen] at this
      exact this
    obtain rfl : V j = p := by simpa [hj] using hp
    have hc := hV j hj
    obtain ⟨_, _, hcc⟩ := World.cells?_some hc
    refine ⟨_, rfl, k34_mk W (V j), fun i u hu => ?_⟩
    have hi : i < 3 := by
      have := (List.getElem?_eq_some_iff.1 hu).1
      simpa using this
    have := hcc i hi
    rw [YtolbfjjgdheikaaGreatW.PrintWords.add_add] at this
    exact this.trans hu

set_option maxRecDepth 100000 in
theorem read_graph {base : Nat} {v : Value} {d : DataW H} {p : List MemPlace} (hv : Value.okWide Tryz.prog W .any base 25 v) (h : DataW.Trod enc Tryz.prog W 0 (fun _ => true) true 25 v d p) :
    ∃ (b : Bool) (A1 A2 : Option Addr) (c1 c2 : Nat) (zs : List Int) (es : List S34), v = .agg #[.bool b, .slice A1 zs.length c1, .slice A2 es.length c2] ∧ zs.length ≤ c1 ∧ es.length ≤ c2 ∧ Kd.C (Kd.int .i64) W A1 zs.length zs ∧ Kd.C k34 W A2 es.length es ∧ ∀ x ∈ zs, (Lit.int .i64 x).wf = true := by
  obtain ⟨v0, v1, v2, y0, y1, y2, n, rfl, _, _, t0, t1, t2⟩ := Go.Joins.open_agg3 Tryz.underlying25 (by kernel_rfl) (by kernel_rfl) hv h
  obtain ⟨b, hb, _⟩ := DataW.trod_bool Tryz.underlying4 t0
  obtain ⟨A1, c1, zs, h1, l1, C1, wf1⟩ := read_ints t1
  obtain ⟨A2, c2, es, h2, l2, C2⟩ := read_edges t2
  simp only [List.cons.injEq, and_true] at hb h1 h2
  subst hb h1 h2
  exact ⟨b, A1, A2, c1, c2, zs, es, rfl, l1, l2, C1, C2, wf1⟩

end
end Go.Proofs.YtolbfjjgdheikaaGreat.Rd
