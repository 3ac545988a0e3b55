/-
  The law FnIsPathJoined answers true at every input, and leaves its arguments as they were.
-/
import Derived.Test.YtlokbaljkmblaaaRows
import Derived.Test.YtlokbaljkmblaaaP7
import Derived.WalkKit
import Derived.ProofKit
import Derived.Lib.SmallJoins
import Derived.Deep.Slices
namespace Go.Proofs.Ytlokbaljkmblaaa
open Go.ChangeShapes Go.WideShapes Go.ChangeAt Go.RowKit Go.Deep Go.Proofs.YtlokbaljkmblaaaW.PrintWords PFnIsPathJoined

theorem Try.own : ownKnob Try.prog.godebug = none := by kernel_rfl
theorem Try.laidOut : laidOutB Try.prog = true := by kernel_rfl

section
variable {H : Type} {enc : TypeId × Value → H} {W : World}

set_option maxRecDepth 100000 in
theorem read_ints {fuel : Nat} {cs : List Value} {x : DataW H × List MemPlace} (h : DataW.trod enc Try.prog W 0 (fun _ => true) true fuel 22 cs = some x) :
    ∃ (a : Option Addr) (cap : Nat) (xs : List Int), cs = [.slice a xs.length cap] ∧ xs.length ≤ cap ∧ Kd.C (Kd.int .i64) W a xs.length xs := by
  rcases open_ints Try.underlying22 Try.underlying3 (by kernel_rfl) h with ⟨rfl, _⟩ | ⟨ad, l, c, zs, rfl, _, hl, hm, hz, _, hcell, hwz⟩
  · exact ⟨none, 0, [], rfl, Nat.le_refl _, rfl, Nat.zero_le _, fun h => absurd h (by simp)⟩
  · obtain ⟨xs, rfl, hr, _, _, hc⟩ := ReadsInt.ofRowC (k := .i64) (w := W) (a := some ad) (len := l) (cap := c) (zs := zs) (.inr ⟨_, rfl, hl, hm, by simpa using hz, hcell, hwz⟩)
    exact ⟨some ad, c, xs, rfl, hc, Kd.C_of_reads (d := (0 : Int)) (h1 := fun _ => rfl) hr⟩

instance : Inhabited S42 := ⟨z42⟩

set_option maxRecDepth 100000 in
theorem read_edges {fuel : Nat} {cs : List Value} {x : DataW H × List MemPlace} (h : DataW.trod enc Try.prog W 0 (fun _ => true) true fuel 23 cs = some x) :
    ∃ (a : Option Addr) (cap : Nat) (es : List S42), cs = [.slice a es.length cap] ∧ es.length ≤ cap ∧ Kd.C k42 W a es.length es := by
  have hC : Try.prog.cellsOf 42 = 3 := by kernel_rfl
  have hC3 : Try.prog.cellsOf 3 = 1 := by kernel_rfl
  rcases open_slice Try.underlying23 h with ⟨rfl, _⟩ | ⟨ad, l, c, m, n, D, Pl, rfl, _, hl, hm, hmm, _, hx⟩
  · exact ⟨none, 0, [], rfl, Nat.le_refl _, rfl, Nat.zero_le _, fun h => absurd h (by simp)⟩
  · rw [hC] at hx
    obtain ⟨V, hV⟩ := choose_lt (α := S42) (n := l) (p := fun i s => W.cells? 0 (ad.add (i * 3)) 3 = some [.int .i64 s.f0, .int .i64 s.f1, .int .i64 s.f2]) (fun i hi => by
      obtain ⟨cs', h1, h2⟩ := hx i (by simp at hmm; omega)
      obtain ⟨y0, y1, y2, n', _, hlen, t0, t1, t2⟩ := trod_struct3 Try.underlying42 h2
      rw [hC] at hlen
      match cs', hlen with
      | [u0, u1, u2], _ =>
        simp only [hC3] at t0 t1 t2
        obtain ⟨n0, e0, _⟩ := DataW.trod_int Try.underlying3 t0
        obtain ⟨n1, e1, _⟩ := DataW.trod_int Try.underlying3 t1
        obtain ⟨n2, e2, _⟩ := DataW.trod_int Try.underlying3 t2
        simp at e0 e1 e2
        subst e0 e1 e2
        exact ⟨⟨n0, n1, n2⟩, h1⟩)
    have hlen : ((List.range l).map V).length = l := by simp
    refine ⟨some ad, c, (List.range l).map V, by rw [hlen], by rw [hlen]; exact hl, rfl, by rw [hlen]; unfold maxLen at hm; omega, fun _ => ⟨ad, rfl, fun j p hp => ?_⟩⟩
    have hj : j < l := by
      have := (List.getElem?_eq_some_iff.1 hp).1
      rw [hlen] at this
      exact this
    obtain rfl : V j = p := by simpa [hj] using hp
    have hc := hV j hj
    obtain ⟨_, _, hcc⟩ := World.cells?_some hc
    refine ⟨_, rfl, k42_mk W (V j), fun i u hu => ?_⟩
    have hi : i < 3 := by
      have := (List.getElem?_eq_some_iff.1 hu).1
      simpa using this
    have := hcc i hi
    rw [YtlokbaljkmblaaaW.PrintWords.add_add] at this
    exact this.trans hu

set_option maxRecDepth 100000 in
theorem read_graph {base : Nat} {v : Value} {d : DataW H} {p : List MemPlace} (hv : Value.okWide Try.prog W .any base 25 v) (h : DataW.Trod enc Try.prog W 0 (fun _ => true) true 25 v d p) :
    ∃ (b : Bool) (A1 A2 : Option Addr) (c1 c2 : Nat) (zs : List Int) (es : List S42), v = .agg #[.bool b, .slice A1 zs.length c1, .slice A2 es.length c2] ∧ zs.length ≤ c1 ∧ es.length ≤ c2 ∧ Kd.C (Kd.int .i64) W A1 zs.length zs ∧ Kd.C k42 W A2 es.length es := by
  obtain ⟨v0, v1, v2, y0, y1, y2, n, rfl, _, _, t0, t1, t2⟩ := Go.Joins.open_agg3 Try.underlying25 (by kernel_rfl) (by kernel_rfl) hv h
  obtain ⟨b, hb, _⟩ := DataW.trod_bool Try.underlying4 t0
  obtain ⟨A1, c1, zs, h1, l1, C1⟩ := read_ints t1
  obtain ⟨A2, c2, es, h2, l2, C2⟩ := read_edges t2
  simp only [List.cons.injEq, and_true] at hb h1 h2
  subst hb h1 h2
  exact ⟨b, A1, A2, c1, c2, zs, es, rfl, l1, l2, C1, C2⟩

set_option maxRecDepth 100000 in
theorem read_row {base : Nat} {v : Value} {d : DataW H} {p : List MemPlace} (hv : Value.okWide Try.prog W .any base 22 v) (h : DataW.Trod enc Try.prog W 0 (fun _ => true) true 22 v d p) :
    ∃ (A : Option Addr) (c : Nat) (xs : List Int), v = .slice A xs.length c ∧ xs.length ≤ c ∧ Kd.C (Kd.int .i64) W A xs.length xs := by
  obtain ⟨a, len, cap, rfl⟩ := okWide_slice Try.underlying22 hv
  obtain ⟨fuel, hf⟩ := h
  obtain ⟨A, c, xs, h1, l1, C1⟩ := read_ints hf
  simp only [Value.cells, List.cons.injEq, and_true] at h1
  exact ⟨A, c, xs, h1, l1, C1⟩
end

set_option maxRecDepth 100000 in
theorem lifted (os : Os) (started : os.Started) (H : Type) (enc : TypeId × Value → H) :
    ReturnsInHanded {} Try.checked os 3 .any (Rows.fnIsPathJoinedSpec.pre6 enc Try.prog Try.f3 Rows.fnIsPathJoinedRow.domain false) (Rows.fnIsPathJoinedSpec.post enc Try.prog Try.f3 false true false false) := by
  refine returnsInHanded_of_change (C := Try.checked) Try.own started (by kernel_rfl) Try.func3
    (ChangeSpec.witness6 (enc := enc) (C := Try.checked) false ⟨#[], #[.agg #[.bool false, .slice none 0 0, .slice none 0 0], .slice none 0 0, .slice none 0 0, .int .i64 0], []⟩ 8 (by kernel_rfl) (by kernel_rfl) (by kernel_rfl) (by kernel_rfl)) ?_
  intro W base args ds gs before hval0 hW hcnd _
  have hval : ∀ (j : Nat) t v, Try.f3.params[j]? = some t → args[j]? = some v → Value.okWide Try.prog W .any base t v := hval0
  have hW' := hW
  obtain ⟨p, q, hA0, hV, rfl, hfz, hnd⟩ := hW
  have hA : DataW.TrodAll enc Try.prog W 0 (fun _ => true) true Try.f3.params.toList args.toList ds p := hA0
  rw [Try.params3] at hA hval
  obtain ⟨v0, v1, v2, v3, d0, d1, d2, d3, p0, p1, p2, p3, rfl, rfl, rfl, h0, h1, h2, h3⟩ := trodAll_four hA
  obtain ⟨rfl, rfl⟩ := trodVars_none hV
  have lt0 : ∀ x ∈ p0, x.block < W.heap.size := by obtain ⟨m, hm⟩ := h0; exact DataW.trod_lt m _ _ _ hm
  have lt1 : ∀ x ∈ p1, x.block < W.heap.size := by obtain ⟨m, hm⟩ := h1; exact DataW.trod_lt m _ _ _ hm
  have lt2 : ∀ x ∈ p2, x.block < W.heap.size := by obtain ⟨m, hm⟩ := h2; exact DataW.trod_lt m _ _ _ hm
  obtain ⟨b, A1, A2, c1, c2, zs, es, rfl, l1, l2, C1, C2⟩ := read_graph (hval 0 25 v0 rfl rfl) h0
  obtain ⟨A3, c3, la, rfl, _, C3⟩ := read_row (hval 1 22 v1 rfl rfl) h1
  obtain ⟨A4, c4, lb, rfl, _, C4⟩ := read_row (hval 2 22 v2 rfl rfl) h2
  obtain ⟨a3, rfl, rfl, rfl, w3⟩ := open_int Try.underlying3 (hval 3 3 v3 rfl rfl) h3
  clear hA0 hval0
  refine (law_any b A1 A2 A3 A4 c1 c2 c3 c4 zs es la lb a3 W C1 C2 C3 C4 l1 l2).mono fun e W' ⟨he, bel⟩ => ?_
  subst he
  exact ⟨_, rfl, _, _, _, [], _, [], hW', trodAll_mk1 (shut_bool Try.underlying4 _),
    trodAll_mk4 (Below.trod Try.laidOut (by kernel_rfl) (of_decide_eq_true (by kernel_rfl)) h0 bel lt0) (Below.trod Try.laidOut (by kernel_rfl) (of_decide_eq_true (by kernel_rfl)) h1 bel lt1)
      (Below.trod Try.laidOut (by kernel_rfl) (of_decide_eq_true (by kernel_rfl)) h2 bel lt2) (shut_int Try.underlying3 w3),
    rfl, bel.frame _, fun h => by cases h⟩

theorem isPathJoined_holds : Rows.FnIsPathJoinedSaid :=
  OpenClaim.holds_of_wide 3 Try.f3 rfl rfl rfl rfl rfl rfl rfl ⟨rfl, rfl, rfl, rfl, rfl⟩ rfl rfl rfl rfl rfl (by kernel_rfl) Try.func3 (by kernel_rfl)
    (of_decide_eq_true (by kernel_rfl)) (by unfold Func.isWrapper; first | (rw [if_pos (by decide +kernel)]; kernel_rfl) | (rw [if_neg (by decide +kernel)]; exact ⟨rfl, rfl⟩))
    (fun os started H enc _ => lifted os started H enc)

end Go.Proofs.Ytlokbaljkmblaaa
