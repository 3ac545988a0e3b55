/-
  The law FnMaxFlow answers true at every input, and leaves its arguments as they were.
-/
import Derived.Test.YthkmblgehdofmaaGreatRows
import Derived.Test.YthkmblgehdofmaaGreatAG0
import Derived.Test.YthkmblgehdofmaaGreatAG10
import Derived.Test.YthkmblgehdofmaaGreatAG11
set_option linter.unusedVariables false
set_option linter.unusedSimpArgs false
namespace Go.Proofs.YthkmblgehdofmaaGreat.MF
open Go.ChangeShapes Go.WideShapes Go.ChangeAt Go.RowKit Go.Deep Go.Proofs.YthkmblgehdofmaaGreatW.PrintWords PL Rd

set_option maxRecDepth 100000 in
theorem lifted (os : Os) (started : os.Started) (H : Type) (enc : TypeId × Value → H) :
    ReturnsInHanded {} Tryz.checked os 6 .any (Rows.fnMaxFlowSpec.pre6 enc Tryz.prog Tryz.f6 Rows.fnMaxFlowRow.domain false) (Rows.fnMaxFlowSpec.post enc Tryz.prog Tryz.f6 false true false false) := by
  refine returnsInHanded_of_change (C := Tryz.checked) Tryz.own started (by kernel_rfl) Tryz.func6
    (ChangeSpec.witness6 (enc := enc) (C := Tryz.checked) false ⟨#[], #[.agg #[.bool false, .slice none 0 0, .slice none 0 0], .int .i64 0, .int .i64 0], []⟩ 8 (by kernel_rfl) (by kernel_rfl) (by kernel_rfl) (by kernel_rfl)) ?_
  intro W base args ds gs before hval0 hW hcnd _
  have hval : ∀ (j : Nat) t v, Tryz.f6.params[j]? = some t → args[j]? = some v → Value.okWide Tryz.prog W .any base t v := hval0
  have hW' := hW
  obtain ⟨p, q, hA0, hV, rfl, hfz, hnd⟩ := hW
  have hA : DataW.TrodAll enc Tryz.prog W 0 (fun _ => true) true Tryz.f6.params.toList args.toList ds p := hA0
  rw [Tryz.params6] at hA hval
  obtain ⟨v0, vs0, d0, ds0, p0, q0, hargs, rfl, rfl, h0, r0⟩ := trodAll_cons hA
  obtain ⟨v1, vs1, d1, ds1, p1, q1, rfl, rfl, rfl, h1, r1⟩ := trodAll_cons r0
  obtain ⟨v2, vs2, d2, ds2, p2, q2, rfl, rfl, rfl, h2, r2⟩ := trodAll_cons r1
  obtain ⟨rfl, rfl, rfl⟩ := trodAll_nil r2
  obtain rfl : args = #[v0, v1, v2] := by cases args; simp_all
  obtain ⟨rfl, rfl⟩ := trodVars_none hV
  have lt0 : ∀ x ∈ p0, x.block < W.heap.size := by obtain ⟨m, hm⟩ := h0; exact DataW.trod_lt m _ _ _ hm
  obtain ⟨b, A1, A2, c1, c2, zs, es, rfl, l1, l2, C1, C2, wf1⟩ := read_graph (hval 0 26 v0 rfl rfl) h0
  obtain ⟨a1, rfl, rfl, rfl, w1⟩ := open_int Tryz.underlying3 (hval 1 3 v1 rfl rfl) h1
  obtain ⟨a2, rfl, rfl, rfl, w2⟩ := open_int Tryz.underlying3 (hval 2 3 v2 rfl rfl) h2
  clear hA0 hval0
  obtain ⟨k, hk⟩ := (R.max_ev b zs es a1 a2).rounds
  refine (laws_FnMaxFlow.calls k b A1 c1 zs A2 c2 es a1 a2 true W C1 l1 C2 l2 hk).mono fun e W' ⟨he, bel⟩ => ?_
  subst he
  exact ⟨_, rfl, _, _, _, [], _, [], hW', trodAll_mk1 (shut_bool Tryz.underlying4 _),
    (trodAll_cons_mk (Below.trod Tryz.laidOut (by kernel_rfl) (of_decide_eq_true (by kernel_rfl)) h0 bel lt0) (trodAll_cons_mk (shut_int Tryz.underlying3 w1) (trodAll_cons_mk (shut_int Tryz.underlying3 w2) trodAll_mk0))),
    rfl, bel.frame _, fun h => by cases h⟩

theorem named : Tryz.checked.prog.funcNamed Rows.fnMaxFlowRow.func = some 6 := by kernel_rfl
theorem closed : joinedFacts Tryz.checked.prog 6 Tryz.f6 Rows.fnMaxFlowSpec Rows.fnMaxFlowRow = true := by kernel_rfl
theorem inst : Tryz.f6.isInstance Tryz.checked.prog Rows.fnMaxFlowRow.origin Rows.fnMaxFlowRow.targs := of_decide_eq_true (by kernel_rfl)
theorem wrapped : Tryz.f6.isWrapper Tryz.checked.prog Rows.fnMaxFlowRow.wrapper Rows.fnMaxFlowRow.mainSum := by unfold Func.isWrapper; first | (rw [if_pos (by decide +kernel)]; kernel_rfl) | (rw [if_neg (by decide +kernel)]; exact ⟨rfl, rfl⟩)

theorem proved : Rows.FnMaxFlowSaid :=
  OpenClaim.holds_of_wide (p := Tryz.pinned) (s := Rows.fnMaxFlowSpec) (c := Rows.fnMaxFlowRow) 6 Tryz.f6 rfl rfl rfl rfl rfl rfl rfl ⟨rfl, rfl, rfl, rfl, rfl⟩ rfl rfl rfl rfl rfl named Tryz.func6 closed
    inst wrapped
    (fun os started H enc _ => lifted os started H enc)
#print axioms proved
end Go.Proofs.YthkmblgehdofmaaGreat.MF
namespace Go.Proofs.YthkmblgehdofmaaGreat
/-- The row, under a short name, for the claim. -/
theorem fnMaxFlow_holds : Rows.FnMaxFlowSaid := MF.proved
end Go.Proofs.YthkmblgehdofmaaGreat
