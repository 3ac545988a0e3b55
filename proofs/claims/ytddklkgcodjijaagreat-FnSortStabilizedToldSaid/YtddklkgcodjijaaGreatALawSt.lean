/-
  The law FnSortStabilizedTold answers true at every input, and leaves its arguments as they were.
-/
import Derived.Test.YtddklkgcodjijaaGreatRows
import Derived.Test.YtddklkgcodjijaaGreatAG0
import Derived.Test.YtddklkgcodjijaaGreatAG13
set_option linter.unusedVariables false
set_option linter.unusedSimpArgs false
namespace Go.Proofs.YtddklkgcodjijaaGreat.STold
open Go.ChangeShapes Go.WideShapes Go.ChangeAt Go.RowKit Go.Deep Go.Proofs.YtddklkgcodjijaaGreatW.PrintWords PL Rd

set_option maxRecDepth 100000 in
theorem lifted (os : Os) (started : os.Started) (H : Type) (enc : TypeId × Value → H) :
    ReturnsInHanded {} Tryz.checked os 3 .any (Rows.fnSortStabilizedToldSpec.pre6 enc Tryz.prog Tryz.f3 Rows.fnSortStabilizedToldRow.domain false) (Rows.fnSortStabilizedToldSpec.post enc Tryz.prog Tryz.f3 false true false false) := by
  refine returnsInHanded_of_change (C := Tryz.checked) Tryz.own started (by kernel_rfl) Tryz.func3
    (ChangeSpec.witness6 (enc := enc) (C := Tryz.checked) false ⟨#[], #[.agg #[.bool false, .slice none 0 0, .slice none 0 0]], []⟩ 8 (by kernel_rfl) (by kernel_rfl) (by kernel_rfl) (by kernel_rfl)) ?_
  intro W base args ds gs before hval0 hW hcnd _
  have hval : ∀ (j : Nat) t v, Tryz.f3.params[j]? = some t → args[j]? = some v → Value.okWide Tryz.prog W .any base t v := hval0
  have hW' := hW
  obtain ⟨p, q, hA0, hV, rfl, hfz, hnd⟩ := hW
  have hA : DataW.TrodAll enc Tryz.prog W 0 (fun _ => true) true Tryz.f3.params.toList args.toList ds p := hA0
  rw [Tryz.params3] at hA hval
  obtain ⟨v0, vs0, d0, ds0, p0, q0, hargs, rfl, rfl, h0, r0⟩ := trodAll_cons hA
  obtain ⟨rfl, rfl, rfl⟩ := trodAll_nil r0
  obtain rfl : args = #[v0] := by cases args; simp_all
  obtain ⟨rfl, rfl⟩ := trodVars_none hV
  have lt0 : ∀ x ∈ p0, x.block < W.heap.size := by obtain ⟨m, hm⟩ := h0; exact DataW.trod_lt m _ _ _ hm
  obtain ⟨b, A1, A2, c1, c2, zs, es, rfl, l1, l2, C1, C2, wf1⟩ := read_graph (hval 0 25 v0 rfl rfl) h0
  clear hA0 hval0
  obtain ⟨k, hk⟩ := (R.stabTold_ev b zs es wf1).rounds
  refine (laws_FnSortStabilizedTold.calls k b A1 c1 zs A2 c2 es true W C1 l1 C2 l2 hk).mono fun e W' ⟨he, bel⟩ => ?_
  subst he
  exact ⟨_, rfl, _, _, _, [], _, [], hW', trodAll_mk1 (shut_bool Tryz.underlying4 _),
    (trodAll_cons_mk (Below.trod Tryz.laidOut (by kernel_rfl) (of_decide_eq_true (by kernel_rfl)) h0 bel lt0) trodAll_mk0),
    rfl, bel.frame _, fun h => by cases h⟩

theorem named : Tryz.checked.prog.funcNamed Rows.fnSortStabilizedToldRow.func = some 3 := by kernel_rfl
theorem closed : joinedFacts Tryz.checked.prog 3 Tryz.f3 Rows.fnSortStabilizedToldSpec Rows.fnSortStabilizedToldRow = true := by kernel_rfl
theorem inst : Tryz.f3.isInstance Tryz.checked.prog Rows.fnSortStabilizedToldRow.origin Rows.fnSortStabilizedToldRow.targs := of_decide_eq_true (by kernel_rfl)
theorem wrapped : Tryz.f3.isWrapper Tryz.checked.prog Rows.fnSortStabilizedToldRow.wrapper Rows.fnSortStabilizedToldRow.mainSum := by unfold Func.isWrapper; first | (rw [if_pos (by decide +kernel)]; kernel_rfl) | (rw [if_neg (by decide +kernel)]; exact ⟨rfl, rfl⟩)

theorem proved : Rows.FnSortStabilizedToldSaid :=
  OpenClaim.holds_of_wide (p := Tryz.pinned) (s := Rows.fnSortStabilizedToldSpec) (c := Rows.fnSortStabilizedToldRow) 3 Tryz.f3 rfl rfl rfl rfl rfl rfl rfl ⟨rfl, rfl, rfl, rfl, rfl⟩ rfl rfl rfl rfl rfl named Tryz.func3 closed
    inst wrapped
    (fun os started H enc _ => lifted os started H enc)
#print axioms proved
end Go.Proofs.YtddklkgcodjijaaGreat.STold
namespace Go.Proofs.YtddklkgcodjijaaGreat
/-- The row, under a short name, for the claim. -/
theorem fnSortStabilizedTold_holds : Rows.FnSortStabilizedToldSaid := STold.proved
end Go.Proofs.YtddklkgcodjijaaGreat
