import Derived.Test.YtgiebjihceggjaaH
import Derived.Test.YtgiebjihceggjaaT2
import Derived.Test.YtgiebjihceggjaaS3
import Derived.Shelf.SlSortCmp.WholeK
set_option linter.unusedVariables false
set_option linter.unusedSimpArgs false
namespace Go.Proofs.Ytgiebjihceggjaa
open Go.RowKit Go.Proofs.YtgiebjihceggjaaW.PrintWords Go.Proofs.YtgiebjihceggjaaW.PrintLast Go.Proofs.YtgiebjihceggjaaW.PrintMore PFnGenTree

/-- how edgeBefore orders -/
def cf3 (x y : S30) : Int := if x.f0 < y.f0 then -1 else if x.f0 > y.f0 then 1 else if x.f1 < y.f1 then -1 else if x.f1 > y.f1 then 1 else if x.f2 < y.f2 then -1 else if x.f2 > y.f2 then 1 else 0
/-- lexical order of edges -/
def lt3 (x y : S30) : Prop := x.f0 < y.f0 ∨ (x.f0 = y.f0 ∧ (x.f1 < y.f1 ∨ (x.f1 = y.f1 ∧ x.f2 < y.f2)))
instance inhS30 : Inhabited S30 := ⟨z30⟩
instance lt3_dec (x y : S30) : Decidable (lt3 x y) := by unfold lt3; infer_instance
theorem cf3_lt (x y : S30) : cf3 x y < 0 ↔ lt3 x y := by
  unfold cf3 lt3
  repeat' split
  all_goals omega

theorem cmp_nn (a b : Int) : cmp_Compare_int.f a b = some (if a < b then -1 else if a > b then 1 else 0) := by
  unfold cmp_Compare_int.f cmp_isNaN_int.f
  simp
  repeat' split
  all_goals rfl

theorem compare_f (x y : S30) : slices_Compare_int_int.f 4 [x.f0, x.f1, x.f2] [y.f0, y.f1, y.f2] = some (cf3 x y) := by
  obtain ⟨a, b, c⟩ := x
  obtain ⟨d, e, f⟩ := y
  unfold slices_Compare_int_int.f cf3
  simp only [slices_Compare_int_int.l0, cmp_nn, Option.bind_some, rd]
  simp [wrap64]
  by_cases h1 : a < d
  · simp [h1]
  · by_cases h2 : d < a
    · simp [h1, h2]
    · simp only [h1, h2, if_false]
      by_cases h3 : b < e
      · simp [h3]
      · by_cases h4 : e < b
        · simp [h3, h4]
        · simp only [h3, h4, if_false]
          by_cases h5 : c < f
          · simp [h5]
          · by_cases h6 : f < c
            · simp [h5, h6]
            · simp [h5, h6]

def enc30 (x : S30) : List Value := [.int .i64 x.f0, .int .i64 x.f1, .int .i64 x.f2]

theorem lit_C {W : World} {b : Nat} {xs : List Int} (h : W.heap[b]? = some (.cells (nums .i64 xs).toArray 3 (0, 0))) (hl : xs.length ≤ 1000) : Kd.C (Kd.int .i64) W (some ⟨b, 0, none⟩) xs.length xs := by
  have ho : W.ownsRow 0 3 1 (.slice (some ⟨b, 0, none⟩) xs.length xs.length) xs.length (nums .i64 xs) := by
    refine ⟨by rw [nums_length]; omega, .inr ⟨b, xs.length, _, rfl, Nat.zero_le _, h, Nat.le_refl _, by unfold maxLen; omega, by simp [nums_length], ?_⟩⟩
    rw [Nat.mul_one, List.take_of_length_le (by rw [nums_length]; omega)]
  obtain ⟨A', c', e, hr⟩ := own_reads ho
  injection e with e1 e2 e3
  subst e1
  exact Kd.C_of_reads hr

open Go.Sort in
theorem alloc_grow (w : World) (o : Obj) : w.alloc o = grow w #[o] := by
  unfold World.alloc grow
  simp only [Array.push_eq_append]

open Go.Sort in
set_option maxHeartbeats 2000000 in
set_option maxRecDepth 100000 in
theorem edgeBefore_lays (x y : S30) (w : World) :
    Calls Try.prog 25 #[.agg #[.int .i64 x.f0, .int .i64 x.f1, .int .i64 x.f2], .agg #[.int .i64 y.f0, .int .i64 y.f1, .int .i64 y.f2]] w fun e w' => e = .returned (.int .i64 (cf3 x y)) ∧ ∃ q os', w' = grow (w.drewN q) os' := by
  go_enter Try.func25, Try.ntmps25
  go_wp2_with fail
  have hcmp : ∀ (W : World) (b1 b2 : Nat) (h1 : W.heap[b1]? = some (.cells #[.int .i64 x.f0, .int .i64 x.f1, .int .i64 x.f2] 3 (0, 0))) (h2 : W.heap[b2]? = some (.cells #[.int .i64 y.f0, .int .i64 y.f1, .int .i64 y.f2] 3 (0, 0))),
      Calls Try.prog 32 #[.slice (some ⟨b1, 0, none⟩) 3 3, .slice (some ⟨b2, 0, none⟩) 3 3] W fun e w' => e = .returned (.int .i64 (cf3 x y)) ∧ Drawn0 W w' := by
    intro W b1 b2 h1 h2
    exact slices_Compare_int_int.calls 4 _ 3 [x.f0, x.f1, x.f2] _ 3 [y.f0, y.f1, y.f2] _ W (lit_C h1 (by simp)) (by simp) (lit_C h2 (by simp)) (by simp) (compare_f x y)
  refine (hcmp _ _ _ ?c1 ?c2).mono ?_
  case c1 =>
    rw [Below.heap_alloc _ _ _ (by simp)]
    have h1 := heap_alloc_new ((w.alloc (Obj.cells #[Value.int IntKind.i64 x.f0, Value.int IntKind.i64 x.f1, Value.int IntKind.i64 x.f2] 30)).alloc (Obj.cells #[Value.int IntKind.i64 y.f0, Value.int IntKind.i64 y.f1, Value.int IntKind.i64 y.f2] 30)) (Obj.cells #[Value.int IntKind.i64 x.f0, Value.int IntKind.i64 x.f1, Value.int IntKind.i64 x.f2] 3)
    simpa using h1
  case c2 =>
    have h1 := heap_alloc_new (((w.alloc (Obj.cells #[Value.int IntKind.i64 x.f0, Value.int IntKind.i64 x.f1, Value.int IntKind.i64 x.f2] 30)).alloc (Obj.cells #[Value.int IntKind.i64 y.f0, Value.int IntKind.i64 y.f1, Value.int IntKind.i64 y.f2] 30)).alloc (Obj.cells #[Value.int IntKind.i64 x.f0, Value.int IntKind.i64 x.f1, Value.int IntKind.i64 x.f2] 3)) (Obj.cells #[Value.int IntKind.i64 y.f0, Value.int IntKind.i64 y.f1, Value.int IntKind.i64 y.f2] 3)
    simpa using h1
  rintro e w1 ⟨rfl, ⟨q, rfl⟩⟩
  go_wp2
  go_ret
  refine ⟨rfl, q, #[Obj.cells #[Value.int IntKind.i64 x.f0, Value.int IntKind.i64 x.f1, Value.int IntKind.i64 x.f2] 30, Obj.cells #[Value.int IntKind.i64 y.f0, Value.int IntKind.i64 y.f1, Value.int IntKind.i64 y.f2] 30, Obj.cells #[Value.int IntKind.i64 x.f0, Value.int IntKind.i64 x.f1, Value.int IntKind.i64 x.f2] 3, Obj.cells #[Value.int IntKind.i64 y.f0, Value.int IntKind.i64 y.f1, Value.int IntKind.i64 y.f2] 3], ?_⟩
  rw [alloc_grow, alloc_grow, alloc_grow, alloc_grow, grow_grow, grow_grow, grow_grow]
  rfl

open Go.Sort in
theorem edge_cmpLays (blk off size : Nat) (w : World) : CmpLays Try.prog 25 #[] enc30 3 cf3 blk off size w := by
  intro m os dk _ x y
  exact edgeBefore_lays x y _

open Go.Sort in
theorem ltOf_cf3 (x y : S30) : ltOf cf3 x y = decide (lt3 x y) := by
  unfold ltOf
  rw [decide_eq_decide]
  exact cf3_lt x y

open Go.Sort in
theorem swo_cf3 : SWO (ltOf cf3) where
  irrefl x := by rw [ltOf_cf3, decide_eq_false_iff_not]; unfold lt3; omega
  trans x y z h1 h2 := by rw [ltOf_cf3, decide_eq_true_eq] at *; unfold lt3 at *; omega
  ntrans x y z h1 h2 := by rw [ltOf_cf3, decide_eq_false_iff_not] at *; unfold lt3 at *; omega
end Go.Proofs.Ytgiebjihceggjaa
