import Derived.Test.YtgiebjihceggjaaA
set_option linter.unusedVariables false
set_option linter.unusedSimpArgs false
/- The contract of slices.Clone at int, in the printed contracts' form. -/
namespace Go.Proofs.Ytgiebjihceggjaa
open Go.RowKit Go.Proofs.YtgiebjihceggjaaW.PrintWords Go.Proofs.YtgiebjihceggjaaW.PrintLast Go.Proofs.YtgiebjihceggjaaW.PrintMore

theorem R_of_ints {w : World} {base : Nat} {e : TypeId} {v : Value} {xs : List Int} (h : w.ownsRow base e 1 v xs.length (nums .i64 xs)) : Kd.R (Kd.int .i64) e w base (fun _ => True) v xs := by
  refine ⟨fun _ _ => trivial, nums .i64 xs, h, by rw [nums_length]; exact (Nat.mul_one _).symm, fun j p hj => ?_⟩
  show List.take 1 (List.drop (j * 1) (nums .i64 xs)) = [.int .i64 p]
  obtain ⟨hl, rfl⟩ := List.getElem?_eq_some_iff.1 hj
  rw [Nat.mul_one, List.drop_eq_getElem_cons (by rw [nums_length]; exact hl)]
  simp [nums]

namespace PFnGenTree
def slices_Clone_int_int.f (l0 : List Int) : Option (List Int) := if l0.length ≤ 100000 then some l0 else none
theorem slices_Clone_int_int.calls (A0 : Option Addr) (c0 : Nat) (l0 : List Int) (r : List Int) (w : World) (hr0 : Kd.C (Kd.int .i64) w A0 l0.length l0) (hc0 : l0.length ≤ c0) (h : slices_Clone_int_int.f l0 = some r) :
    Calls Try.prog 17 #[.slice A0 l0.length c0] w fun e w' => ∃ v0_ : Value, e = .returned (v0_) ∧ Kd.R (Kd.int .i64) 3 w' w.heap.size (fun _ => True) v0_ r ∧ Below w.heap.size w w' := by
  unfold slices_Clone_int_int.f at h
  split at h
  · injection h with h
    subst h
    refine (cloneI_any A0 c0 l0 w hr0 (by assumption)).mono ?_
    rintro e w' ⟨v, rfl, ho, hb⟩
    exact ⟨v, rfl, R_of_ints ho, hb⟩
  · cases h
end PFnGenTree
end Go.Proofs.Ytgiebjihceggjaa
