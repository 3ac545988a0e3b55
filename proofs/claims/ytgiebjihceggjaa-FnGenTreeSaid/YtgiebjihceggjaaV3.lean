import Derived.Test.YtgiebjihceggjaaV2
import Derived.Test.YtgiebjihceggjaaX1
set_option linter.unusedVariables false
set_option linter.unusedSimpArgs false
/- The contract of laws.tableOf, in the printed contracts' form. -/
namespace Go.Proofs.Ytgiebjihceggjaa
open Go.RowKit Go.Proofs.YtgiebjihceggjaaW.PrintWords Go.Proofs.YtgiebjihceggjaaW.PrintLast Go.Proofs.YtgiebjihceggjaaW.PrintMore
namespace PFnGenTree
def laws_tableOf.f (a0_0 : Bool) (l0_1 : List Int) (l0_2 : List S30) : Option (List Int × List (List Bool) × List (List Int)) :=
  if l0_1.length ≤ 1000 ∧ l0_2.length ≤ 100000 ∧ (l0_2.all fun e => decide (e.f0 ∈ l0_1) && decide (e.f1 ∈ l0_1)) = true then
    some (srt l0_1, tbA a0_0 (srt l0_1) (srt l0_1).length l0_2, tbW a0_0 (srt l0_1) (srt l0_1).length l0_2) else none
theorem laws_tableOf.calls (a0_0 : Bool) (A0_1 : Option Addr) (c0_1 : Nat) (l0_1 : List Int) (A0_2 : Option Addr) (c0_2 : Nat) (l0_2 : List S30) (r1 : List Int) (r2 : List (List Bool)) (r3 : List (List Int)) (w : World)
    (hr0_1 : Kd.C (Kd.int .i64) w A0_1 l0_1.length l0_1) (hc0_1 : l0_1.length ≤ c0_1) (hr0_2 : Kd.C k30 w A0_2 l0_2.length l0_2) (hc0_2 : l0_2.length ≤ c0_2) (h : laws_tableOf.f a0_0 l0_1 l0_2 = some (r1, r2, r3)) :
    Calls Try.prog 16 #[.agg #[.bool a0_0, .slice A0_1 l0_1.length c0_1, .slice A0_2 l0_2.length c0_2]] w fun e w' => ∃ v1_ v2_ v3_ : Value, e = .returned (.agg #[v1_, v2_, v3_]) ∧ Kd.R (Kd.int .i64) 3 w' w.heap.size (fun _ => True) v1_ r1 ∧ Kd.S (Kd.slice 4 Kd.bool) 53 w' w.heap.size (fun _ => True) v2_ r2 ∧ Kd.S (Kd.slice 3 (Kd.int .i64)) 22 w' w.heap.size (fun k_ => some k_ ≠ (v1_ : Value).ownBlock) v3_ r3 ∧ Below w.heap.size w w' := by
  unfold laws_tableOf.f at h
  split at h
  · rename_i hc
    injection h with h
    injection h with h1 h
    injection h with h2 h3
    subst h1 h2 h3
    obtain ⟨ks, hks⟩ := sorted_f l0_1 (by omega)
    refine (tableOf_any a0_0 A0_1 A0_2 c0_1 c0_2 l0_1 l0_2 w ks hr0_1 hc0_1 hr0_2 hc.1 hc.2.1 hks hc.2.2).mono ?_
    rintro e w' ⟨vn, va, vw, rfl, hR, ⟨ra, hA⟩, ⟨rw', hW, hsn⟩, hb⟩
    rw [← tbA_map] at hA
    rw [← tbW_map] at hW
    have hov : ∀ k, vw.ownBlock = some k → some k ≠ vn.ownBlock := by
      intro k hk he
      obtain ⟨inner, ho⟩ := Kd.R_own hR
      obtain ⟨c, hc⟩ := own_block ho he.symm
      obtain ⟨c', hc'⟩ := own_block hW.o hk
      exact absurd (blk_type hc hc') (by decide)
    have hor : ∀ i (hi : i < rw'.length) k, rw'[i].ownBlock = some k → some k ≠ vn.ownBlock := fun i hi k hk he => hsn i hi k he.symm hk
    exact ⟨vn, va, vw, rfl, hR, Tb.S Value.bool (fun _ => rfl) hA (by decide) _ (fun _ _ => trivial) (fun _ _ _ _ => trivial), Tb.S (Value.int .i64) (fun _ => rfl) hW (by decide) _ hov hor, hb⟩
  · cases h
end PFnGenTree
end Go.Proofs.Ytgiebjihceggjaa
