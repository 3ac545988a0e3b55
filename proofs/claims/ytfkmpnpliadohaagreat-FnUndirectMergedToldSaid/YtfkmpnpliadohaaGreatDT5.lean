/- Printed by a program (the kit's printer, run over contracts that were proved by hand). -/
import Derived.Test.YtfkmpnpliadohaaGreatDT0
import Derived.Test.YtfkmpnpliadohaaGreatDB4
import Derived.Test.YtfkmpnpliadohaaGreatDT2
import Derived.Test.YtfkmpnpliadohaaGreatDT3
import Derived.Test.YtfkmpnpliadohaaGreatDT4
set_option linter.unusedVariables false
set_option linter.unusedSimpArgs false
namespace Go.Proofs.YtfkmpnpliadohaaGreat.PL
open Go.RowKit Go.Proofs.YtfkmpnpliadohaaGreatW.PrintWords Go.Proofs.YtfkmpnpliadohaaGreatW.PrintLast Go.Proofs.YtfkmpnpliadohaaGreatW.PrintMore
attribute [local go_sem] max2_int min2_int max_two min_two max_three min_three max_four min_four   -- for this text's walks alone
set_option linter.unusedVariables false
set_option linter.unusedSimpArgs false

/-! ### laws_FnUndirectMerged: function 3 -/
mutual
def laws_FnUndirectMerged.j0 : Nat → Int → Int → Bool → Bool → List Int → List (S38) → Option (Bool)
  | 0, _, _, _, _, _, _ => none
  | k + 1, x1, x2, x29, x160000, x160001, x160002 => if x29 = true then (some true) else ((impl_UndirectWeighted.f x160000 x160001 x160002 x1 (wrap64 (Int.tmod x2 3))).bind fun bt162 => ((laws_tableOf.f x160000 x160001 x160002).bind fun bt171 => (laws_FnUndirectMerged.l0 k x1 (wrap64 (Int.tmod x2 3)) bt162.2.2.2 0 bt162.1 bt162.2.1 bt162.2.2.1 bt171.1 bt171.2.1 bt171.2.2 false bt171.1 ([] : List (S38)))))
def laws_FnUndirectMerged.l0 : Nat → Int → Int → Bool → Int → Bool → List Int → List (S38) → List Int → List (List Bool) → List (List Int) → Bool → List Int → List (S38) → Option (Bool)
  | 0, _, _, _, _, _, _, _, _, _, _, _, _, _ => none
  | k + 1, x1, x7, x9, x12, x171000, x171001, x171002, x181000, x181001, x181002, x182000, x182001, x182002 => if x12 < (x181000.length : Int) then (laws_FnUndirectMerged.l1 k x1 x7 x9 x12 (wrap64 (x12 + 1)) x171000 x171001 x171002 x181000 x181001 x181002 x182000 x182001 x182002) else (if x9 = true then (some false) else ((laws_sameGraph.f k x171000 x171001 x171002 x182000 x182001 x182002).bind fun t182 => (if t182 = true then ((laws_merges.f k).bind fun t183 => (some t183)) else (some false))))
def laws_FnUndirectMerged.l1 : Nat → Int → Int → Bool → Int → Int → Bool → List Int → List (S38) → List Int → List (List Bool) → List (List Int) → Bool → List Int → List (S38) → Option (Bool)
  | 0, _, _, _, _, _, _, _, _, _, _, _, _, _, _ => none
  | k + 1, x1, x7, x9, x12, x13, x171000, x171001, x171002, x181000, x181001, x181002, x182000, x182001, x182002 => if x13 < (x181000.length : Int) then (if 0 ≤ x12 then (if x12 < (x181001.length : Int) then (if 0 ≤ x13 then (if x13 < ((rd_L3 x181001 x12).length : Int) then (if rdOf false (rd_L3 x181001 x12) x13 = true then (if x12 < (x181002.length : Int) then (if x13 < ((rd_L4 x181002 x12).length : Int) then (laws_FnUndirectMerged.j3 k x1 x7 x9 x12 x13 (rd (rd_L4 x181002 x12) x13) x1 x171000 x171001 x171002 x181000 x181001 x181002 x182000 x182001 x182002) else (none)) else (none)) else (laws_FnUndirectMerged.j3 k x1 x7 x9 x12 x13 x1 x1 x171000 x171001 x171002 x181000 x181001 x181002 x182000 x182001 x182002)) else (none)) else (none)) else (none)) else (none)) else (laws_FnUndirectMerged.l0 k x1 x7 x9 (wrap64 (x12 + 1)) x171000 x171001 x171002 x181000 x181001 x181002 x182000 x182001 x182002)
def laws_FnUndirectMerged.j3 : Nat → Int → Int → Bool → Int → Int → Int → Int → Bool → List Int → List (S38) → List Int → List (List Bool) → List (List Int) → Bool → List Int → List (S38) → Option (Bool)
  | 0, _, _, _, _, _, _, _, _, _, _, _, _, _, _, _, _ => none
  | k + 1, x1, x7, x9, x12, x13, x14, x15, x171000, x171001, x171002, x181000, x181001, x181002, x182000, x182001, x182002 => if 0 ≤ x13 then (if x13 < (x181001.length : Int) then (if 0 ≤ x12 then (if x12 < ((rd_L3 x181001 x13).length : Int) then (if rdOf false (rd_L3 x181001 x13) x12 = true then (if x13 < (x181002.length : Int) then (if x12 < ((rd_L4 x181002 x13).length : Int) then (if x12 < (x181001.length : Int) then (if x13 < ((rd_L3 x181001 x12).length : Int) then (if rdOf false (rd_L3 x181001 x12) x13 = true then (if x12 < (x181000.length : Int) then (if x13 < (x181000.length : Int) then ((laws_merged.f x14 (rd (rd_L4 x181002 x13) x12) x7).bind fun t196 => (if x182002.length < 5864062014805 then (laws_FnUndirectMerged.l1 k x1 x7 x9 x12 (wrap64 (x13 + 1)) x171000 x171001 x171002 x181000 x181001 x181002 x182000 x182001 (x182002 ++ [(⟨rd x181000 x12, rd x181000 x13, t196⟩ : S38)])) else (none))) else (none)) else (none)) else (if x12 < (x181000.length : Int) then (if x13 < (x181000.length : Int) then ((laws_merged.f x14 (rd (rd_L4 x181002 x13) x12) x7).bind fun t204 => (if x182002.length < 5864062014805 then (laws_FnUndirectMerged.l1 k x1 x7 x9 x12 (wrap64 (x13 + 1)) x171000 x171001 x171002 x181000 x181001 x181002 x182000 x182001 (x182002 ++ [(⟨rd x181000 x12, rd x181000 x13, t204⟩ : S38)])) else (none))) else (none)) else (none))) else (none)) else (none)) else (none)) else (none)) else (if x12 < (x181001.length : Int) then (if x13 < ((rd_L3 x181001 x12).length : Int) then (if rdOf false (rd_L3 x181001 x12) x13 = true then (if x12 < (x181000.length : Int) then (if x13 < (x181000.length : Int) then ((laws_merged.f x14 x15 x7).bind fun t212 => (if x182002.length < 5864062014805 then (laws_FnUndirectMerged.l1 k x1 x7 x9 x12 (wrap64 (x13 + 1)) x171000 x171001 x171002 x181000 x181001 x181002 x182000 x182001 (x182002 ++ [(⟨rd x181000 x12, rd x181000 x13, t212⟩ : S38)])) else (none))) else (none)) else (none)) else (laws_FnUndirectMerged.l1 k x1 x7 x9 x12 (wrap64 (x13 + 1)) x171000 x171001 x171002 x181000 x181001 x181002 x182000 x182001 x182002)) else (none)) else (none))) else (none)) else (none)) else (none)) else (none)
end
def laws_FnUndirectMerged.f (k : Nat) (a0_0 : Bool) (l0_1 : List Int) (l0_2 : List (S38)) (a1 : Int) (a2 : Int) : Option (Bool) := (laws_zzFits1.f a0_0 l0_1 l0_2).bind fun t160 => (if t160 = true then ((laws_fewOf.f k a0_0 l0_1 l0_2 true 25).bind fun t161 => (if t161 = true then (if a1 > 1099511627776 then (laws_FnUndirectMerged.j0 k a1 a2 true a0_0 l0_1 l0_2) else (laws_FnUndirectMerged.j0 k a1 a2 (decide (a1 < (-1099511627776))) a0_0 l0_1 l0_2)) else (laws_FnUndirectMerged.j0 k a1 a2 true a0_0 l0_1 l0_2))) else (some true))
theorem laws_FnUndirectMerged.mono_l : ∀ k, (∀ y0 y1 y2 y3 y4 y5, LeO (laws_FnUndirectMerged.j0 k y0 y1 y2 y3 y4 y5) (laws_FnUndirectMerged.j0 (k + 1) y0 y1 y2 y3 y4 y5)) ∧ (∀ y0 y1 y2 y3 y4 y5 y6 y7 y8 y9 y10 y11 y12, LeO (laws_FnUndirectMerged.l0 k y0 y1 y2 y3 y4 y5 y6 y7 y8 y9 y10 y11 y12) (laws_FnUndirectMerged.l0 (k + 1) y0 y1 y2 y3 y4 y5 y6 y7 y8 y9 y10 y11 y12)) ∧ (∀ y0 y1 y2 y3 y4 y5 y6 y7 y8 y9 y10 y11 y12 y13, LeO (laws_FnUndirectMerged.l1 k y0 y1 y2 y3 y4 y5 y6 y7 y8 y9 y10 y11 y12 y13) (laws_FnUndirectMerged.l1 (k + 1) y0 y1 y2 y3 y4 y5 y6 y7 y8 y9 y10 y11 y12 y13)) ∧ (∀ y0 y1 y2 y3 y4 y5 y6 y7 y8 y9 y10 y11 y12 y13 y14 y15, LeO (laws_FnUndirectMerged.j3 k y0 y1 y2 y3 y4 y5 y6 y7 y8 y9 y10 y11 y12 y13 y14 y15) (laws_FnUndirectMerged.j3 (k + 1) y0 y1 y2 y3 y4 y5 y6 y7 y8 y9 y10 y11 y12 y13 y14 y15))
  | 0 => ⟨fun _ _ _ _ _ _ r h => by simp [laws_FnUndirectMerged.j0] at h, fun _ _ _ _ _ _ _ _ _ _ _ _ _ r h => by simp [laws_FnUndirectMerged.l0] at h, fun _ _ _ _ _ _ _ _ _ _ _ _ _ _ r h => by simp [laws_FnUndirectMerged.l1] at h, fun _ _ _ _ _ _ _ _ _ _ _ _ _ _ _ _ r h => by simp [laws_FnUndirectMerged.j3] at h⟩
  | k + 1 => by
    obtain ⟨ih0, ih1, ih2, ih3⟩ := laws_FnUndirectMerged.mono_l k
    refine ⟨?_, ?_, ?_, ?_⟩
    · intro y0 y1 y2 y3 y4 y5
      unfold laws_FnUndirectMerged.j0
      repeat' first
      | (with_reducible exact ih0 _ _ _ _ _ _)
      | (with_reducible exact ih1 _ _ _ _ _ _ _ _ _ _ _ _ _)
      | (with_reducible exact ih2 _ _ _ _ _ _ _ _ _ _ _ _ _ _)
      | (with_reducible exact ih3 _ _ _ _ _ _ _ _ _ _ _ _ _ _ _ _)
      | (with_reducible exact laws_fewOf.mono _ _ _ _ _ _)
      | (with_reducible exact laws_merges.mono _)
      | (with_reducible exact laws_sameGraph.mono _ _ _ _ _ _ _)
      | (with_reducible exact LeO.refl _)
      | (with_reducible exact LeO.none _)
      | (with_reducible refine LeO.ite ?_ ?_)
      | (with_reducible refine LeO.bind ?_ (fun _ => ?_))
      | exact ih0 _ _ _ _ _ _
      | exact ih1 _ _ _ _ _ _ _ _ _ _ _ _ _
      | exact ih2 _ _ _ _ _ _ _ _ _ _ _ _ _ _
      | exact ih3 _ _ _ _ _ _ _ _ _ _ _ _ _ _ _ _
      | exact laws_fewOf.mono _ _ _ _ _ _
      | exact laws_merges.mono _
      | exact laws_sameGraph.mono _ _ _ _ _ _ _
      | exact LeO.none _
      | refine LeO.ite ?_ ?_
      | refine LeO.bind ?_ (fun _ => ?_)
    · intro y0 y1 y2 y3 y4 y5 y6 y7 y8 y9 y10 y11 y12
      unfold laws_FnUndirectMerged.l0
      repeat' first
      | (with_reducible exact ih0 _ _ _ _ _ _)
      | (with_reducible exact ih1 _ _ _ _ _ _ _ _ _ _ _ _ _)
      | (with_reducible exact ih2 _ _ _ _ _ _ _ _ _ _ _ _ _ _)
      | (with_reducible exact ih3 _ _ _ _ _ _ _ _ _ _ _ _ _ _ _ _)
      | (with_reducible exact laws_fewOf.mono _ _ _ _ _ _)
      | (with_reducible exact laws_merges.mono _)
      | (with_reducible exact laws_sameGraph.mono _ _ _ _ _ _ _)
      | (with_reducible exact LeO.refl _)
      | (with_reducible exact LeO.none _)
      | (with_reducible refine LeO.ite ?_ ?_)
      | (with_reducible refine LeO.bind ?_ (fun _ => ?_))
      | exact ih0 _ _ _ _ _ _
      | exact ih1 _ _ _ _ _ _ _ _ _ _ _ _ _
      | exact ih2 _ _ _ _ _ _ _ _ _ _ _ _ _ _
      | exact ih3 _ _ _ _ _ _ _ _ _ _ _ _ _ _ _ _
      | exact laws_fewOf.mono _ _ _ _ _ _
      | exact laws_merges.mono _
      | exact laws_sameGraph.mono _ _ _ _ _ _ _
      | exact LeO.none _
      | refine LeO.ite ?_ ?_
      | refine LeO.bind ?_ (fun _ => ?_)
    · intro y0 y1 y2 y3 y4 y5 y6 y7 y8 y9 y10 y11 y12 y13
      unfold laws_FnUndirectMerged.l1
      repeat' first
      | (with_reducible exact ih0 _ _ _ _ _ _)
      | (with_reducible exact ih1 _ _ _ _ _ _ _ _ _ _ _ _ _)
      | (with_reducible exact ih2 _ _ _ _ _ _ _ _ _ _ _ _ _ _)
      | (with_reducible exact ih3 _ _ _ _ _ _ _ _ _ _ _ _ _ _ _ _)
      | (with_reducible exact laws_fewOf.mono _ _ _ _ _ _)
      | (with_reducible exact laws_merges.mono _)
      | (with_reducible exact laws_sameGraph.mono _ _ _ _ _ _ _)
      | (with_reducible exact LeO.refl _)
      | (with_reducible exact LeO.none _)
      | (with_reducible refine LeO.ite ?_ ?_)
      | (with_reducible refine LeO.bind ?_ (fun _ => ?_))
      | exact ih0 _ _ _ _ _ _
      | exact ih1 _ _ _ _ _ _ _ _ _ _ _ _ _
      | exact ih2 _ _ _ _ _ _ _ _ _ _ _ _ _ _
      | exact ih3 _ _ _ _ _ _ _ _ _ _ _ _ _ _ _ _
      | exact laws_fewOf.mono _ _ _ _ _ _
      | exact laws_merges.mono _
      | exact laws_sameGraph.mono _ _ _ _ _ _ _
      | exact LeO.none _
      | refine LeO.ite ?_ ?_
      | refine LeO.bind ?_ (fun _ => ?_)
    · intro y0 y1 y2 y3 y4 y5 y6 y7 y8 y9 y10 y11 y12 y13 y14 y15
      unfold laws_FnUndirectMerged.j3
      repeat' first
      | (with_reducible exact ih0 _ _ _ _ _ _)
      | (with_reducible exact ih1 _ _ _ _ _ _ _ _ _ _ _ _ _)
      | (with_reducible exact ih2 _ _ _ _ _ _ _ _ _ _ _ _ _ _)
      | (with_reducible exact ih3 _ _ _ _ _ _ _ _ _ _ _ _ _ _ _ _)
      | (with_reducible exact laws_fewOf.mono _ _ _ _ _ _)
      | (with_reducible exact laws_merges.mono _)
      | (with_reducible exact laws_sameGraph.mono _ _ _ _ _ _ _)
      | (with_reducible exact LeO.refl _)
      | (with_reducible exact LeO.none _)
      | (with_reducible refine LeO.ite ?_ ?_)
      | (with_reducible refine LeO.bind ?_ (fun _ => ?_))
      | exact ih0 _ _ _ _ _ _
      | exact ih1 _ _ _ _ _ _ _ _ _ _ _ _ _
      | exact ih2 _ _ _ _ _ _ _ _ _ _ _ _ _ _
      | exact ih3 _ _ _ _ _ _ _ _ _ _ _ _ _ _ _ _
      | exact laws_fewOf.mono _ _ _ _ _ _
      | exact laws_merges.mono _
      | exact laws_sameGraph.mono _ _ _ _ _ _ _
      | exact LeO.none _
      | refine LeO.ite ?_ ?_
      | refine LeO.bind ?_ (fun _ => ?_)
theorem laws_FnUndirectMerged.mono : ∀ a0 a1 a2 a3 a4 k, LeO (laws_FnUndirectMerged.f k a0 a1 a2 a3 a4) (laws_FnUndirectMerged.f (k + 1) a0 a1 a2 a3 a4) := by
  intro a0 a1 a2 a3 a4 k
  obtain ⟨ih0, ih1, ih2, ih3⟩ := laws_FnUndirectMerged.mono_l k
  unfold laws_FnUndirectMerged.f
  repeat' first
      | (with_reducible exact ih0 _ _ _ _ _ _)
      | (with_reducible exact ih1 _ _ _ _ _ _ _ _ _ _ _ _ _)
      | (with_reducible exact ih2 _ _ _ _ _ _ _ _ _ _ _ _ _ _)
      | (with_reducible exact ih3 _ _ _ _ _ _ _ _ _ _ _ _ _ _ _ _)
      | (with_reducible exact laws_fewOf.mono _ _ _ _ _ _)
      | (with_reducible exact laws_merges.mono _)
      | (with_reducible exact laws_sameGraph.mono _ _ _ _ _ _ _)
      | (with_reducible exact LeO.refl _)
      | (with_reducible exact LeO.none _)
      | (with_reducible refine LeO.ite ?_ ?_)
      | (with_reducible refine LeO.bind ?_ (fun _ => ?_))
      | exact ih0 _ _ _ _ _ _
      | exact ih1 _ _ _ _ _ _ _ _ _ _ _ _ _
      | exact ih2 _ _ _ _ _ _ _ _ _ _ _ _ _ _
      | exact ih3 _ _ _ _ _ _ _ _ _ _ _ _ _ _ _ _
      | exact laws_fewOf.mono _ _ _ _ _ _
      | exact laws_merges.mono _
      | exact laws_sameGraph.mono _ _ _ _ _ _ _
      | exact LeO.none _
      | refine LeO.ite ?_ ?_
      | refine LeO.bind ?_ (fun _ => ?_)
end Go.Proofs.YtfkmpnpliadohaaGreat.PL
