/- Printed by a program (the kit's printer, run over contracts that were proved by hand). -/
import Derived.Test.YtolbfjjgdheikaaGreatFV0
import Derived.Test.YtolbfjjgdheikaaGreatFV1
set_option linter.unusedVariables false
set_option linter.unusedSimpArgs false
namespace Go.Proofs.YtolbfjjgdheikaaGreat.PL
open Go.RowKit Go.Proofs.YtolbfjjgdheikaaGreatW.PrintWords Go.Proofs.YtolbfjjgdheikaaGreatW.PrintLast Go.Proofs.YtolbfjjgdheikaaGreatW.PrintMore
attribute [local go_sem] max2_int min2_int max_two min_two max_three min_three max_four min_four   -- for this text's walks alone

/-! ### laws_together: function 12 -/
/-! ### slices_Equal_int_int: function 20 -/
-- NOT PRINTED: function 31 (slices_EqualFunc_int_int_int_int)

-- GIVEN: function 13 (laws_sameLists)

-- NOT PRINTED: function 32 (slices_Clone_int_int_32)

/-! ### laws_before: function 33 -/
mutual
def laws_before.l0 : Nat → List Int → List Int → Int → Option (Bool)
  | 0, _, _, _ => none
  | k + 1, x0, x1, x5 => if x5 < (x0.length : Int) then (laws_before.j1 k x0 x1 x5 (decide (x5 < (x1.length : Int)))) else (laws_before.j1 k x0 x1 x5 false)
def laws_before.j1 : Nat → List Int → List Int → Int → Bool → Option (Bool)
  | 0, _, _, _, _ => none
  | k + 1, x0, x1, x5, x15 => if x15 = true then (if 0 ≤ x5 then (if x5 < (x0.length : Int) then (if x5 < (x1.length : Int) then (if (rd x0 x5) = (rd x1 x5) then (laws_before.l0 k x0 x1 (wrap64 (x5 + 1))) else (some (decide ((rd x0 x5) < (rd x1 x5))))) else (none)) else (none)) else (none)) else (some (decide ((x0.length : Int) < (x1.length : Int))))
end
-- GIVEN: function 14 (laws_sortedLists)

end Go.Proofs.YtolbfjjgdheikaaGreat.PL
