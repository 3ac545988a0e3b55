/- Printed by a program (the kit's printer, run over contracts that were proved by hand). -/
import Derived.Test.YtfkmpnpliadohaaGreatFT0
import Derived.Test.YtfkmpnpliadohaaGreatFT2
namespace Go.Proofs.YtfkmpnpliadohaaGreat.PL
open Go.RowKit Go.Proofs.YtfkmpnpliadohaaGreatW.PrintWords Go.Proofs.YtfkmpnpliadohaaGreatW.PrintLast Go.Proofs.YtfkmpnpliadohaaGreatW.PrintMore
attribute [local go_sem] max2_int min2_int max_two min_two max_three min_three max_four min_four   -- for this text's walks alone
set_option linter.unusedVariables false
set_option linter.unusedSimpArgs false

/-! ### laws_rising: function 93 -/
/-! ### laws_index: function 54 -/
/-! ### laws_has: function 94 -/
/-! ### laws_well: function 40 -/
/-! ### laws_few: function 29 -/
/-! ### laws_fewOf: function 11 -/
-- NOT PRINTED: function 207 (cmp_isNaN_int64)

-- NOT PRINTED: function 161 (cmp_Less_int64)

-- NOT PRINTED: function 162 (slices_isNaN_int64)

-- NOT PRINTED: function 144 (slices_BinarySearch_int64_int64)

-- NOT PRINTED: function 109 (impl_plain_index)

-- NOT PRINTED: function 173 (bits_Len32)

-- NOT PRINTED: function 174 (bits_Len64)

-- NOT PRINTED: function 150 (bits_Len)

-- NOT PRINTED: function 187 (slices_insertionSortOrdered_int64)

-- NOT PRINTED: function 222 (slices_siftDownOrdered_int64)

-- NOT PRINTED: function 188 (slices_heapSortOrdered_int64)

-- NOT PRINTED: function 210 (slices_nextPowerOfTwo)

-- NOT PRINTED: function 211 (slices_xorshift_Next)

-- NOT PRINTED: function 189 (slices_breakPatternsOrdered_int64)

-- NOT PRINTED: function 233 (slices_order2Ordered_int64)

-- NOT PRINTED: function 224 (slices_medianOrdered_int64)

-- NOT PRINTED: function 223 (slices_medianAdjacentOrdered_int64)

-- NOT PRINTED: function 190 (slices_choosePivotOrdered_int64)

-- NOT PRINTED: function 191 (slices_reverseRangeOrdered_int64)

-- NOT PRINTED: function 192 (slices_partialInsertionSortOrdered_int64)

-- NOT PRINTED: function 193 (slices_partitionEqualOrdered_int64)

-- NOT PRINTED: function 194 (slices_partitionOrdered_int64)

-- NOT PRINTED: function 158 (slices_pdqsortOrdered_int64)

-- NOT PRINTED: function 139 (slices_Sort_int64_int64)

-- NOT PRINTED: function 140 (slices_Compact_int64_int64)

-- NOT PRINTED: function 141 (slices_Clone_int64_int64)

-- NOT PRINTED: function 195 (impl_arc_int)

-- NOT PRINTED: function 225 (impl_arc_225)

-- NOT PRINTED: function 244 (impl_arc_244)

-- NOT PRINTED: function 234 (impl_arc_234)

-- NOT PRINTED: function 226 (impl_arc_226)

-- NOT PRINTED: function 197 (impl_arc_197)

-- NOT PRINTED: function 159 (impl_set)

-- NOT PRINTED: function 142 (impl_plain_lay)

-- NOT PRINTED: function 103 (impl_read)

-- NOT PRINTED: function 48 (impl_oneWay)

/-! ### impl_near: function 49 -/
-- NOT PRINTED: function 66 (impl_number)

-- NOT PRINTED: function 208 (cmp_isNaN_int)

-- NOT PRINTED: function 204 (cmp_Less_int)

-- NOT PRINTED: function 198 (slices_insertionSortOrdered_int)

-- NOT PRINTED: function 227 (slices_siftDownOrdered_int)

-- NOT PRINTED: function 199 (slices_heapSortOrdered_int)

-- NOT PRINTED: function 200 (slices_breakPatternsOrdered_int)

-- NOT PRINTED: function 235 (slices_order2Ordered_int)

-- NOT PRINTED: function 229 (slices_medianOrdered_int)

-- NOT PRINTED: function 228 (slices_medianAdjacentOrdered_int)

-- NOT PRINTED: function 201 (slices_choosePivotOrdered_int)

-- NOT PRINTED: function 202 (slices_reverseRangeOrdered_int)

-- NOT PRINTED: function 203 (slices_partialInsertionSortOrdered_int)

-- NOT PRINTED: function 205 (slices_partitionEqualOrdered_int)

-- NOT PRINTED: function 206 (slices_partitionOrdered_int)

-- NOT PRINTED: function 160 (slices_pdqsortOrdered_int)

-- NOT PRINTED: function 143 (slices_Sort_int_int)

-- NOT PRINTED: function 104 (impl_iterated)

-- NOT PRINTED: function 51 (impl_seen)

-- GIVEN: function 12 (impl_UndirectWeighted)

-- GIVEN: function 13 (laws_tableOf)

end Go.Proofs.YtfkmpnpliadohaaGreat.PL
