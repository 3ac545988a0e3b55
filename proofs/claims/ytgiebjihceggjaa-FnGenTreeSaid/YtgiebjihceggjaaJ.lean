import Derived.Test.YtgiebjihceggjaaI
import Derived.Shelf.SlSortCmp.NoneTotal
set_option linter.unusedVariables false
set_option linter.unusedSimpArgs false
namespace Go.Proofs.Ytgiebjihceggjaa
open Go.RowKit Go.Proofs.YtgiebjihceggjaaW.PrintWords Go.Proofs.YtgiebjihceggjaaW.PrintLast Go.Proofs.YtgiebjihceggjaaW.PrintMore PFnGenTree

/-- the cells of edges -/
def flE (es : List S30) : List Value := es.flatMap enc30
theorem flE_length : ∀ es : List S30, (flE es).length = es.length * 3
  | [] => rfl
  | e :: es => by
    have ih := flE_length es
    unfold flE at ih ⊢
    rw [List.flatMap_cons, List.length_append, ih]
    simp [enc30]; omega
theorem flE_get : ∀ (es : List S30) (i : Nat) (hi : i < es.length) (j : Nat), j < 3 → (flE es)[i * 3 + j]? = (enc30 es[i])[j]?
  | [], i, hi, _, _ => by simp at hi
  | e :: es, 0, hi, j, hj => by
    unfold flE
    rw [List.flatMap_cons, Nat.zero_mul, Nat.zero_add, List.getElem?_append_left (by simpa [enc30] using hj)]
    rfl
  | e :: es, i + 1, hi, j, hj => by
    have ih := flE_get es i (by simpa using hi) j hj
    unfold flE at ih ⊢
    rw [List.flatMap_cons, List.getElem?_append_right (by simp [enc30]; omega)]
    rw [show (i + 1) * 3 + j - (enc30 e).length = i * 3 + j by simp [enc30]; omega, ih]
    rfl
theorem flE_one {es : List S30} : ∀ u ∈ flE es, u.oneCell' = true := by
  intro u hu
  unfold flE at hu
  obtain ⟨e, _, he⟩ := List.mem_flatMap.1 hu
  simp [enc30] at he
  rcases he with rfl | rfl | rfl <;> rfl

open Go.Sort Go.Proofs in
theorem flatK_flE (es : List S30) : (flatK enc30 3 es.toArray).toList = flE es := by
  apply List.ext_getElem?
  intro t
  have hs : (flatK enc30 3 es.toArray).size = es.length * 3 := by simp
  by_cases ht : t < es.length * 3
  · have h1 : t / 3 < es.length := by omega
    have h2 := flE_get es (t / 3) h1 (t % 3) (Nat.mod_lt _ (by omega))
    rw [show t / 3 * 3 + t % 3 = t by omega] at h2
    rw [h2, Array.getElem?_toList, Array.getElem?_eq_getElem (by rw [hs]; exact ht)]
    have h3 := get_flatK enc30 3 es.toArray t (by simpa using ht)
    rw [getElem!_pos _ t (by rw [hs]; exact ht)] at h3
    rw [h3, getElem!_pos es.toArray (t / 3) (by simpa using h1)]
    have h4 : t % 3 < (enc30 es[t / 3]).length := by simp [enc30]; omega
    rw [List.getElem?_eq_getElem h4]
    congr 1
    simp only [List.getElem_toArray]
    rw [getElem!_pos (enc30 es[t / 3]) (t % 3) h4]
  · rw [List.getElem?_eq_none (by rw [Array.length_toList, hs]; omega), List.getElem?_eq_none (by rw [flE_length]; omega)]

open Go.Sort in
theorem putCells_id (cur F : Array Value) (h : F.size ≤ cur.size) : (putCells id 0 F cur).toList.take F.size = F.toList := by
  apply List.ext_getElem?
  intro j
  rw [List.getElem?_take]
  by_cases hj : j < F.size
  · rw [if_pos hj, Array.getElem?_toList]
    unfold putCells
    rw [Array.getElem?_mapIdx, Array.getElem?_eq_getElem (by omega), Array.getElem?_toList, Array.getElem?_eq_getElem hj]
    simp only [Option.map_some, Nat.zero_le, true_and, Nat.zero_add, Nat.sub_zero]
    rw [if_pos hj, getElem!_pos F j hj]
    rfl
  · rw [if_neg hj, List.getElem?_eq_none (by simp; omega)]

/-- edges ascending -/
def srtE (es : List S30) : List S30 := es.mergeSort fun x y => !decide (lt3 y x)
theorem srtE_perm (es : List S30) : (srtE es).Perm es := List.mergeSort_perm _ _
theorem srtE_length (es : List S30) : (srtE es).length = es.length := List.length_mergeSort _

open Go.Sort Go.Proofs in
theorem sortF_own (base : Nat) (v : Value) (es : List S30) (w : World) (h : w.ownsRow base 30 3 v es.length (flE es)) (hb : es.length ≤ 100000) :
    Calls Try.prog 24 #[v, .func (.func 25) #[] #[]] w fun e w' => e = .returned (.tuple #[]) ∧ w'.ownsRow base 30 3 v es.length (flE (srtE es)) ∧ w.grownBy w' v.ownBlock := by
  by_cases h0 : es.length = 0
  · have hx : es = [] := List.eq_nil_of_length_eq_zero h0
    subst hx
    obtain ⟨A, c, rfl⟩ := own_slice h
    have hc := AnyF.slices_SortFunc_none Try.laysSortF A c (.func (.func 25) #[] #[]) w
    change Calls Try.prog 24 _ _ _ at hc
    refine hc.mono ?_
    rintro e w' ⟨rfl, hw⟩
    subst hw
    exact ⟨rfl, (by simpa [srtE] using h), ⟨rfl, rfl, rfl, Nat.le_refl _, fun _ _ _ => rfl⟩⟩
  · rcases h.2 with ⟨_, hn⟩ | ⟨g, cap, cur, rfl, hb1, hg, hc1, hc2, hcs, htk⟩
    · exact absurd hn h0
    · have hfs : (flatK enc30 3 es.toArray).size = es.length * 3 := by simp
      have hH : HoldsK enc30 3 w g 0 es.toArray := by
        intro j hj
        rw [hfs] at hj
        refine ⟨?_, blk_frozen hg _⟩
        rw [Nat.zero_add, blk_cell hg]
        have h1 : (cur.toList.take (es.length * 3))[j]? = (flatK enc30 3 es.toArray).toList[j]? := by rw [htk, flatK_flE]
        rw [List.getElem?_take, if_pos hj, Array.getElem?_toList, Array.getElem?_toList] at h1
        rw [h1, Array.getElem?_eq_getElem (by rw [hfs]; exact hj), getElem!_pos _ j (by rw [hfs]; exact hj)]
        rfl
      have eg : ∀ args w, (callFunc 25 args).run Try.prog w = .ok (.enter 25 args) w := enters_of Try.func25 (by kernel_rfl) rfl
      have hT : ∀ x y, (ltOf cf3) x y = false → (ltOf cf3) y x = false → x = y := by
        intro x y h1 h2
        rw [ltOf_cf3, decide_eq_false_iff_not] at h1 h2
        obtain ⟨a, b, c⟩ := x
        obtain ⟨d, e, f⟩ := y
        unfold lt3 at h1 h2
        simp only at h1 h2
        have : a = d := by omega
        have : b = e := by omega
        have : c = f := by omega
        subst_vars; rfl
      have hc := AnyQ.slices_SortFunc_total Try.laysSortF 3 (fun w => by kernel_rfl) (fun w => by kernel_rfl) enc30 (fun _ => rfl) (fun x v hv => by simp [enc30] at hv; rcases hv with rfl | rfl | rfl <;> rfl) cf3 swo_cf3 25 #[] g 0 cap es.toArray w eg (edge_cmpLays g 0 _ w) hH (blk_lt hg) (by simp; omega) hT
      change Calls Try.prog 24 _ _ _ at hc
      refine Calls.mono (by simpa using hc) ?_
      rintro e w' ⟨rfl, n, os, rfl⟩
      have hse : (es.mergeSort fun x y => !(ltOf cf3) y x) = srtE es := by
        unfold srtE
        congr 1
        funext x y
        rw [ltOf_cf3]
      rw [hse]
      have hgl : g < w.heap.size := blk_lt hg
      have hsz : (putRow id (Go.Sort.ahead w n) g 0 (flatK enc30 3 (srtE es).toArray)).heap.size = w.heap.size := by simp [putRow, mapBlock, Go.Sort.ahead]
      have hh : (sortWorldK enc30 3 w g 0 n (srtE es).toArray os).heap[g]? = some (.cells (putCells id 0 (flatK enc30 3 (srtE es).toArray) cur) 30 (0, 0)) := by
        unfold sortWorldK putRowK
        rw [heap_grow_old _ _ (by rw [hsz]; exact hgl)]
        unfold putRow mapBlock
        have : (Go.Sort.ahead w n).heap = w.heap := rfl
        simp only [this, Array.getElem?_modify, if_true]
        rw [hg]
        rfl
      have hsl : (putCells id 0 (flatK enc30 3 (srtE es).toArray) cur).size = cur.size := by simp [putCells]
      have hf2 : (flatK enc30 3 (srtE es).toArray).size = es.length * 3 := by simp [srtE_length]
      have h3 : es.length * 3 ≤ cap * 3 := Nat.mul_le_mul_right 3 hc1
      refine ⟨rfl, ⟨by rw [flE_length, srtE_length], .inr ⟨g, cap, _, rfl, hb1, hh, hc1, hc2, by rw [hsl]; exact hcs, ?_⟩⟩, ⟨rfl, rfl, rfl, ?_, fun k hk hne => ?_⟩⟩
      · rw [← hf2, putCells_id _ _ (by rw [hf2, hcs]; exact h3), flatK_flE]
      · simp [sortWorldK, putRowK, grow, putRow, mapBlock, Go.Sort.ahead]
      · have hkg : k ≠ g := fun e => hne (by simp [Value.ownBlock, e])
        unfold sortWorldK putRowK
        rw [heap_grow_old _ _ (by rw [hsz]; exact hk)]
        unfold putRow mapBlock
        have : (Go.Sort.ahead w n).heap = w.heap := rfl
        simp only [this, Array.getElem?_modify]
        rw [if_neg (Ne.symm hkg)]
end Go.Proofs.Ytgiebjihceggjaa
