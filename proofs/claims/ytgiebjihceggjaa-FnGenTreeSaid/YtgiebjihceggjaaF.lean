import Derived.Test.YtgiebjihceggjaaE
set_option linter.unusedVariables false
set_option linter.unusedSimpArgs false
namespace Go.Proofs.Ytgiebjihceggjaa
open Go.RowKit Go.Proofs.YtgiebjihceggjaaW.PrintWords Go.Proofs.YtgiebjihceggjaaW.PrintLast Go.Proofs.YtgiebjihceggjaaW.PrintMore

/-- the edges of the tree, breadth first -/
def treeE (n : Nat) (xs : List Int) : List (Int × Int) := (List.range (xs.length - 1)).map fun k => (xs.getD (k / n) 0, xs.getD (k + 1) 0)
theorem treeE_length (n : Nat) (xs : List Int) : (treeE n xs).length = xs.length - 1 := by simp [treeE]
theorem treeE_snoc (n : Nat) (xs : List Int) (j i : Nat) (hj : 1 ≤ j) (hl : j < xs.length) (hi : (j - 1) / n = i) : (treeE n xs).take j = (treeE n xs).take (j - 1) ++ [(xs.getD i 0, xs.getD j 0)] := by
  obtain ⟨m, rfl⟩ : ∃ m, j = m + 1 := ⟨j - 1, by omega⟩
  rw [List.take_succ_eq_append_getElem (by rw [treeE_length]; omega)]
  simp only [Nat.add_sub_cancel] at hi ⊢
  simp [treeE, hi]

set_option maxHeartbeats 1000000 in
theorem tree0 (bp : Addr) (n : Int) (A : Option Addr) (c : Nat) (w : World) :
    Calls Try.prog 9 #[.iface 35 (.pointer (some bp)), .int .i64 n, .iface 42 (.slice A 0 c)] w fun e w' => e = .returned (.tuple #[]) ∧ w = w' := by
  have m1 := meth_Len A 0 c
  go_enter Try.func9, Try.ntmps9
  go_wp2_with (go_at_call 88; refine (len_any _ _ _ _).mono ?_; rintro e w1 ⟨rfl, rfl⟩)
  refine bodyPost_ret (results_none rfl _ _ _) rfl ?_
  exact ⟨rfl, rfl⟩

set_option maxHeartbeats 400000 in
theorem id_zero (A : Addr) (n c : Nat) (x : Int) (w : World) (h : w.cell? A = some (.int .i64 x)) (hk : 0 < n) (hb : n ≤ 100000) :
    Calls Try.prog 87 #[.slice (some A) n c, .int .i64 0] w fun e w' => e = .returned (.int .i64 x) ∧ w = w' := by
  go_enter Try.func87, Try.ntmps87
  go_wp2
  go_ret
  exact ⟨rfl, rfl⟩

theorem nil_Node (a : Addr) (w : World) : (nilAhead 246 35 (.pointer (some a)) "NodeWithID").run Try.prog w = .ok (some false) w := by kernel_rfl
theorem nil_SetEdge (a : Addr) (w : World) : (nilAhead 246 35 (.pointer (some a)) "SetEdge").run Try.prog w = .ok (some false) w := by kernel_rfl

set_option maxHeartbeats 4000000 in
set_option maxRecDepth 100000 in
theorem tree1 (base bp : Nat) (d : Bool) (n : Int) (A : Addr) (c : Nat) (x : Int) (w : World) (h : Bld w base bp d (.slice none 0 0) [] (.slice none 0 0) []) (hc : w.cell? A = some (.int .i64 x)) :
    Calls Try.prog 9 #[.iface 35 (.pointer (some ⟨bp, 0, none⟩)), .int .i64 n, .iface 42 (.slice (some A) 1 c)] w fun e w' => e = .returned (.tuple #[]) ∧ ∃ vn, Bld w' base bp d vn [x] (.slice none 0 0) [] ∧ Below base w w' := by
  have m1 := meth_Len (some A) 1 c
  have m2 := meth_IDs (some A) 1 c
  have m3 := meth_NodeWithID ⟨bp, 0, none⟩
  have m4 := meth_AddNode ⟨bp, 0, none⟩
  have m5 := nil_Node ⟨bp, 0, none⟩
  have hp : w.cell? ⟨bp, 1, none⟩ = some (.slice none 0 0) := by rw [blk_cell h.blk]; rfl
  have hz := blk_lt h.blk
  have hc1 : w.drew.cell? A = some (.int .i64 x) := hc
  have hp1 : w.drew.cell? ⟨bp, 1, none⟩ = some (.slice none 0 0) := hp
  have hA := World.block_lt_of_cell? w _ hc
  have hb0 := h.hb
  have HB := Aside0.mk h
  clear h
  go_enter Try.func9, Try.ntmps9
  go_wp2_with (first
    | (go_at_call 88; refine (len_any _ _ _ _).mono ?_; rintro e w1 ⟨rfl, rfl⟩))
  go_region_held3 (fun w' => w'.cell? ⟨bp, 1, none⟩ = some (.slice none 0 0))
    (first | go_keep | (rw [hbel.cell (p := ⟨bp, 1, none⟩) hz]; assumption))
    (first
      | (go_at_call 87; refine (id_zero A 1 c x _ hc1 (by omega) (by omega)).mono ?_; rintro e w1 ⟨rfl, rfl⟩)
      | (go_at_call 82; refine (nodeWithID_any bp 0 x _ hp1).mono ?_; rintro e w2 ⟨rfl, hbel⟩))
  all_goals
    have HB2 := Aside0.mk (HB.out.below (w' := w2) ⟨hbel.os, hbel.tape, hbel.output, hbel.size, hbel.block⟩)
    have HL := Aside0.mk hbel
    clear hbel
    go_wp2_with (go_at_call 80; refine (addNode_any base bp d _ [] _ [] x _ HB2.out (by simp)).mono ?_; rintro e w3 ⟨rfl, vn', hb3, hk3, hbb⟩; have H3 := Aside0.mk (And.intro hb3 hbb); clear hb3 hk3 hbb)
    refine bodyPost_ret (results_none rfl _ _ _) rfl ?_
    refine ⟨rfl, vn', H3.out.1, ?_⟩
    have h2 : Below w.heap.size w w2 := ⟨HL.out.os, HL.out.tape, HL.out.output, HL.out.size, HL.out.block⟩
    exact (h2.mono (Nat.le_trans hb0 (Nat.le_of_lt hz))).trans H3.out.2
end Go.Proofs.Ytgiebjihceggjaa
