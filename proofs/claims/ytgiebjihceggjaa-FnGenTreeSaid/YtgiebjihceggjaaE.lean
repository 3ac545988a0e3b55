import Derived.Test.YtgiebjihceggjaaD
import Derived.Maps.OwnSet
set_option linter.unusedVariables false
set_option linter.unusedSimpArgs false
namespace Go.Proofs.Ytgiebjihceggjaa
open Go.RowKit Go.Maps Go.Proofs.YtgiebjihceggjaaW.PrintWords Go.Proofs.YtgiebjihceggjaaW.PrintLast Go.Proofs.YtgiebjihceggjaaW.PrintMore

theorem law2 : Keyed Try.prog 2 := int_keyed Try.underlying2
theorem zero3 (w : World) : (zeroValue 3).run Try.prog w = .ok (.int .i64 0) w := by kernel_rfl

theorem meth_Len (A : Option Addr) (n c : Nat) (w : World) : (method 246 42 (.slice A n c) "Len").run Try.prog w = .ok (88, .slice A n c) w := by kernel_rfl
theorem meth_IDs (A : Option Addr) (n c : Nat) (w : World) : (method 246 42 (.slice A n c) "ID").run Try.prog w = .ok (87, .slice A n c) w := by kernel_rfl
theorem meth_ID (x : Int) (w : World) : (method 246 140 (.int .i64 x) "ID").run Try.prog w = .ok (94, .int .i64 x) w := by kernel_rfl
theorem meth_NodeWithID (a : Addr) (w : World) : (method 246 35 (.pointer (some a)) "NodeWithID").run Try.prog w = .ok (82, .pointer (some a)) w := by kernel_rfl
theorem meth_NewEdge (a : Addr) (w : World) : (method 246 35 (.pointer (some a)) "NewEdge").run Try.prog w = .ok (81, .pointer (some a)) w := by kernel_rfl
theorem meth_SetEdge (a : Addr) (w : World) : (method 246 35 (.pointer (some a)) "SetEdge").run Try.prog w = .ok (83, .pointer (some a)) w := by kernel_rfl
theorem meth_AddNode (a : Addr) (w : World) : (method 246 35 (.pointer (some a)) "AddNode").run Try.prog w = .ok (80, .pointer (some a)) w := by kernel_rfl
theorem meth_From (u v : Value) (w : World) : (method 246 139 (.agg #[u, v]) "From").run Try.prog w = .ok (91, .agg #[u, v]) w := by kernel_rfl
theorem meth_To (u v : Value) (w : World) : (method 246 139 (.agg #[u, v]) "To").run Try.prog w = .ok (93, .agg #[u, v]) w := by kernel_rfl
theorem mapHint (n : Int) (w : World) : (Instr.makeMap 84 (some (.int .i64 n))).run Try.prog w = .ok (.map (some w.heap.size)) (w.alloc (.map #[] 0)) := by kernel_rfl

/-- the map of check behind k numbers: each number with its place -/
def seenD (xs : List Int) : Nat → DataW Unit
  | 0 => .map []
  | k + 1 => (seenD xs k).put (.int .i64 (xs.getD k 0)) (.lit (.int .i64 (k : Int)))

theorem seenD_has (xs : List Int) (x : Int) : ∀ k, k ≤ xs.length → x ∉ xs.take k → Maps.has (seenD xs k) (.int .i64 x) = false
  | 0, _, _ => rfl
  | k + 1, hk, hx => by
    have e : xs.getD k 0 = xs[k] := by simp [List.getD_eq_getElem?_getD, List.getElem?_eq_getElem (show k < xs.length by omega)]
    rw [List.take_succ_eq_append_getElem (by omega)] at hx
    simp only [List.mem_append, List.mem_singleton, not_or] at hx
    unfold seenD
    rw [has_put_other (by rw [e]; intro h; injection h with _ h; exact hx.2 h)]
    exact seenD_has xs x k (by omega) hx.1

theorem nodup_fresh {xs : List Int} (h : xs.Nodup) (k : Nat) (hk : k < xs.length) : xs.getD k 0 ∉ xs.take k := by
  have e : xs.getD k 0 = xs[k] := by simp [List.getD_eq_getElem?_getD, List.getElem?_eq_getElem hk]
  rw [e, List.mem_take_iff_getElem]
  rintro ⟨i, hi, he⟩
  exact (List.pairwise_iff_getElem.1 h) i k (by omega) hk (by omega) he

set_option maxHeartbeats 1000000 in
set_option maxRecDepth 100000 in
theorem check_ok (A : Option Addr) (c : Nat) (xs : List Int) (w : World) (h : Kd.C (Kd.int .i64) w A xs.length xs) (hn : xs.Nodup) (hb : xs.length ≤ 1000) (hw : ∀ x ∈ xs, (Lit.int .i64 x).wf = true) :
    Calls Try.prog 20 #[.iface 42 (.slice A xs.length c), .slice none 0 0] w fun e w' => e = .returned .nilIface ∧ Below w.heap.size w w' := by
  have hmm := mapHint
  have m1 := meth_Len A xs.length c
  have m2 := meth_IDs A xs.length c
  have HC := Aside0.mk h
  have HN := Aside0.mk hn
  have HW := Aside0.mk hw
  clear h hn hw
  go_enter Try.func20, Try.ntmps20
  go_wp2_with (go_at_call 88; refine (len_any _ _ _ _).mono ?_; rintro e w1 ⟨rfl, rfl⟩)
  go_loopw [6] (fun i wr => ∃ k : Nat, k ≤ xs.length ∧ i = .int .i64 k ∧ Aside0 (wr.ownsMap Try.prog 2 (plainElem Try.prog 3) w.heap.size k (seenD xs k) ∧ Below w.heap.size w wr)) (fun i _ => xs.length - (intOf i).toNat)
  case atStart => exact ⟨0, Nat.zero_le _, rfl, ⟨World.ownsMap_made _ _ _ _, (Below.refl _ _).alloc (Nat.le_refl _) _⟩⟩
  case round =>
    obtain ⟨k, hk, rfl, HR⟩ := hrel
    by_cases hlt : k < xs.length
    · obtain ⟨ad, rfl, hc⟩ := C_int_at (Kd.C_below HC.out HR.out.2) k hlt
      have hkey : keyOf Try.prog 2 (.int .i64 (xs.getD k 0)) = some (.int .i64 (xs.getD k 0)) := keyOf_int_mk Try.underlying2 (HW.out _ (by rw [List.getD_eq_getElem?_getD, List.getElem?_eq_getElem hlt]; exact List.getElem_mem _))
      have hhas := seenD_has xs _ k (by omega) (nodup_fresh HN.out k hlt)
      have hsd : seenD xs (k + 1) = (seenD xs k).put (.int .i64 (xs.getD k 0)) (.lit (.int .i64 (k : Int))) := rfl
      have HSD := Aside0.mk hsd
      have hwk : (Lit.int .i64 (k : Int)).wf = true := by simp [Lit.wf, IntKind.min, IntKind.max, IntKind.bits, IntKind.signed]; omega
      clear hsd
      generalize xs.getD k 0 = x at hc hkey hhas HSD
      go_wp2_with (first
        | (go_at_call 88; refine (len_any _ _ _ _).mono ?_; rintro e w1 ⟨rfl, rfl⟩)
        | (go_at_call 87; refine (id_any ad xs.length c k x _ hc hlt (by omega)).mono ?_; rintro e w1 ⟨rfl, rfl⟩)
        | (at_lookup; refine wpList_lookup_own_ok_int _ rfl _ _ 84 rfl 2 3 .i64 law2 Try.underlying84 Try.underlying3 (zero3 _) w.heap.size k _ rfl HR.out.1 _ _ rfl hkey ?_; intro cc hcc hcw; rw [hhas])
        | (at_mapUpdate; refine wpList_mapUpdate_own _ rfl _ _ _ 84 rfl 2 3 law2 Try.underlying84 (plainElem Try.prog 3) w.heap.size k _ rfl HR.out.1 (by unfold maxLen; omega) _ _ _ rfl rfl hkey (.lit (.int .i64 (k : Int))) [] (plainElem_int Try.underlying3 hwk) ?_; intro w2 hown2 hgr2))
      go_roundw
      case rel => exact ⟨k + 1, by omega, by go_num, ⟨by rw [HSD.out]; exact hown2, HR.out.2.grown hgr2 HR.out.2.size (fun q hq => by cases hq; exact Nat.le_refl _)⟩⟩
      case measure => simp [intOf]; omega
    · have hk' : k = xs.length := by omega
      go_wp2_with (first
        | (go_at_call 88; refine (len_any _ _ _ _).mono ?_; rintro e w1 ⟨rfl, rfl⟩))
      refine wp_loop_rounds 1 ?_
      rw [rounds_succ]
      go_wp2
      go_ret
      exact ⟨rfl, HR.out.2⟩
end Go.Proofs.Ytgiebjihceggjaa
