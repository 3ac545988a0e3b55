import Derived.Test.YtgiebjihceggjaaE
import Derived.Deep.CutRange
set_option linter.unusedVariables false
set_option linter.unusedSimpArgs false
namespace Go.Proofs.Ytgiebjihceggjaa
open Go.RowKit Go.Proofs.YtgiebjihceggjaaW.PrintWords Go.Proofs.YtgiebjihceggjaaW.PrintLast Go.Proofs.YtgiebjihceggjaaW.PrintMore PFnGenTree

set_option maxHeartbeats 400000 in
theorem number_any (x : Int) (w : World) :
    Calls Try.prog 22 #[nodeV x] w fun e w' => e = .returned (.int .i64 x) ∧ w = w' := by
  have m1 := meth_ID x
  unfold nodeV
  go_enter Try.func22, Try.ntmps22
  go_wp2_with (go_at_call 94; refine (nodeID_any _ _).mono ?_; rintro e w1 ⟨rfl, rfl⟩)
  go_ret
  exact ⟨rfl, rfl⟩

set_option maxHeartbeats 2000000 in
set_option maxRecDepth 100000 in
theorem numbers_any (base : Nat) (v : Value) (ns : List Int) (w : World) (h : w.ownsRow base 61 1 v ns.length (ns.map nodeV)) (hb : ns.length ≤ 100000) :
    Calls Try.prog 21 #[v] w fun e w' => ∃ A c, e = .returned (.slice A ns.length c) ∧ w'.ownsRow w.heap.size 3 1 (.slice A ns.length c) ns.length (nums .i64 ns) ∧ Below w.heap.size w w' := by
  have HO := Aside0.mk h
  obtain ⟨V, C, rfl⟩ := own_slice h
  obtain ⟨i0, hi, hz0, hz1, hz2⟩ := info_parts Try.info3
  have HI := Aside0.mk (And.intro hi (And.intro hz0 (And.intro hz1 hz2)))
  clear h hi hz0 hz1 hz2
  go_enter Try.func21, Try.ntmps21
  go_wp2
  go_loopw [3, 8] (fun v i wr => ∃ k : Nat, k ≤ ns.length ∧ i = .int .i64 k ∧ Aside0 (wr.ownsRow w.heap.size 3 1 v k (nums .i64 (ns.take k)) ∧ Below w.heap.size w wr)) (fun _ i _ => ns.length - (intOf i).toNat)
  case atStart => exact ⟨0, Nat.zero_le _, rfl, ⟨World.ownsRow_nil _ _ _ _, Below.refl _ _⟩⟩
  case round =>
    obtain ⟨k, hk, rfl, HR⟩ := hrel
    by_cases hlt : k < ns.length
    · have hbw := HR.out.2.size
      obtain ⟨g, cap, hv, hgb, hgl⟩ := HO.out.form (by omega)
      injection hv with e1 e2 e3
      subst e1 e3
      have hc : wr.cell? ⟨g, k, none⟩ = some (nodeV (ns.getD k 0)) := by
        have h1 := HO.out.cells (g := g) rfl k (nodeV (ns.getD k 0)) (by simp [List.getD_eq_getElem?_getD, hlt])
        rw [add_plain] at h1
        rw [HR.out.2.cell (p := ⟨g, k, none⟩) hgl]; exact h1
      have hts : nums .i64 (ns.take (k + 1)) = nums .i64 (ns.take k) ++ [.int .i64 (ns.getD k 0)] := by
        have hge : ns.getD k 0 = ns[k] := by simp [List.getD_eq_getElem?_getD, hlt]
        rw [hge, List.take_succ_eq_append_getElem hlt, nums_append]; rfl
      have HTS := Aside0.mk hts
      clear hts
      generalize ns.getD k 0 = x at hc HTS
      go_wp2_with (first
        | (go_at_call 22; refine (number_any x _).mono ?_; rintro e w1 ⟨rfl, rfl⟩)
        | (at_builtin; refine wpList_append_own _ rfl _ _ 22 rfl w.heap.size 3 i0 (.int .i64 0) 1 8 Try.underlying22 HI.out.1 HI.out.2.1 HI.out.2.2.1 HI.out.2.2.2 rfl (by decide) _ k (nums .i64 (ns.take k)) rfl (World.ownsRow.alloc HR.out.1 _) ⟨wr.heap.size, 0, none⟩ 1 1 [.int .i64 x] rfl rfl (cell_one_new _ _ _) ?q2 ?q3 ?q4 ?q5 ?_))
      case q2 => intro u hu; simp at hu; subst hu; rfl
      case q3 => unfold maxLen; omega
      case q4 => omega
      case q5 => simp; omega
      intro v' w1 hown hgr _
      have HO2 := Aside0.mk hown
      have HGR := Aside0.mk hgr
      clear hown hgr
      go_wp2
      go_roundw
      case rel => exact ⟨k + 1, by omega, by go_num, ⟨by rw [HTS.out]; exact HO2.out, (HR.out.2.alloc hbw _).grown HGR.out (by simp; omega) (fun q hq => own_base HR.out.1 q hq)⟩⟩
      case measure => simp [intOf]; omega
    · have hk' : k = ns.length := by omega
      have hts : ns.take k = ns := by rw [hk', List.take_length]
      have h1 := HR.out
      rw [hts, hk'] at h1
      obtain ⟨V2, C2, hV2⟩ := own_slice h1.1
      subst hV2
      have H1 := Aside0.mk h1
      clear h1 hts HR
      go_wp2
      go_ret
      exact ⟨_, _, rfl, H1.out.1, H1.out.2⟩
end Go.Proofs.Ytgiebjihceggjaa
