import Derived.Test.YtgiebjihceggjaaJ
import Derived.Test.YtgiebjihceggjaaT1
import Derived.BigQuiet
import Derived.Deep.QuietTactic
set_option linter.unusedVariables false
set_option linter.unusedSimpArgs false
namespace Go.Proofs.Ytgiebjihceggjaa
open Go.RowKit Go.Proofs.YtgiebjihceggjaaW.PrintWords Go.Proofs.YtgiebjihceggjaaW.PrintLast Go.Proofs.YtgiebjihceggjaaW.PrintMore PFnGenTree
attribute [local go_sem high] eqA30

theorem flE_cells {w : World} {base n c : Nat} {g : Nat} {es : List S30} (h : w.ownsRow base 30 3 (.slice (some ⟨g, 0, none⟩) n c) n (flE es)) (i : Nat) (hi : i < es.length) :
    w.cell? ⟨g, i * 3, none⟩ = some (.int .i64 es[i].f0) ∧ w.cell? ⟨g, i * 3 + 1, none⟩ = some (.int .i64 es[i].f1) ∧ w.cell? ⟨g, i * 3 + 2, none⟩ = some (.int .i64 es[i].f2) := by
  have hc := h.cells (g := g) rfl
  have h0 := hc (i * 3 + 0) _ (by rw [flE_get es i hi 0 (by omega)]; rfl)
  have h1 := hc (i * 3 + 1) _ (by rw [flE_get es i hi 1 (by omega)]; rfl)
  have h2 := hc (i * 3 + 2) _ (by rw [flE_get es i hi 2 (by omega)]; rfl)
  rw [add_plain] at h0 h1 h2
  exact ⟨h0, h1, h2⟩

set_option maxHeartbeats 400000 in
theorem compactE_none (n c : Nat) (h : n < 2) (A : Option Addr) (w : World) : Calls Try.prog 26 #[.slice A n c] w fun e w' => e = .returned (.slice A n c) ∧ w = w' := by
  go_enter Try.func26, Try.ntmps26
  go_wp2
  go_ret
  exact ⟨rfl, rfl⟩

set_option maxHeartbeats 4000000 in
set_option maxRecDepth 100000 in
/-- slices.Compact at edges, where no edge is like the one ahead of it: nothing changes -/
theorem compactE_own (base : Nat) (v : Value) (es : List S30) (w : World) (h : w.ownsRow base 30 3 v es.length (flE es)) (hb : es.length ≤ 100000) (hd : es.Pairwise (· ≠ ·)) :
    Calls Try.prog 26 #[v] w fun e w' => e = .returned v ∧ Drawn0 w w' := by
  by_cases h2 : es.length < 2
  · obtain ⟨A, c, rfl⟩ := own_slice h
    refine (compactE_none _ c h2 A w).mono ?_
    rintro e w' ⟨rfl, rfl⟩
    exact ⟨rfl, Drawn0.refl _⟩
  · obtain ⟨g, c, rfl, hgb, hgl⟩ := h.form (by omega)
    have HO := Aside0.mk h
    have HD := Aside0.mk hd
    clear h hd
    go_enter Try.func26, Try.ntmps26
    go_wp2
    go_loopw [3] (fun i wr => ∃ k : Nat, 1 ≤ k ∧ k ≤ es.length ∧ i = .int .i64 k ∧ Aside0 (Drawn0 w wr)) (fun i _ => es.length - (intOf i).toNat)
    case atStart => exact ⟨1, Nat.le_refl _, by omega, rfl, ⟨Drawn0.refl _⟩⟩
    case round =>
      obtain ⟨k, hk1, hk2, rfl, HR⟩ := hrel
      obtain ⟨j, rfl⟩ : ∃ j, k = j + 1 := ⟨k - 1, by omega⟩
      by_cases hlt : j + 1 < es.length
      · have hne : es[j + 1] ≠ es[j] := fun e => (List.pairwise_iff_getElem.1 HD.out) j (j + 1) (by omega) hlt (by omega) e.symm
        have ho : wr.ownsRow base 30 3 (.slice (some ⟨g, 0, none⟩) es.length c) es.length (flE es) := pw_own_below HO.out HR.out.below
        obtain ⟨a0, a1, a2⟩ := flE_cells ho (j + 1) hlt
        obtain ⟨b0, b1, b2⟩ := flE_cells ho j (by omega)
        have hgl2 : g < wr.heap.size := Nat.lt_of_lt_of_le hgl HR.out.below.size
        generalize es[j + 1] = x at a0 a1 a2 hne
        generalize es[j] = y at b0 b1 b2 hne
        have hneq : (x.f0 == y.f0 && (x.f1 == y.f1 && (x.f2 == y.f2))) = false := by
          rw [Bool.eq_false_iff]
          intro hh
          simp only [Bool.and_eq_true, beq_iff_eq] at hh
          obtain ⟨h1, h2, h3⟩ := hh
          apply hne
          obtain ⟨x0, x1, x2⟩ := x
          obtain ⟨y0, y1, y2⟩ := y
          simp only at h1 h2 h3
          subst h1 h2 h3
          rfl
        clear hne ho
        have hx1 : IntKind.i64.wrap ((j : Int) + 1 - 1) = (j : Int) := by rw [IntKind.wrap_i64]; omega
        have hx6 : ((j : Int) + 1).toNat = j + 1 := by omega
        go_wp2_with fail
        go_quiet (fail)
        go_wp2
        go_roundw
        case rel => exact ⟨j + 1 + 1, by omega, by omega, by go_num, ⟨HR.out.step nq⟩⟩
        case measure => simp [intOf]; omega
      · go_wp2
        go_ret
        exact ⟨rfl, HR.out⟩
end Go.Proofs.Ytgiebjihceggjaa
