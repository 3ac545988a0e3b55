import Derived.Test.YtlokbaljkmblaaaO1
namespace Go.Proofs.Ytlokbaljkmblaaa
open Go.RowKit Go.Lab Go.Proofs.YtlokbaljkmblaaaW.PrintWords Go.Proofs.YtlokbaljkmblaaaW.PrintLast Go.Proofs.YtlokbaljkmblaaaW.PrintMore PFnIsPathJoined

set_option maxHeartbeats 400000 in
theorem nodeID_any (n : Int) (w : World) :
    Calls Try.prog 86 #[.int .i64 n] w fun e w' => e = .returned (.int .i64 n) ∧ w = w' := by
  go_enter Try.func86, Try.ntmps86
  go_wp2
  go_ret
  exact ⟨rfl, rfl⟩

/-- steps of a walk from place i on: whether each node leads to the next one -/
def Pl.from_ (p : Pl) : List Int → Bool
  | [] => true
  | [_] => true
  | x :: y :: r => p.has x y && p.from_ (y :: r)
/-- whether a list is a path -/
def Pl.path (p : Pl) (xs : List Int) : Bool := match xs with
  | [x] => decide (x ∈ p.ids)
  | _ => p.from_ xs

theorem from_cons (p : Pl) (x y : Int) (r : List Int) : p.from_ (x :: y :: r) = (p.has x y && p.from_ (y :: r)) := rfl
theorem from_drop (p : Pl) (xs : List Int) (i : Nat) (h : i + 1 < xs.length) : p.from_ (xs.drop i) = (p.has xs[i] xs[i+1] && p.from_ (xs.drop (i + 1))) := by
  rw [List.drop_eq_getElem_cons (show i < xs.length by omega), List.drop_eq_getElem_cons (show i + 1 < xs.length from h), from_cons]
theorem from_last (p : Pl) (xs : List Int) (i : Nat) (h : ¬ i + 1 < xs.length) : p.from_ (xs.drop i) = true := by
  rcases Nat.lt_or_ge i xs.length with h1 | h1
  · rw [List.drop_eq_getElem_cons h1, List.drop_eq_nil_of_le (by omega)]; rfl
  · rw [List.drop_eq_nil_of_le (by omega)]; rfl

set_option maxHeartbeats 1000000 in
theorem topo0 (g : Value) (A : Option Addr) (c : Nat) (w : World) :
    Calls Try.prog 10 #[g, .slice A 0 c] w fun e w' => e = .returned (.bool true) ∧ w = w' := by
  go_enter Try.func10, Try.ntmps10
  go_wp2
  go_ret
  exact ⟨rfl, rfl⟩

set_option maxHeartbeats 4000000 in
set_option maxRecDepth 100000 in
theorem topo1D (base bp : Nat) (p : Pl) (x : Int) (g c : Nat) (w : World) (hx : w.cell? ⟨g, 0, none⟩ = some (nodeV x)) (h : PlOk w base bp p) (hs : p.ids.Pairwise (· < ·)) (hn : p.ids.length ≤ 1000) :
    Calls Try.prog 10 #[.iface 47 (.agg #[.pointer (some ⟨bp, 0, none⟩)]), .slice (some ⟨g, 0, none⟩) 1 c] w fun e w' => e = .returned (.bool (decide (x ∈ p.ids))) ∧ Below w.heap.size w w' := by
  have HP := Aside0.mk (show PlOk w.drew base bp p from h.below ⟨rfl, rfl, rfl, Nat.le_refl _, fun _ _ => rfl⟩)
  have HS := Aside0.mk hs
  have m1 := meth_ID
  have m2 := meth_NodeD ⟨bp, 0, none⟩
  have m3 := nil_NodeD ⟨bp, 0, none⟩
  have hgl := World.block_lt_of_cell? w _ hx
  unfold nodeV at hx
  obtain ⟨b, hb⟩ : ∃ b, b = decide (x ∈ p.ids) := ⟨_, rfl⟩
  rw [← hb]
  have HB := Aside0.mk hb
  clear h hs hb
  cases b
  all_goals
    go_enter Try.func10, Try.ntmps10
    go_wp2_with fail
    go_region_held3 (fun w' => w'.cell? ⟨g, 0, none⟩ = some (.iface 58 (.int .i64 x)))
      (first | (rw [hbel.cell (p := ⟨g, 0, none⟩) hgl]; assumption) | go_keep)
      (first
        | (go_at_call 86; refine (nodeID_any _ _).mono ?_; rintro e w1 ⟨rfl, rfl⟩)
        | (go_at_call 72; refine (nodeD_any base bp p _ _ HP.out HS.out hn).mono ?_; rintro e w2 ⟨rfl, hbel⟩; rw [← HB.out]; unfold nodeOr nodeV))
    all_goals
      go_wp2
      go_ret
      exact ⟨rfl, ⟨hbel.os, hbel.tape, hbel.output, hbel.size, hbel.block⟩⟩

set_option maxHeartbeats 4000000 in
set_option maxRecDepth 100000 in
theorem topo1U (base bp : Nat) (p : Pl) (x : Int) (g c : Nat) (w : World) (hx : w.cell? ⟨g, 0, none⟩ = some (nodeV x)) (h : PlOk w base bp p) (hs : p.ids.Pairwise (· < ·)) (hn : p.ids.length ≤ 1000) :
    Calls Try.prog 10 #[.iface 48 (.agg #[.pointer (some ⟨bp, 0, none⟩)]), .slice (some ⟨g, 0, none⟩) 1 c] w fun e w' => e = .returned (.bool (decide (x ∈ p.ids))) ∧ Below w.heap.size w w' := by
  have HP := Aside0.mk (show PlOk w.drew base bp p from h.below ⟨rfl, rfl, rfl, Nat.le_refl _, fun _ _ => rfl⟩)
  have HS := Aside0.mk hs
  have m1 := meth_ID
  have m2 := meth_NodeU ⟨bp, 0, none⟩
  have m3 := nil_NodeU ⟨bp, 0, none⟩
  have hgl := World.block_lt_of_cell? w _ hx
  unfold nodeV at hx
  obtain ⟨b, hb⟩ : ∃ b, b = decide (x ∈ p.ids) := ⟨_, rfl⟩
  rw [← hb]
  have HB := Aside0.mk hb
  clear h hs hb
  cases b
  all_goals
    go_enter Try.func10, Try.ntmps10
    go_wp2_with fail
    go_region_held3 (fun w' => w'.cell? ⟨g, 0, none⟩ = some (.iface 58 (.int .i64 x)))
      (first | (rw [hbel.cell (p := ⟨g, 0, none⟩) hgl]; assumption) | go_keep)
      (first
        | (go_at_call 86; refine (nodeID_any _ _).mono ?_; rintro e w1 ⟨rfl, rfl⟩)
        | (go_at_call 82; refine (nodeU_any base bp p _ _ HP.out HS.out hn).mono ?_; rintro e w2 ⟨rfl, hbel⟩; rw [← HB.out]; unfold nodeOr nodeV))
    all_goals
      go_wp2
      go_ret
      exact ⟨rfl, ⟨hbel.os, hbel.tape, hbel.output, hbel.size, hbel.block⟩⟩

theorem Pl.from_stepD (p : Pl) (xs : List Int) (i : Nat) (h : i + 1 < xs.length) (b : Bool) (hb : b = p.has xs[i] xs[i + 1]) : p.from_ (xs.drop i) = (b && p.from_ (xs.drop (i + 1))) := by rw [from_drop p xs i h, hb]

set_option maxHeartbeats 8000000 in
set_option maxRecDepth 100000 in
theorem topo2D (base bp : Nat) (p : Pl) (xs : List Int) (v : Value) (vb : Nat) (w : World) (hl : 2 ≤ xs.length) (hl2 : xs.length ≤ 1000) (hv : w.ownsRow vb 52 1 v xs.length (nodeVs xs)) (h : PlOk w base bp p) (hs : p.ids.Pairwise (· < ·)) (hg : p.Good) :
    Calls Try.prog 10 #[.iface 47 (.agg #[.pointer (some ⟨bp, 0, none⟩)]), v] w fun e w' => e = .returned (.bool (p.from_ xs)) ∧ Below w.heap.size w w' := by
  obtain ⟨g, c, rfl, hvb, hgl⟩ := hv.form (by omega)
  have hlc : xs.length ≤ c := by
    rcases hv.2 with ⟨_, h0⟩ | ⟨g', cap', cur, hv', _, _, h1, _⟩
    · omega
    · injection hv' with e1 e2 e3; omega
  have hcell : ∀ i (hi : i < xs.length), w.cell? ⟨g, i, none⟩ = some (.iface 58 (.int .i64 xs[i])) := by
    intro i hi
    have := hv.cells (g := g) rfl i (nodeV xs[i]) (by simp [nodeVs, hi])
    rw [add_plain] at this
    exact this
  have HC := Aside0.mk hcell
  have HP := Aside0.mk h
  have HS := Aside0.mk hs
  have HG := Aside0.mk hg
  have hl0 : ¬ ((xs.length : Int) = 0) := by omega
  have hl1 : ¬ ((xs.length : Int) = 1) := by omega
  have hq0 : ((xs.length : Int) == 0) = false := by rw [beq_eq_false_iff_ne]; omega
  have hq1 : ((xs.length : Int) == 1) = false := by rw [beq_eq_false_iff_ne]; omega
  have m1 := meth_ID
  have m2 := meth_From ⟨bp, 0, none⟩
  have m3 := assertD ⟨bp, 0, none⟩
  have m4 := nil_From ⟨bp, 0, none⟩
  clear h hs hg hv hcell
  go_enter Try.func10, Try.ntmps10
  go_wp2_with fail
  go_loopw [28] (fun i wr => ∃ k : Nat, k + 1 ≤ xs.length ∧ i = .int .i64 k ∧ Aside0 (Below w.heap.size w wr ∧ p.from_ xs = p.from_ (xs.drop k))) (fun i _ => xs.length - (intOf i).toNat)
  case atStart => exact ⟨0, by omega, rfl, ⟨Below.refl _ _, rfl⟩⟩
  case round =>
    obtain ⟨k, hk, rfl, HR⟩ := hrel
    have hbw := HR.out.1.size
    by_cases hlt : k + 1 < xs.length
    · have hlt' : (k : Int) < (xs.length : Int) - 1 := by omega
      have hc0 := (HR.out.1.cell (p := ⟨g, k, none⟩) hgl).trans (HC.out k (by omega))
      have hc1 := (HR.out.1.cell (p := ⟨g, k + 1, none⟩) hgl).trans (HC.out (k + 1) hlt)
      have hx1 : IntKind.i64.wrap ((k : Int) + 1) = (k : Int) + 1 := by rw [IntKind.wrap_i64]; omega
      have hx2 : (0 : Int) ≤ (k : Int) + 1 := by omega
      have hx3 : (k : Int) + 1 < (xs.length : Int) := by omega
      have hx4 : ((k : Int) + 1).toNat = k + 1 := by omega
      have hgl2 : g < wr.heap.size := by omega
      have HP2 := Aside0.mk (show PlOk wr.drew base bp p from (HP.out.below HR.out.1).below ⟨rfl, rfl, rfl, Nat.le_refl _, fun _ _ => rfl⟩)
      obtain ⟨b, hb⟩ : ∃ b, b = p.has xs[k] xs[k + 1] := ⟨_, rfl⟩
      have HF := Aside0.mk (Pl.from_stepD p xs k hlt b hb)
      have HB := Aside0.mk hb
      clear hb
      generalize xs[k] = x at hc0 HB
      generalize xs[k + 1] = y at hc1 HB
      cases b
      · go_wp2_with fail
        go_region_held3 (fun w' => w'.cell? ⟨g, k, none⟩ = some (.iface 58 (.int .i64 x)) ∧ w'.cell? ⟨g, k + 1, none⟩ = some (.iface 58 (.int .i64 y)))
          (first | (exact ⟨(hbel.cell (p := ⟨g, k, none⟩) hgl2).trans hc0, (hbel.cell (p := ⟨g, k + 1, none⟩) hgl2).trans hc1⟩) | go_keep)
          (first
            | (go_at_call 86; refine (nodeID_any _ _).mono ?_; rintro e w1 ⟨rfl, rfl⟩)
            | (go_at_call 71; refine (hasFromTo_any base bp p _ _ _ HP2.out HS.out HG.out).mono ?_; rintro e w2 ⟨rfl, hbel⟩; rw [← HB.out]))
        all_goals
          go_wp2
          go_ret
          exact ⟨by rw [HR.out.2, HF.out]; rfl, HR.out.1.trans ((show Below wr.heap.size wr w2 from ⟨hbel.os, hbel.tape, hbel.output, hbel.size, hbel.block⟩).mono hbw)⟩
      · go_wp2_with fail
        go_region_held3 (fun w' => w'.cell? ⟨g, k, none⟩ = some (.iface 58 (.int .i64 x)) ∧ w'.cell? ⟨g, k + 1, none⟩ = some (.iface 58 (.int .i64 y)))
          (first | (exact ⟨(hbel.cell (p := ⟨g, k, none⟩) hgl2).trans hc0, (hbel.cell (p := ⟨g, k + 1, none⟩) hgl2).trans hc1⟩) | go_keep)
          (first
            | (go_at_call 86; refine (nodeID_any _ _).mono ?_; rintro e w1 ⟨rfl, rfl⟩)
            | (go_at_call 71; refine (hasFromTo_any base bp p _ _ _ HP2.out HS.out HG.out).mono ?_; rintro e w2 ⟨rfl, hbel⟩; rw [← HB.out]))
        all_goals
          go_wp2
          go_roundw
          case rel => exact ⟨k + 1, by omega, by go_num, ⟨HR.out.1.trans ((show Below wr.heap.size wr w2 from ⟨hbel.os, hbel.tape, hbel.output, hbel.size, hbel.block⟩).mono hbw), by rw [HR.out.2, HF.out]; rfl⟩⟩
          case measure => simp [intOf]; omega
    · have hlt' : ¬ ((k : Int) < (xs.length : Int) - 1) := by omega
      have hfin := from_last p xs k hlt
      have HFIN := Aside0.mk hfin
      clear hfin
      go_wp2
      go_ret
      exact ⟨by rw [HR.out.2, HFIN.out]; rfl, HR.out.1⟩

theorem Pl.from_stepU (p : Pl) (xs : List Int) (i : Nat) (h : i + 1 < xs.length) (b : Bool) (hb : b = p.has xs[i] xs[i + 1]) : p.from_ (xs.drop i) = (b && p.from_ (xs.drop (i + 1))) := by rw [from_drop p xs i h, hb]

set_option maxHeartbeats 8000000 in
set_option maxRecDepth 100000 in
theorem topo2U (base bp : Nat) (p : Pl) (xs : List Int) (v : Value) (vb : Nat) (w : World) (hl : 2 ≤ xs.length) (hl2 : xs.length ≤ 1000) (hv : w.ownsRow vb 52 1 v xs.length (nodeVs xs)) (h : PlOk w base bp p) (hs : p.ids.Pairwise (· < ·)) (hg : p.Good) :
    Calls Try.prog 10 #[.iface 48 (.agg #[.pointer (some ⟨bp, 0, none⟩)]), v] w fun e w' => e = .returned (.bool (p.from_ xs)) ∧ Below w.heap.size w w' := by
  obtain ⟨g, c, rfl, hvb, hgl⟩ := hv.form (by omega)
  have hlc : xs.length ≤ c := by
    rcases hv.2 with ⟨_, h0⟩ | ⟨g', cap', cur, hv', _, _, h1, _⟩
    · omega
    · injection hv' with e1 e2 e3; omega
  have hcell : ∀ i (hi : i < xs.length), w.cell? ⟨g, i, none⟩ = some (.iface 58 (.int .i64 xs[i])) := by
    intro i hi
    have := hv.cells (g := g) rfl i (nodeV xs[i]) (by simp [nodeVs, hi])
    rw [add_plain] at this
    exact this
  have HC := Aside0.mk hcell
  have HP := Aside0.mk h
  have HS := Aside0.mk hs
  have HG := Aside0.mk hg
  have hl0 : ¬ ((xs.length : Int) = 0) := by omega
  have hl1 : ¬ ((xs.length : Int) = 1) := by omega
  have hq0 : ((xs.length : Int) == 0) = false := by rw [beq_eq_false_iff_ne]; omega
  have hq1 : ((xs.length : Int) == 1) = false := by rw [beq_eq_false_iff_ne]; omega
  have m1 := meth_ID
  have m2 := meth_Between ⟨bp, 0, none⟩
  have m3 := assertU ⟨bp, 0, none⟩
  have m4 := nil_Between ⟨bp, 0, none⟩
  clear h hs hg hv hcell
  go_enter Try.func10, Try.ntmps10
  go_wp2_with fail
  go_loopw [28] (fun i wr => ∃ k : Nat, k + 1 ≤ xs.length ∧ i = .int .i64 k ∧ Aside0 (Below w.heap.size w wr ∧ p.from_ xs = p.from_ (xs.drop k))) (fun i _ => xs.length - (intOf i).toNat)
  case atStart => exact ⟨0, by omega, rfl, ⟨Below.refl _ _, rfl⟩⟩
  case round =>
    obtain ⟨k, hk, rfl, HR⟩ := hrel
    have hbw := HR.out.1.size
    by_cases hlt : k + 1 < xs.length
    · have hlt' : (k : Int) < (xs.length : Int) - 1 := by omega
      have hc0 := (HR.out.1.cell (p := ⟨g, k, none⟩) hgl).trans (HC.out k (by omega))
      have hc1 := (HR.out.1.cell (p := ⟨g, k + 1, none⟩) hgl).trans (HC.out (k + 1) hlt)
      have hx1 : IntKind.i64.wrap ((k : Int) + 1) = (k : Int) + 1 := by rw [IntKind.wrap_i64]; omega
      have hx2 : (0 : Int) ≤ (k : Int) + 1 := by omega
      have hx3 : (k : Int) + 1 < (xs.length : Int) := by omega
      have hx4 : ((k : Int) + 1).toNat = k + 1 := by omega
      have hgl2 : g < wr.heap.size := by omega
      have HP2 := Aside0.mk (show PlOk wr.drew base bp p from (HP.out.below HR.out.1).below ⟨rfl, rfl, rfl, Nat.le_refl _, fun _ _ => rfl⟩)
      obtain ⟨b, hb⟩ : ∃ b, b = p.has xs[k] xs[k + 1] := ⟨_, rfl⟩
      have HF := Aside0.mk (Pl.from_stepU p xs k hlt b hb)
      have HB := Aside0.mk hb
      clear hb
      generalize xs[k] = x at hc0 HB
      generalize xs[k + 1] = y at hc1 HB
      cases b
      · go_wp2_with fail
        go_region_held3 (fun w' => w'.cell? ⟨g, k, none⟩ = some (.iface 58 (.int .i64 x)) ∧ w'.cell? ⟨g, k + 1, none⟩ = some (.iface 58 (.int .i64 y)))
          (first | (exact ⟨(hbel.cell (p := ⟨g, k, none⟩) hgl2).trans hc0, (hbel.cell (p := ⟨g, k + 1, none⟩) hgl2).trans hc1⟩) | go_keep)
          (first
            | (go_at_call 86; refine (nodeID_any _ _).mono ?_; rintro e w1 ⟨rfl, rfl⟩)
            | (go_at_call 81; refine (hasBetween_any base bp p _ _ _ HP2.out HS.out HG.out).mono ?_; rintro e w2 ⟨rfl, hbel⟩; rw [← HB.out]))
        all_goals
          go_wp2
          go_ret
          exact ⟨by rw [HR.out.2, HF.out]; rfl, HR.out.1.trans ((show Below wr.heap.size wr w2 from ⟨hbel.os, hbel.tape, hbel.output, hbel.size, hbel.block⟩).mono hbw)⟩
      · go_wp2_with fail
        go_region_held3 (fun w' => w'.cell? ⟨g, k, none⟩ = some (.iface 58 (.int .i64 x)) ∧ w'.cell? ⟨g, k + 1, none⟩ = some (.iface 58 (.int .i64 y)))
          (first | (exact ⟨(hbel.cell (p := ⟨g, k, none⟩) hgl2).trans hc0, (hbel.cell (p := ⟨g, k + 1, none⟩) hgl2).trans hc1⟩) | go_keep)
          (first
            | (go_at_call 86; refine (nodeID_any _ _).mono ?_; rintro e w1 ⟨rfl, rfl⟩)
            | (go_at_call 81; refine (hasBetween_any base bp p _ _ _ HP2.out HS.out HG.out).mono ?_; rintro e w2 ⟨rfl, hbel⟩; rw [← HB.out]))
        all_goals
          go_wp2
          go_roundw
          case rel => exact ⟨k + 1, by omega, by go_num, ⟨HR.out.1.trans ((show Below wr.heap.size wr w2 from ⟨hbel.os, hbel.tape, hbel.output, hbel.size, hbel.block⟩).mono hbw), by rw [HR.out.2, HF.out]; rfl⟩⟩
          case measure => simp [intOf]; omega
    · have hlt' : ¬ ((k : Int) < (xs.length : Int) - 1) := by omega
      have hfin := from_last p xs k hlt
      have HFIN := Aside0.mk hfin
      clear hfin
      go_wp2
      go_ret
      exact ⟨by rw [HR.out.2, HFIN.out]; rfl, HR.out.1⟩

end Go.Proofs.Ytlokbaljkmblaaa
