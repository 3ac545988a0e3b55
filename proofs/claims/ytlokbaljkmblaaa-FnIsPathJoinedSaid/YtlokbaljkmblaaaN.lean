import Derived.Test.YtlokbaljkmblaaaM
namespace Go.Proofs.Ytlokbaljkmblaaa
open Go.RowKit Go.Lab Go.Proofs.YtlokbaljkmblaaaW.PrintWords Go.Proofs.YtlokbaljkmblaaaW.PrintLast Go.Proofs.YtlokbaljkmblaaaW.PrintMore PFnIsPathJoined

set_option maxHeartbeats 1000000 in
theorem hasBetween_any (base bp : Nat) (p : Pl) (u v : Int) (w : World) (h : PlOk w base bp p) (hs : p.ids.Pairwise (· < ·)) (hg : p.Good) :
    Calls Try.prog 81 #[.agg #[.pointer (some ⟨bp, 0, none⟩)], .int .i64 u, .int .i64 v] w fun e w' => e = .returned (.bool (p.has u v)) ∧ Below w.heap.size w w' := by
  have HW := Aside0.mk (h.below ((Below.refl _ _).alloc (Nat.le_refl _) (.cells #[.pointer (some ⟨bp, 0, none⟩)] 48)))
  have HS := Aside0.mk hs
  have HG := Aside0.mk hg
  have HF := Aside0.mk (show p.has u v = (p.find u v).isSome from rfl)
  obtain ⟨f, hf⟩ : ∃ f, f = p.find u v := ⟨_, rfl⟩
  rw [← hf] at HF
  have HFF := Aside0.mk hf
  obtain ⟨b, hb⟩ : ∃ b, b = p.has u v := ⟨_, rfl⟩
  rw [← hb] at HF ⊢
  clear h hs hg hf hb
  cases f with
  | none =>
    have hb : b = false := HF.out
    subst hb
    go_enter Try.func81, Try.ntmps81
    go_wp2_with (go_at_call 76; refine (find_any base bp p _ _ _ HW.out HS.out HG.out).mono ?_; rintro e' w1 ⟨rfl, hbel⟩; rw [← HFF.out]; unfold arcV; have HBEL := Aside0.mk hbel; clear hbel)
    go_ret
    refine ⟨rfl, ?_⟩
    have h1 := Below.up ((Below.refl w.heap.size w).alloc (Nat.le_refl _) _) HBEL.out (Nat.le_refl _)
    exact h1.alloc h1.size _
  | some a =>
    have hb : b = true := HF.out
    subst hb
    go_enter Try.func81, Try.ntmps81
    go_wp2_with (go_at_call 76; refine (find_any base bp p _ _ _ HW.out HS.out HG.out).mono ?_; rintro e' w1 ⟨rfl, hbel⟩; rw [← HFF.out]; unfold arcV; have HBEL := Aside0.mk hbel; clear hbel)
    go_ret
    refine ⟨rfl, ?_⟩
    have h1 := Below.up ((Below.refl w.heap.size w).alloc (Nat.le_refl _) _) HBEL.out (Nat.le_refl _)
    exact h1.alloc h1.size _

/-- a node as an interface value -/
def nodeV (x : Int) : Value := .iface 58 (.int .i64 x)
def nodeOr (b : Bool) (x : Int) : Value := if b then nodeV x else .nilIface

set_option maxHeartbeats 1000000 in
theorem node_any (base bp : Nat) (p : Pl) (x : Int) (w : World) (h : PlOk w base bp p) (hs : p.ids.Pairwise (· < ·)) (hn : p.ids.length ≤ 1000) :
    Calls Try.prog 77 #[.pointer (some ⟨bp, 0, none⟩), .int .i64 x] w fun e w' => e = .returned (nodeOr (decide (x ∈ p.ids)) x) ∧ w = w' := by
  have HW := Aside0.mk h
  have HS := Aside0.mk hs
  by_cases hx : x ∈ p.ids
  · have hd : decide (x ∈ p.ids) = true := decide_eq_true hx
    clear h hs hx
    go_enter Try.func77, Try.ntmps77
    go_wp2_with (go_at_call 20; refine (pl_index base bp p _ _ HW.out HS.out hn).mono ?_; rintro e' w' ⟨rfl, rfl⟩)
    go_ret
    exact ⟨by rw [hd]; rfl, rfl⟩
  · have hd : decide (x ∈ p.ids) = false := decide_eq_false hx
    clear h hs hx
    go_enter Try.func77, Try.ntmps77
    go_wp2_with (go_at_call 20; refine (pl_index base bp p _ _ HW.out HS.out hn).mono ?_; rintro e' w' ⟨rfl, rfl⟩)
    go_ret
    exact ⟨by rw [hd]; rfl, rfl⟩

set_option maxHeartbeats 1000000 in
theorem nodeD_any (base bp : Nat) (p : Pl) (x : Int) (w : World) (h : PlOk w base bp p) (hs : p.ids.Pairwise (· < ·)) (hn : p.ids.length ≤ 1000) :
    Calls Try.prog 72 #[.agg #[.pointer (some ⟨bp, 0, none⟩)], .int .i64 x] w fun e w' => e = .returned (nodeOr (decide (x ∈ p.ids)) x) ∧ Below w.heap.size w w' := by
  have HW := Aside0.mk (h.below ((Below.refl _ _).alloc (Nat.le_refl _) (.cells #[.pointer (some ⟨bp, 0, none⟩)] 47)))
  have HS := Aside0.mk hs
  clear h hs
  go_enter Try.func72, Try.ntmps72
  go_wp2_with (go_at_call 77; refine (node_any base bp p _ _ HW.out HS.out hn).mono ?_; rintro e' w' ⟨rfl, rfl⟩)
  go_ret
  exact ⟨rfl, (Below.refl _ _).alloc (Nat.le_refl _) _⟩

set_option maxHeartbeats 1000000 in
theorem nodeU_any (base bp : Nat) (p : Pl) (x : Int) (w : World) (h : PlOk w base bp p) (hs : p.ids.Pairwise (· < ·)) (hn : p.ids.length ≤ 1000) :
    Calls Try.prog 82 #[.agg #[.pointer (some ⟨bp, 0, none⟩)], .int .i64 x] w fun e w' => e = .returned (nodeOr (decide (x ∈ p.ids)) x) ∧ Below w.heap.size w w' := by
  have HW := Aside0.mk (h.below ((Below.refl _ _).alloc (Nat.le_refl _) (.cells #[.pointer (some ⟨bp, 0, none⟩)] 48)))
  have HS := Aside0.mk hs
  clear h hs
  go_enter Try.func82, Try.ntmps82
  go_wp2_with (go_at_call 77; refine (node_any base bp p _ _ HW.out HS.out hn).mono ?_; rintro e' w' ⟨rfl, rfl⟩)
  go_ret
  exact ⟨rfl, (Below.refl _ _).alloc (Nat.le_refl _) _⟩

theorem Try.info52 : (Try.prog.info? 52).map (fun i => (i.zero, i.size, i.bytes)) = some (some .nilIface, 1, 16) := by kernel_rfl
def nodeVs (xs : List Int) : List Value := xs.map nodeV

set_option maxHeartbeats 2000000 in
set_option maxRecDepth 100000 in
theorem nodesOf_any (A : Option Addr) (c : Nat) (xs : List Int) (w : World) (h : Kd.C (Kd.int .i64) w A xs.length xs) (hb : xs.length ≤ 100000) :
    Calls Try.prog 11 #[.slice A xs.length c] w fun e w' => ∃ v, e = .returned v ∧ w'.ownsRow w.heap.size 52 1 v xs.length (nodeVs xs) ∧ Below w.heap.size w w' := by
  have HC := Aside0.mk h
  obtain ⟨i0, hi, hz0, hz1, hz2⟩ := info_parts Try.info52
  have HI := Aside0.mk (And.intro hi (And.intro hz0 (And.intro hz1 hz2)))
  clear h hi hz0 hz1 hz2
  go_enter Try.func11, Try.ntmps11
  go_wp2
  go_loopw [3, 8] (fun v i wr => ∃ k : Nat, k ≤ xs.length ∧ i = .int .i64 k ∧ Aside0 (wr.ownsRow w.heap.size 52 1 v k (nodeVs (xs.take k)) ∧ Below w.heap.size w wr)) (fun _ i _ => xs.length - (intOf i).toNat)
  case atStart => exact ⟨0, Nat.zero_le _, rfl, ⟨World.ownsRow_nil _ _ _ _, Below.refl _ _⟩⟩
  case round =>
    obtain ⟨k, hk, rfl, HR⟩ := hrel
    by_cases hlt : k < xs.length
    · have hbw := HR.out.2.size
      obtain ⟨ad, rfl, hc⟩ := C_int_at (Kd.C_below HC.out HR.out.2) k hlt
      have hts : nodeVs (xs.take (k + 1)) = nodeVs (xs.take k) ++ [nodeV (xs.getD k 0)] := by
        have hge : xs.getD k 0 = xs[k] := by simp [List.getD_eq_getElem?_getD, hlt]
        rw [hge, List.take_succ_eq_append_getElem hlt]; unfold nodeVs; rw [List.map_append]; rfl
      have HTS := Aside0.mk hts
      clear hts
      generalize xs.getD k 0 = x at hc HTS
      go_wp2_with (at_builtin; refine wpList_append_own _ rfl _ _ 38 rfl w.heap.size 52 i0 .nilIface 1 16 Try.underlying38 HI.out.1 HI.out.2.1 HI.out.2.2.1 HI.out.2.2.2 rfl (by decide) _ k (nodeVs (xs.take k)) rfl (World.ownsRow.alloc HR.out.1 _) ⟨wr.heap.size, 0, none⟩ 1 1 [nodeV x] rfl rfl (cell_one_new _ _ _) ?q2 ?q3 ?q4 ?q5 ?_)
      case q2 => intro u hu; simp at hu; subst hu; rfl
      case q3 => unfold maxLen; omega
      case q4 => omega
      case q5 => simp; omega
      intro v' w1 hown hgr _
      have HO := Aside0.mk hown
      have HGR := Aside0.mk hgr
      clear hown hgr
      go_wp2
      go_roundw
      case rel => exact ⟨k + 1, by omega, by go_num, ⟨by rw [HTS.out]; exact HO.out, (HR.out.2.alloc hbw _).grown HGR.out (by simp; omega) (fun q hq => own_base HR.out.1 q hq)⟩⟩
      case measure => simp [intOf]; omega
    · have hk' : k = xs.length := by omega
      have hts : xs.take k = xs := by rw [hk', List.take_length]
      have h1 := HR.out
      rw [hts, hk'] at h1
      have H1 := Aside0.mk h1
      clear h1 hts HR
      go_wp2
      go_ret
      exact ⟨_, rfl, H1.out.1, H1.out.2⟩
end Go.Proofs.Ytlokbaljkmblaaa
