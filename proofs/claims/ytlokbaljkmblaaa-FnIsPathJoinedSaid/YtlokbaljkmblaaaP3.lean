import Derived.Test.YtlokbaljkmblaaaP2
namespace Go.Proofs.Ytlokbaljkmblaaa
open Go.RowKit Go.Lab Go.Proofs.YtlokbaljkmblaaaW.PrintWords Go.Proofs.YtlokbaljkmblaaaW.PrintLast Go.Proofs.YtlokbaljkmblaaaW.PrintMore PFnIsPathJoined

structure SO (w wr : World) (v : Value) (n : Nat) (xs : List Int) (k : Nat) : Prop where
  ex : ∃ ys : List Int, wr.ownsRow w.heap.size 3 1 v n (nums .i64 ys) ∧ ys.length = n ∧ ys.Perm xs ∧ UpTo ys k ∧ Below w.heap.size w wr

structure SI (w wr : World) (v : Value) (n : Nat) (xs : List Int) (k i : Nat) : Prop where
  ex : ∃ ys : List Int, wr.ownsRow w.heap.size 3 1 v n (nums .i64 ys) ∧ ys.length = n ∧ Ins xs ys k i ∧ Below w.heap.size w wr

theorem SI.swap {w w8 : World} {g C n : Nat} {xs ys : List Int} {k j : Nat} {x y : Int} (h : w8.ownsRow w.heap.size 3 1 (.slice (some ⟨g, 0, none⟩) n C) n (nums .i64 ys)) (hl : ys.length = n) (hI : Ins xs ys k (j + 1)) (hb : Below w.heap.size w w8)
    (hx : x = ys.getD (j + 1) 0) (hy : y = ys.getD j 0) (hxy : x < y) (hg : w.heap.size ≤ g) : SI w ((w8.setCell ⟨g, j + 1, none⟩ (.int .i64 y)).setCell ⟨g, j, none⟩ (.int .i64 x)) (.slice (some ⟨g, 0, none⟩) n C) n xs k j := by
  refine ⟨swp2 ys (j + 1), ?_, by rw [swp2_length]; exact hl, hI.step (by omega) (by rw [show j + 1 - 1 = j by omega, ← hx, ← hy]; exact hxy), (hb.setCell hg _).setCell hg _⟩
  have h1 := own_put (own_put h (j + 1) (.int .i64 y)) j (.int .i64 x)
  have e : nums .i64 (swp2 ys (j + 1)) = ((nums .i64 ys).set (j + 1) (.int .i64 y)).set j (.int .i64 x) := by
    unfold swp2 nums
    rw [List.map_set, List.map_set, show j + 1 - 1 = j by omega, ← hx, ← hy]
  rw [e]; exact h1

theorem SI.far {w w8 w9 : World} {v : Value} {n : Nat} {xs : List Int} {k i : Nat} (h : SI w w8 v n xs k i) (hb : Below w8.heap.size w8 w9) : SI w w9 v n xs k i := by
  obtain ⟨ys, h1, h2, h3, h4⟩ := h.ex
  exact ⟨ys, pw_own_below h1 hb, h2, h3, h4.trans (hb.mono h4.size)⟩

set_option maxHeartbeats 8000000 in
set_option maxRecDepth 100000 in
theorem sorted_any (A : Option Addr) (c : Nat) (xs : List Int) (w : World) (h : Kd.C (Kd.int .i64) w A xs.length xs) (hb : xs.length ≤ 1000) :
    Calls Try.prog 13 #[.slice A xs.length c] w fun e w' => ∃ v, e = .returned v ∧ w'.ownsRow w.heap.size 3 1 v xs.length (nums .i64 (srt xs)) ∧ Below w.heap.size w w' := by
  have HC := Aside0.mk h
  clear h
  go_enter Try.func13, Try.ntmps13
  go_wp2_with (go_at_call 7; refine (cloneI_any A c xs _ HC.out (by omega)).mono ?_; rintro e w1 ⟨v, rfl, hown, hbel⟩; obtain ⟨V, C, rfl⟩ := own_slice hown; have HO := Aside0.mk (And.intro hown hbel); clear hown hbel)
  go_loopw [4] (fun i wr => ∃ k : Nat, i = .int .i64 k ∧ 1 ≤ k ∧ (k ≤ xs.length ∨ k = 1) ∧ Aside0 (SO w wr (.slice V xs.length C) xs.length xs k)) (fun i _ => xs.length - (intOf i).toNat)
  case atStart => exact ⟨1, rfl, Nat.le_refl _, .inr rfl, ⟨⟨xs, HO.out.1, rfl, List.Perm.refl _, fun a b h1 h2 => by omega, HO.out.2⟩⟩⟩
  case round =>
    clear HO
    obtain ⟨k, rfl, hk1, hk2, HS⟩ := hrel
    obtain ⟨wo, rfl⟩ : ∃ wo : World, wo = wr := ⟨_, rfl⟩
    by_cases hlt : k < xs.length
    · go_wp2
      go_loopw [5] (fun i wr => ∃ i' : Nat, i = .int .i64 i' ∧ i' ≤ k ∧ Aside0 (SI w wr (.slice V xs.length C) xs.length xs k i')) (fun i _ => (intOf i).toNat)
      case atStart =>
        obtain ⟨ys, h1, h2, h3, h4, h5⟩ := HS.out.ex
        exact ⟨k, rfl, Nat.le_refl _, ⟨⟨ys, h1, h2, Ins.start h3 (by omega) h4, h5⟩⟩⟩
      case round =>
        clear HS
        obtain ⟨i, rfl, hik, HI⟩ := hrel
        by_cases h0 : i = 0
        · subst h0
          have hs : SO w wr (.slice V xs.length C) xs.length xs (k + 1) := by
            obtain ⟨ys, h1, h2, h3, h4⟩ := HI.out.ex
            exact ⟨ys, h1, h2, h3.perm, h3.stop (.inl rfl), h4⟩
          have HS2 := Aside0.mk hs
          clear hs HI
          go_wp2_with fail
          go_quiet (fail)
          go_wp2
          go_roundw
          case rel => exact ⟨k + 1, by go_num, by omega, .inl (by omega), ⟨⟨by obtain ⟨ys, h1, h2, h3, h4, h5⟩ := HS2.out.ex; exact ⟨ys, own_of_heap h1 (fun _ _ => rfl), h2, h3, h4, ⟨h5.os, h5.tape, h5.output, h5.size, h5.block⟩⟩⟩⟩⟩
          case measure => simp [intOf]; omega
        · obtain ⟨j, rfl⟩ : ∃ j, i = j + 1 := ⟨i - 1, by omega⟩
          obtain ⟨ys, h1, h2, h3, h4⟩ := HI.out.ex
          obtain ⟨g, cap, hv, hgb, hgl⟩ := h1.form (by omega)
          injection hv with e1 e2 e3
          subst e1 e3
          have hc1 := own_at h1 ((j : Int) + 1) (by omega) (by omega)
          have hc0 := own_at h1 (j : Int) (by omega) (by omega)
          rw [show ((j : Int) + 1).toNat = j + 1 by omega] at hc1
          rw [Int.toNat_natCast] at hc0
          obtain ⟨hc1, hf1⟩ := hc1
          obtain ⟨hc0, hf0⟩ := hc0
          have hx1 : IntKind.i64.wrap ((j : Int) + 1 - 1) = (j : Int) := by rw [IntKind.wrap_i64]; omega
          have hx2 : IntKind.i64.wrap (j : Int) = (j : Int) := by rw [IntKind.wrap_i64]; omega
          have hx3 : (j : Int) + 1 < (xs.length : Int) := by omega
          have hx4 : (0 : Int) ≤ (j : Int) + 1 := by omega
          have hx5 : (j : Int) < (xs.length : Int) := by omega
          have hx6 : ((j : Int) + 1).toNat = j + 1 := by omega
          have hx7 : decide ((0 : Int) < (j : Int) + 1) = true := decide_eq_true (by omega)
          have H1 := Aside0.mk h1
          have H2 := Aside0.mk h2
          have H3 := Aside0.mk h3
          have H4 := Aside0.mk h4
          have e1 : rd ys ((j : Int) + 1) = ys.getD (j + 1) 0 := by unfold rd; rw [hx6]
          have e0 : rd ys (j : Int) = ys.getD j 0 := by unfold rd; rw [Int.toNat_natCast]
          have E1 := Aside0.mk e1
          have E0 := Aside0.mk e0
          clear h1 h2 h3 h4 e1 e0 HI
          generalize rd ys ((j : Int) + 1) = x at hc1 E1
          generalize rd ys (j : Int) = y at hc0 E0
          by_cases hxy : x < y
          · have hd : decide (x < y) = true := decide_eq_true hxy
            clear hxy
            go_wp2_with fail
            go_quiet (fail)
            go_wp2_with fail
            have hb8 : Below wr.heap.size wr (wr.drewN nq) := ⟨rfl, rfl, rfl, Nat.le_refl _, fun _ _ => rfl⟩
            replace hc0 := (hb8.cell (p := ⟨g, j, none⟩) hgl).trans hc0
            replace hc1 := (hb8.cell (p := ⟨g, j + 1, none⟩) hgl).trans hc1
            replace hf0 := (hb8.frozen (p := ⟨g, j, none⟩) hgl).trans hf0
            replace hf1 := (hb8.frozen (p := ⟨g, j + 1, none⟩) hgl).trans hf1
            have H18 := Aside0.mk (pw_own_below H1.out hb8)
            have H48 := Aside0.mk (H4.out.trans (hb8.mono H4.out.size))
            have hgl8 : g < (wr.drewN nq).heap.size := hgl
            clear H1 H4 hb8 hgl
            generalize wr.drewN nq = w8 at hc0 hc1 hf0 hf1 H18 H48 hgl8 ⊢
            obtain ⟨v', hy'⟩ := cell?_setCell_some (w := w8.drew) (p := ⟨g, j + 1, none⟩) (x := .int .i64 y) (q := ⟨g, j, none⟩) (v := .int .i64 y) (by go_simp)
            go_region
            go_wp2
            go_roundw
            case rel => exact ⟨j, by go_num, by omega, ⟨SI.far (SI.swap H18.out H2.out H3.out H48.out E1.out E0.out (of_decide_eq_true hd) hgb) ⟨rfl, rfl, rfl, Nat.le_refl _, fun _ _ => rfl⟩⟩⟩
            case measure => first | (simp [intOf]; done) | (simp [intOf]; omega)
          · have hd : decide (x < y) = false := decide_eq_false hxy
            have hs : SO w wr (.slice (some ⟨g, 0, none⟩) xs.length C) xs.length xs (k + 1) := by
              refine ⟨ys, H1.out, H2.out, H3.out.perm, H3.out.stop (.inr ?_), H4.out⟩
              rw [show j + 1 - 1 = j by omega, ← E0.out, ← E1.out]; omega
            have HS2 := Aside0.mk hs
            clear hxy hs
            go_wp2_with fail
            go_quiet (fail)
            go_wp2
            go_roundw
            case rel => exact ⟨k + 1, by go_num, by omega, .inl (by omega), ⟨⟨by obtain ⟨ys, h1, h2, h3, h4, h5⟩ := HS2.out.ex; exact ⟨ys, own_of_heap h1 (fun _ _ => rfl), h2, h3, h4, ⟨h5.os, h5.tape, h5.output, h5.size, h5.block⟩⟩⟩⟩⟩
            case measure => simp [intOf]; omega
    · obtain ⟨ys, h1, h2, h3, h4, h5⟩ := HS.out.ex
      have hz : ys = srt xs := by
        refine UpTo.srt h3 ?_
        intro a b ha hb'
        exact h4 a b ha (by omega)
      have H1 := Aside0.mk (And.intro (hz ▸ h1) h5)
      clear h1 h2 h3 h4 h5 hz HS
      go_wp2
      go_ret
      exact ⟨_, rfl, H1.out.1, H1.out.2⟩
end Go.Proofs.Ytlokbaljkmblaaa
