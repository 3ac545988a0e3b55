import Derived.Test.YtlokbaljkmblaaaC3
import Derived.BigQuiet
namespace Go.Proofs.Ytlokbaljkmblaaa
open Go.RowKit Go.Lab Go.Proofs.YtlokbaljkmblaaaW.PrintWords Go.Proofs.YtlokbaljkmblaaaW.PrintLast Go.Proofs.YtlokbaljkmblaaaW.PrintMore

set_option maxHeartbeats 400000 in
theorem cmp39_any (x k : Int) (y : Nat) (w : World) (h0 : 0 ≤ x) (h1 : x ≤ 1000) (h2 : 0 ≤ k) (h3 : k ≤ 1000) :
    Calls Try.prog 39 #[.agg #[.int .i64 x, .float .f64 y], .int .i64 k] w fun e w' => e = .returned (.int .i64 (x - k)) ∧ w.alloc (.cells #[.int .i64 x, .float .f64 y] 90) = w' := by
  go_enter Try.func39, Try.ntmps39
  go_wp2
  go_ret
  exact ⟨rfl, rfl⟩

/-- the cells of arc h of an owned row -/
theorem fl_cells {w : World} {base : Nat} {v : Value} {l : List (Int × Nat)} (h : w.ownsRow base 90 2 v l.length (fl l)) (j : Nat) (hj : j < l.length) :
    ∃ g cap, v = .slice (some ⟨g, 0, none⟩) l.length cap ∧ g < w.heap.size ∧ l.length ≤ cap ∧ w.cell? ⟨g, j * 2, none⟩ = some (.int .i64 l[j].1) ∧ w.cell? ⟨g, j * 2 + 1, none⟩ = some (.float .f64 l[j].2) := by
  rcases h.2 with ⟨_, h0⟩ | ⟨g, cap, cur, rfl, hb1, hg, hc1, hc2, hcs, htk⟩
  · omega
  · refine ⟨g, cap, rfl, blk_lt hg, hc1, ?_, ?_⟩
    · rw [cell_of_row w g _ _ _ _ hg]
      have h1 : (fl l)[j * 2]? = some (.int .i64 l[j].1) := by
        have := fl_drop l j
        rw [List.drop_eq_getElem_cons hj, fl_cons] at this
        have h2 : ((fl l).drop (j * 2))[0]? = some (.int .i64 l[j].1) := by rw [this]; rfl
        rw [List.getElem?_drop] at h2
        simpa using h2
      rw [← htk, List.getElem?_take] at h1
      split at h1
      · simpa using h1
      · cases h1
    · rw [cell_of_row w g _ _ _ _ hg]
      have h1 : (fl l)[j * 2 + 1]? = some (.float .f64 l[j].2) := by
        have := fl_drop l j
        rw [List.drop_eq_getElem_cons hj, fl_cons] at this
        have h2 : ((fl l).drop (j * 2))[1]? = some (.float .f64 l[j].2) := by rw [this]; rfl
        rw [List.getElem?_drop] at h2
        simpa using h2
      rw [← htk, List.getElem?_take] at h1
      split at h1
      · simpa using h1
      · cases h1

def keys (l : List (Int × Nat)) : List Int := l.map (·.1)
theorem keys_length (l : List (Int × Nat)) : (keys l).length = l.length := by simp [keys]

set_option maxHeartbeats 2000000 in
set_option maxRecDepth 100000 in
theorem bsf39_any (base : Nat) (v : Value) (l : List (Int × Nat)) (k : Int) (w : World) (h : w.ownsRow base 90 2 v l.length (fl l)) (hs : (keys l).Pairwise (· < ·)) (hb : l.length ≤ 1000)
    (hk0 : 0 ≤ k) (hk1 : k ≤ 1000) (hkk : ∀ a ∈ l, 0 ≤ a.1 ∧ a.1 ≤ 1000) :
    Calls Try.prog 38 #[v, .int .i64 k, .func (.func 39) #[] #[]] w fun e w' => e = .returned (.tuple #[.int .i64 (rank (keys l) k), .bool (decide (k ∈ keys l))]) ∧ Below w.heap.size w w' := by
  have HS := Aside0.mk hs
  have HC := Aside0.mk h
  have HK := Aside0.mk hkk
  have hrl := rank_le (keys l) k
  rw [keys_length] at hrl
  have HKL := Aside0.mk (keys_length l)
  have hv : ∃ A c, v = .slice A l.length c := own_slice h
  obtain ⟨A, c, rfl⟩ := hv
  clear hs h hkk
  go_enter Try.func38, Try.ntmps38
  go_wp2
  go_loopw [9, 10] (fun i j wr => ∃ a b : Nat, i = .int .i64 a ∧ j = .int .i64 b ∧ a ≤ rank (keys l) k ∧ rank (keys l) k ≤ b ∧ b ≤ l.length ∧ Below w.heap.size w wr) (fun i j _ => (intOf j - intOf i).toNat)
  case atStart => exact ⟨0, l.length, rfl, rfl, Nat.zero_le _, hrl, Nat.le_refl _, Below.refl _ _⟩
  case round =>
    obtain ⟨a, b, rfl, rfl, h1, h2, h3, hbl⟩ := hrel
    have HBL := Aside0.mk hbl
    clear hbl
    by_cases hab : a < b
    · obtain ⟨h, hh⟩ : ∃ h : Nat, ((a : Int) + (b : Int)) / 2 = (h : Int) := ⟨(a + b) / 2, by omega⟩
      have hh1 : a ≤ h := by omega
      have hh2 : h < b := by omega
      have hlt : h < l.length := by omega
      obtain ⟨g, cap, hv, hgw, hlc, hc1, hc2⟩ := fl_cells HC.out h hlt
      injection hv with e1 e2 e3
      subst e1 e3
      have hr := rank_lt HS.out k h (by rw [HKL.out]; exact hlt)
      have hge : (keys l)[h]'(by rw [HKL.out]; exact hlt) = l[h].1 := by simp [keys]
      rw [hge] at hr
      have hx := HK.out l[h] (List.getElem_mem _)
      rw [← HBL.out.cell (p := ⟨g, h * 2, none⟩) hgw] at hc1
      rw [← HBL.out.cell (p := ⟨g, h * 2 + 1, none⟩) hgw] at hc2
      have HR := Aside0.mk hr
      clear hr hge
      generalize l[h].1 = x at HR hc1 hx
      generalize l[h].2 = y at hc2
      obtain ⟨hx0, hx1⟩ := hx
      by_cases hx : x < k
      · have hx' : decide (x - k < 0) = true := by simp; omega
        go_wp2_with (go_at_call 39; refine (cmp39_any _ _ _ _ hx0 hx1 hk0 hk1).mono ?_; rintro e w' ⟨rfl, rfl⟩)
        go_roundw
        case rel => exact ⟨h + 1, b, by go_num, rfl, HR.out.1 hx, h2, h3, HBL.out.alloc HBL.out.size _⟩
        case measure => simp [intOf]; omega
      · have hx' : decide (x - k < 0) = false := by simp; omega
        go_wp2_with (go_at_call 39; refine (cmp39_any _ _ _ _ hx0 hx1 hk0 hk1).mono ?_; rintro e w' ⟨rfl, rfl⟩)
        go_roundw
        case rel => exact ⟨a, h, rfl, rfl, h1, by have := HR.out; omega, by omega, HBL.out.alloc HBL.out.size _⟩
        case measure => simp [intOf]; omega
    · have hab' : a = rank (keys l) k := by omega
      have hm := rank_mem HS.out k
      by_cases hlt : a < l.length
      · obtain ⟨g, cap, hv, hgw, hlc, hc1, hc2⟩ := fl_cells HC.out a hlt
        injection hv with e1 e2 e3
        subst e1 e3
        have hlt' : a < (keys l).length := by rw [HKL.out]; exact hlt
        have hge : (keys l)[a]'hlt' = l[a].1 := by simp [keys]
        have hm' : k ∈ keys l ↔ l[a].1 = k := by rw [hm, ← hge]; subst hab'; exact ⟨fun ⟨_, e⟩ => e, fun e => ⟨hlt', e⟩⟩
        have hx := HK.out l[a] (List.getElem_mem _)
        rw [← HBL.out.cell (p := ⟨g, a * 2, none⟩) hgw] at hc1
        rw [← HBL.out.cell (p := ⟨g, a * 2 + 1, none⟩) hgw] at hc2
        have HM := Aside0.mk hm'
        have HA := Aside0.mk hab'
        clear hm hm' hge hab'
        generalize l[a].1 = x at HM hc1 hx
        generalize l[a].2 = y at hc2
        obtain ⟨hx0, hx1⟩ := hx
        have hd : decide (k ∈ keys l) = decide (x = k) := by simp [HM.out]
        have HD := Aside0.mk hd
        clear hd
        by_cases hx : x = k
        · have hx' : ((x - k) == 0) = true := by simp; omega
          have HX := Aside0.mk hx
          clear hx
          go_wp2_with (go_at_call 39; refine (cmp39_any _ _ _ _ hx0 hx1 hk0 hk1).mono ?_; rintro e w' ⟨rfl, rfl⟩)
          go_ret2
          exact ⟨by rw [HD.out, ← HA.out]; simp [HX.out], HBL.out.alloc HBL.out.size _⟩
        · have hx' : ((x - k) == 0) = false := by simp; omega
          have HX := Aside0.mk hx
          clear hx
          go_wp2_with (go_at_call 39; refine (cmp39_any _ _ _ _ hx0 hx1 hk0 hk1).mono ?_; rintro e w' ⟨rfl, rfl⟩)
          go_ret2
          exact ⟨by rw [HD.out, ← HA.out]; simp [HX.out], HBL.out.alloc HBL.out.size _⟩
      · have hd : decide (k ∈ keys l) = false := by
          rw [decide_eq_false_iff_not, hm]; rintro ⟨h, _⟩; rw [HKL.out] at h; omega
        have HD := Aside0.mk hd
        have HA := Aside0.mk hab'
        clear hd hm hab'
        go_wp2
        go_ret2
        exact ⟨by rw [HD.out, ← HA.out]; rfl, HBL.out⟩

set_option maxHeartbeats 400000 in
theorem cmp78_any (x k : Int) (y : Nat) (w : World) (h0 : 0 ≤ x) (h1 : x ≤ 1000) (h2 : 0 ≤ k) (h3 : k ≤ 1000) :
    Calls Try.prog 78 #[.agg #[.int .i64 x, .float .f64 y], .int .i64 k] w fun e w' => e = .returned (.int .i64 (x - k)) ∧ w.alloc (.cells #[.int .i64 x, .float .f64 y] 90) = w' := by
  go_enter Try.func78, Try.ntmps78
  go_wp2
  go_ret
  exact ⟨rfl, rfl⟩

set_option maxHeartbeats 2000000 in
set_option maxRecDepth 100000 in
theorem bsf78_any (base : Nat) (v : Value) (l : List (Int × Nat)) (k : Int) (w : World) (h : w.ownsRow base 90 2 v l.length (fl l)) (hs : (keys l).Pairwise (· < ·)) (hb : l.length ≤ 1000)
    (hk0 : 0 ≤ k) (hk1 : k ≤ 1000) (hkk : ∀ a ∈ l, 0 ≤ a.1 ∧ a.1 ≤ 1000) :
    Calls Try.prog 38 #[v, .int .i64 k, .func (.func 78) #[] #[]] w fun e w' => e = .returned (.tuple #[.int .i64 (rank (keys l) k), .bool (decide (k ∈ keys l))]) ∧ Below w.heap.size w w' := by
  have HS := Aside0.mk hs
  have HC := Aside0.mk h
  have HK := Aside0.mk hkk
  have hrl := rank_le (keys l) k
  rw [keys_length] at hrl
  have HKL := Aside0.mk (keys_length l)
  have hv : ∃ A c, v = .slice A l.length c := own_slice h
  obtain ⟨A, c, rfl⟩ := hv
  clear hs h hkk
  go_enter Try.func38, Try.ntmps38
  go_wp2
  go_loopw [9, 10] (fun i j wr => ∃ a b : Nat, i = .int .i64 a ∧ j = .int .i64 b ∧ a ≤ rank (keys l) k ∧ rank (keys l) k ≤ b ∧ b ≤ l.length ∧ Below w.heap.size w wr) (fun i j _ => (intOf j - intOf i).toNat)
  case atStart => exact ⟨0, l.length, rfl, rfl, Nat.zero_le _, hrl, Nat.le_refl _, Below.refl _ _⟩
  case round =>
    obtain ⟨a, b, rfl, rfl, h1, h2, h3, hbl⟩ := hrel
    have HBL := Aside0.mk hbl
    clear hbl
    by_cases hab : a < b
    · obtain ⟨h, hh⟩ : ∃ h : Nat, ((a : Int) + (b : Int)) / 2 = (h : Int) := ⟨(a + b) / 2, by omega⟩
      have hh1 : a ≤ h := by omega
      have hh2 : h < b := by omega
      have hlt : h < l.length := by omega
      obtain ⟨g, cap, hv, hgw, hlc, hc1, hc2⟩ := fl_cells HC.out h hlt
      injection hv with e1 e2 e3
      subst e1 e3
      have hr := rank_lt HS.out k h (by rw [HKL.out]; exact hlt)
      have hge : (keys l)[h]'(by rw [HKL.out]; exact hlt) = l[h].1 := by simp [keys]
      rw [hge] at hr
      have hx := HK.out l[h] (List.getElem_mem _)
      rw [← HBL.out.cell (p := ⟨g, h * 2, none⟩) hgw] at hc1
      rw [← HBL.out.cell (p := ⟨g, h * 2 + 1, none⟩) hgw] at hc2
      have HR := Aside0.mk hr
      clear hr hge
      generalize l[h].1 = x at HR hc1 hx
      generalize l[h].2 = y at hc2
      obtain ⟨hx0, hx1⟩ := hx
      by_cases hx : x < k
      · have hx' : decide (x - k < 0) = true := by simp; omega
        go_wp2_with (go_at_call 78; refine (cmp78_any _ _ _ _ hx0 hx1 hk0 hk1).mono ?_; rintro e w' ⟨rfl, rfl⟩)
        go_roundw
        case rel => exact ⟨h + 1, b, by go_num, rfl, HR.out.1 hx, h2, h3, HBL.out.alloc HBL.out.size _⟩
        case measure => simp [intOf]; omega
      · have hx' : decide (x - k < 0) = false := by simp; omega
        go_wp2_with (go_at_call 78; refine (cmp78_any _ _ _ _ hx0 hx1 hk0 hk1).mono ?_; rintro e w' ⟨rfl, rfl⟩)
        go_roundw
        case rel => exact ⟨a, h, rfl, rfl, h1, by have := HR.out; omega, by omega, HBL.out.alloc HBL.out.size _⟩
        case measure => simp [intOf]; omega
    · have hab' : a = rank (keys l) k := by omega
      have hm := rank_mem HS.out k
      by_cases hlt : a < l.length
      · obtain ⟨g, cap, hv, hgw, hlc, hc1, hc2⟩ := fl_cells HC.out a hlt
        injection hv with e1 e2 e3
        subst e1 e3
        have hlt' : a < (keys l).length := by rw [HKL.out]; exact hlt
        have hge : (keys l)[a]'hlt' = l[a].1 := by simp [keys]
        have hm' : k ∈ keys l ↔ l[a].1 = k := by rw [hm, ← hge]; subst hab'; exact ⟨fun ⟨_, e⟩ => e, fun e => ⟨hlt', e⟩⟩
        have hx := HK.out l[a] (List.getElem_mem _)
        rw [← HBL.out.cell (p := ⟨g, a * 2, none⟩) hgw] at hc1
        rw [← HBL.out.cell (p := ⟨g, a * 2 + 1, none⟩) hgw] at hc2
        have HM := Aside0.mk hm'
        have HA := Aside0.mk hab'
        clear hm hm' hge hab'
        generalize l[a].1 = x at HM hc1 hx
        generalize l[a].2 = y at hc2
        obtain ⟨hx0, hx1⟩ := hx
        have hd : decide (k ∈ keys l) = decide (x = k) := by simp [HM.out]
        have HD := Aside0.mk hd
        clear hd
        by_cases hx : x = k
        · have hx' : ((x - k) == 0) = true := by simp; omega
          have HX := Aside0.mk hx
          clear hx
          go_wp2_with (go_at_call 78; refine (cmp78_any _ _ _ _ hx0 hx1 hk0 hk1).mono ?_; rintro e w' ⟨rfl, rfl⟩)
          go_ret2
          exact ⟨by rw [HD.out, ← HA.out]; simp [HX.out], HBL.out.alloc HBL.out.size _⟩
        · have hx' : ((x - k) == 0) = false := by simp; omega
          have HX := Aside0.mk hx
          clear hx
          go_wp2_with (go_at_call 78; refine (cmp78_any _ _ _ _ hx0 hx1 hk0 hk1).mono ?_; rintro e w' ⟨rfl, rfl⟩)
          go_ret2
          exact ⟨by rw [HD.out, ← HA.out]; simp [HX.out], HBL.out.alloc HBL.out.size _⟩
      · have hd : decide (k ∈ keys l) = false := by
          rw [decide_eq_false_iff_not, hm]; rintro ⟨h, _⟩; rw [HKL.out] at h; omega
        have HD := Aside0.mk hd
        have HA := Aside0.mk hab'
        clear hd hm hab'
        go_wp2
        go_ret2
        exact ⟨by rw [HD.out, ← HA.out]; rfl, HBL.out⟩
end Go.Proofs.Ytlokbaljkmblaaa
