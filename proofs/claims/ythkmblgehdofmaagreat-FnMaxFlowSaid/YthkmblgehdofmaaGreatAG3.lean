import Derived.Test.YthkmblgehdofmaaGreatAG2
import Derived.Test.YthkmblgehdofmaaGreatAG1
import Derived.BigRegion
import Derived.BigQuiet
import Derived.Deep.QuietTactic
import Derived.Laws.OwnMore
import Derived.Test.YthkmblgehdofmaaGreatAG0
set_option linter.unusedVariables false
set_option linter.unusedSimpArgs false
/- Weight of a directed plain graph. -/
namespace Go.Proofs.YthkmblgehdofmaaGreat.R
open Go.RowKit Go.Lab Go.Maps Go.Proofs.YthkmblgehdofmaaGreatW.PrintWords Go.Proofs.YthkmblgehdofmaaGreatW.PrintLast Go.Proofs.YthkmblgehdofmaaGreatW.PrintMore PL
set_option maxHeartbeats 400000 in
theorem cmp78_any (x k : Int) (y : Nat) (w : World) (h0 : 0 ≤ x) (h1 : x ≤ 1000) (h2 : 0 ≤ k) (h3 : k ≤ 1000) :
    Calls Tryz.prog 161 #[.agg #[.int .i64 x, .float .f64 y], .int .i64 k] w fun e w' => e = .returned (.int .i64 (x - k)) ∧ w.alloc (.cells #[.int .i64 x, .float .f64 y] 85) = w' := by
  go_enter Tryz.func161, Tryz.ntmps161
  go_wp2
  go_ret
  exact ⟨rfl, rfl⟩

set_option maxHeartbeats 2000000 in
set_option maxRecDepth 100000 in
theorem bsf78_any (base : Nat) (v : Value) (l : List (Int × Nat)) (k : Int) (w : World) (h : w.ownsRow base 85 2 v l.length (fl l)) (hs : (keys l).Pairwise (· < ·)) (hb : l.length ≤ 1000)
    (hk0 : 0 ≤ k) (hk1 : k ≤ 1000) (hkk : ∀ a ∈ l, 0 ≤ a.1 ∧ a.1 ≤ 1000) :
    Calls Tryz.prog 119 #[v, .int .i64 k, .func (.func 161) #[] #[]] w fun e w' => e = .returned (.tuple #[.int .i64 (rank (keys l) k), .bool (decide (k ∈ keys l))]) ∧ Below w.heap.size w w' := by
  have HS := Aside0.mk hs
  have HC := Aside0.mk h
  have HK := Aside0.mk hkk
  have hrl := rank_le (keys l) k
  rw [keys_length] at hrl
  have HKL := Aside0.mk (keys_length l)
  have hv : ∃ A c, v = .slice A l.length c := own_slice h
  obtain ⟨A, c, rfl⟩ := hv
  clear hs h hkk
  go_enter Tryz.func119, Tryz.ntmps119
  go_wp2
  go_loopw [9, 10] (fun i j wr => ∃ a b : Nat, i = .int .i64 a ∧ j = .int .i64 b ∧ a ≤ rank (keys l) k ∧ rank (keys l) k ≤ b ∧ b ≤ l.length ∧ Below w.heap.size w wr) (fun i j _ => (intOf j - intOf i).toNat)
  case atStart => exact ⟨0, l.length, rfl, rfl, Nat.zero_le _, hrl, Nat.le_refl _, Below.refl _ _⟩
  case round =>
    obtain ⟨a, b, rfl, rfl, h1, h2, h3, hbl⟩ := hrel
    have HBL := Aside0.mk hbl
    clear hbl
    by_cases hab : a < b
    · obtain ⟨h, hh⟩ : ∃ h : Nat, ((a : Int) + (b : Int)) / 2 = (h : Int) := ⟨(a + b) / 2, by omega⟩
      have hh1 : a ≤ h := by omega
      have hh2 : h < b := by omega
      have hlt : h < l.length := by omega
      obtain ⟨g, cap, hv, hgw, hlc, hc1, hc2⟩ := fl_cells HC.out h hlt
      injection hv with e1 e2 e3
      subst e1 e3
      have hr := rank_lt HS.out k h (by rw [HKL.out]; exact hlt)
      have hge : (keys l)[h]'(by rw [HKL.out]; exact hlt) = l[h].1 := by simp [keys]
      rw [hge] at hr
      have hx := HK.out l[h] (List.getElem_mem _)
      rw [← HBL.out.cell (p := ⟨g, h * 2, none⟩) hgw] at hc1
      rw [← HBL.out.cell (p := ⟨g, h * 2 + 1, none⟩) hgw] at hc2
      have HR := Aside0.mk hr
      clear hr hge
      generalize l[h].1 = x at HR hc1 hx
      generalize l[h].2 = y at hc2
      obtain ⟨hx0, hx1⟩ := hx
      by_cases hx : x < k
      · have hx' : decide (x - k < 0) = true := by simp; omega
        go_wp2_with (go_at_call 161; refine (cmp78_any _ _ _ _ hx0 hx1 hk0 hk1).mono ?_; rintro e w' ⟨rfl, rfl⟩)
        go_roundw
        case rel => exact ⟨h + 1, b, by go_num, rfl, HR.out.1 hx, h2, h3, HBL.out.alloc HBL.out.size _⟩
        case measure => simp [intOf]; omega
      · have hx' : decide (x - k < 0) = false := by simp; omega
        go_wp2_with (go_at_call 161; refine (cmp78_any _ _ _ _ hx0 hx1 hk0 hk1).mono ?_; rintro e w' ⟨rfl, rfl⟩)
        go_roundw
        case rel => exact ⟨a, h, rfl, rfl, h1, by have := HR.out; omega, by omega, HBL.out.alloc HBL.out.size _⟩
        case measure => simp [intOf]; omega
    · have hab' : a = rank (keys l) k := by omega
      have hm := rank_mem HS.out k
      by_cases hlt : a < l.length
      · obtain ⟨g, cap, hv, hgw, hlc, hc1, hc2⟩ := fl_cells HC.out a hlt
        injection hv with e1 e2 e3
        subst e1 e3
        have hlt' : a < (keys l).length := by rw [HKL.out]; exact hlt
        have hge : (keys l)[a]'hlt' = l[a].1 := by simp [keys]
        have hm' : k ∈ keys l ↔ l[a].1 = k := by rw [hm, ← hge]; subst hab'; exact ⟨fun ⟨_, e⟩ => e, fun e => ⟨hlt', e⟩⟩
        have hx := HK.out l[a] (List.getElem_mem _)
        rw [← HBL.out.cell (p := ⟨g, a * 2, none⟩) hgw] at hc1
        rw [← HBL.out.cell (p := ⟨g, a * 2 + 1, none⟩) hgw] at hc2
        have HM := Aside0.mk hm'
        have HA := Aside0.mk hab'
        clear hm hm' hge hab'
        generalize l[a].1 = x at HM hc1 hx
        generalize l[a].2 = y at hc2
        obtain ⟨hx0, hx1⟩ := hx
        have hd : decide (k ∈ keys l) = decide (x = k) := by simp [HM.out]
        have HD := Aside0.mk hd
        clear hd
        by_cases hx : x = k
        · have hx' : ((x - k) == 0) = true := by simp; omega
          have HX := Aside0.mk hx
          clear hx
          go_wp2_with (go_at_call 161; refine (cmp78_any _ _ _ _ hx0 hx1 hk0 hk1).mono ?_; rintro e w' ⟨rfl, rfl⟩)
          go_ret2
          exact ⟨by rw [HD.out, ← HA.out]; simp [HX.out], HBL.out.alloc HBL.out.size _⟩
        · have hx' : ((x - k) == 0) = false := by simp; omega
          have HX := Aside0.mk hx
          clear hx
          go_wp2_with (go_at_call 161; refine (cmp78_any _ _ _ _ hx0 hx1 hk0 hk1).mono ?_; rintro e w' ⟨rfl, rfl⟩)
          go_ret2
          exact ⟨by rw [HD.out, ← HA.out]; simp [HX.out], HBL.out.alloc HBL.out.size _⟩
      · have hd : decide (k ∈ keys l) = false := by
          rw [decide_eq_false_iff_not, hm]; rintro ⟨h, _⟩; rw [HKL.out] at h; omega
        have HD := Aside0.mk hd
        have HA := Aside0.mk hab'
        clear hd hm hab'
        go_wp2
        go_ret2
        exact ⟨by rw [HD.out, ← HA.out]; rfl, HBL.out⟩
def arcV : Option (Int × Nat) → Value
  | some a => .tuple #[.agg #[.int .i64 a.1, .float .f64 a.2], .bool true]
  | none => .tuple #[.agg #[.int .i64 0, .float .f64 0], .bool false]

theorem find_none {p : Pl} {u v : Int} (h : ¬ (u ∈ p.ids ∧ v ∈ p.ids ∧ ((rank p.ids v : Nat) : Int) ∈ keys (p.row u))) : p.find u v = none := by unfold Pl.find; rw [if_neg h]

set_option maxHeartbeats 2000000 in
set_option maxRecDepth 100000 in
theorem find_out (base bp : Nat) (p : Pl) (u v : Int) (w : World) (h : PlOk w base bp p) (hs : p.ids.Pairwise (· < ·)) (hg : p.Good) (hm : ¬ (u ∈ p.ids ∧ v ∈ p.ids)) :
    Calls Tryz.prog 160 #[.pointer (some ⟨bp, 0, none⟩), .int .i64 u, .int .i64 v] w fun e w' => e = .returned (arcV (p.find u v)) ∧ Below w.heap.size w w' := by
  have hf := find_none (p := p) (u := u) (v := v) (fun hh => hm ⟨hh.1, hh.2.1⟩)
  rw [hf]
  have HW := Aside0.mk (h.below ((Below.refl _ _).alloc (Nat.le_refl _) (.cells #[.int .i64 0, .float .f64 0] 85)))
  have HS := Aside0.mk hs
  have hn := hg.n
  have HM := Aside0.mk hm
  by_cases hu : decide (u ∈ p.ids) = true
  · have hv : decide (v ∈ p.ids) = false := decide_eq_false (fun hv => hm ⟨of_decide_eq_true hu, hv⟩)
    clear h hs hg hm hf
    go_enter Tryz.func160, Tryz.ntmps160
    go_wp2_with (go_at_call 50; refine (pl_index base bp p _ _ HW.out HS.out hn).mono ?_; rintro e' w' ⟨rfl, rfl⟩)
    exact bodyPost_ret (v := arcV none) (by simp [results, Tryz.results160, go_sem, arcV]) rfl ⟨rfl, (Below.refl _ _).alloc (Nat.le_refl _) _⟩
  · have hu' : decide (u ∈ p.ids) = false := by simpa using hu
    clear h hs hg hm hf hu
    go_enter Tryz.func160, Tryz.ntmps160
    go_wp2_with (go_at_call 50; refine (pl_index base bp p _ _ HW.out HS.out hn).mono ?_; rintro e' w' ⟨rfl, rfl⟩)
    all_goals exact bodyPost_ret (v := arcV none) (by simp [results, Tryz.results160, go_sem, arcV]) rfl ⟨rfl, (Below.refl _ _).alloc (Nat.le_refl _) _⟩

theorem res_cells {w w1 : World} {x y : Value} (h : Below (w.alloc (.cells #[x, y] 85)).heap.size (w.alloc (.cells #[x, y] 85)) w1) :
    w1.cell? ⟨w.heap.size, 0, none⟩ = some x ∧ w1.cell? ⟨w.heap.size, 1, none⟩ = some y ∧ w1.frozen? ⟨w.heap.size, 0, none⟩ = false ∧ w1.frozen? ⟨w.heap.size, 1, none⟩ = false := by
  have hh : w1.heap[w.heap.size]? = some (.cells #[x, y] 85 (0, 0)) := (h.block _ (by simp)).trans (heap_alloc_new _ _)
  exact ⟨by rw [blk_cell hh]; rfl, by rw [blk_cell hh]; rfl, blk_frozen hh _, blk_frozen hh _⟩

set_option maxHeartbeats 4000000 in
set_option maxRecDepth 100000 in
theorem find_in (base bp : Nat) (p : Pl) (u v : Int) (w : World) (h : PlOk w base bp p) (hs : p.ids.Pairwise (· < ·)) (hg : p.Good) (hmu : u ∈ p.ids) (hmv : v ∈ p.ids) :
    Calls Tryz.prog 160 #[.pointer (some ⟨bp, 0, none⟩), .int .i64 u, .int .i64 v] w fun e w' => e = .returned (arcV (p.find u v)) ∧ Below w.heap.size w w' := by
  have hn := hg.n
  have hu : decide (u ∈ p.ids) = true := decide_eq_true hmu
  have hv : decide (v ∈ p.ids) = true := decide_eq_true hmv
  have hru := ((rank_mem hs u).1 hmu).1
  have hrv := ((rank_mem hs v).1 hmv).1
  have hb1 : Below w.heap.size w (w.alloc (.cells #[.int .i64 0, .float .f64 0] 85)) := (Below.refl _ _).alloc (Nat.le_refl _) _
  have HW := Aside0.mk (h.below hb1)
  have HS := Aside0.mk hs
  obtain ⟨ro, ri, vi, vx, g, cap, hi', hp, c1, c2, c3, l1, l2, l3, l4⟩ := HW.out.open_out (rank p.ids u) hru
  obtain ⟨i, hi⟩ : ∃ i, i = rank p.ids u := ⟨_, rfl⟩
  obtain ⟨k, hk⟩ : ∃ k, k = rank p.ids v := ⟨_, rfl⟩
  have hrow := hp.rows.rowA (rank p.ids u) hi'
  have hl : p.out.getD (rank p.ids u) [] = p.row u := rfl
  rw [hl] at hrow
  have hgr : GoodRow p.ids.length (p.row u) := hg.out _
  obtain ⟨r, hr⟩ : ∃ r, r = ro[rank p.ids u] := ⟨_, rfl⟩
  rw [← hr] at c2 hrow
  rw [← hi] at c2 hru
  rw [← hk] at hrv
  have hii : (i : Int) < (ro.length : Int) := by omega
  have HI := Aside0.mk hi
  have HK := Aside0.mk hk
  have HGR := Aside0.mk hgr
  have hlr := hgr.len
  have HROW := Aside0.mk hrow
  have hkb : (k : Int) ≤ 1000 := by omega
  by_cases hmem : ((k : Nat) : Int) ∈ keys (p.row u)
  · have hd : decide (((k : Nat) : Int) ∈ keys (p.row u)) = true := decide_eq_true hmem
    obtain ⟨hq, he⟩ := (rank_mem hgr.1 _).1 hmem
    rw [keys_length] at hq
    have hfind : p.find u v = some (p.row u)[rank (keys (p.row u)) (k : Int)] := by
      unfold Pl.find
      rw [if_pos ⟨hmu, hmv, by rw [← hk]; exact hmem⟩, ← hk, List.getElem?_eq_getElem hq]
    rw [hfind]
    obtain ⟨g2, cap2, hr2, hgl2, hcap2, hc4, hc5⟩ := fl_cells hrow _ hq
    obtain ⟨q, hqq⟩ : ∃ q, q = rank (keys (p.row u)) (k : Int) := ⟨_, rfl⟩
    generalize (p.row u)[rank (keys (p.row u)) (k : Int)] = a at hc4 hc5
    rw [← hqq] at hc4 hc5 hq
    have HQ := Aside0.mk hqq
    clear hp hrow hgr hr hi hk hmem he hfind hs hg hmu hmv hl h hb1 hqq
    subst hr2
    go_enter Tryz.func160, Tryz.ntmps160
    go_wp2_with (first | (go_at_call 50; refine (pl_index base bp p _ _ HW.out HS.out hn).mono ?_; rintro e' w' ⟨rfl, rfl⟩; (try rw [← HI.out]); (try rw [← HK.out])) | (go_at_call 119; refine (bsf78_any base _ (p.row u) k _ HROW.out HGR.out.1 (by omega) (by omega) hkb (HGR.out.bounds hn)).mono ?_; rintro e' w1 ⟨rfl, hbel⟩; rw [hd, ← HQ.out]; have HBEL := Aside0.mk hbel; rw [← hbel.cell (p := ⟨bp, 1, none⟩) l1] at c1; rw [← hbel.cell (p := ⟨g, i, none⟩) l2] at c2; rw [← hbel.cell (p := ⟨g2, q * 2, none⟩) hgl2] at hc4; rw [← hbel.cell (p := ⟨g2, q * 2 + 1, none⟩) hgl2] at hc5; obtain ⟨z0, z1, z2, z3⟩ := res_cells hbel; clear hbel))
    refine bodyPost_ret (v := arcV (some a)) ?_ rfl ⟨rfl, ?_⟩
    · simp [results, Tryz.results160, go_sem, arcV, z0, z1]
    · exact ((((Below.refl _ _).alloc (Nat.le_refl _) _).trans (HBEL.out.mono (by simp))).setCell (by simp) _).setCell (by simp) _
  · have hd : decide (((k : Nat) : Int) ∈ keys (p.row u)) = false := decide_eq_false hmem
    have hfind := find_none (p := p) (u := u) (v := v) (fun hh => hmem (by rw [hk]; exact hh.2.2))
    rw [hfind]
    clear hp hrow hgr hr hi hk hmem hfind hs hg hmu hmv hl h hb1
    go_enter Tryz.func160, Tryz.ntmps160
    go_wp2_with (first | (go_at_call 50; refine (pl_index base bp p _ _ HW.out HS.out hn).mono ?_; rintro e' w' ⟨rfl, rfl⟩; (try rw [← HI.out]); (try rw [← HK.out])) | (go_at_call 119; refine (bsf78_any base _ (p.row u) k _ HROW.out HGR.out.1 (by omega) (by omega) hkb (HGR.out.bounds hn)).mono ?_; rintro e' w1 ⟨rfl, hbel⟩; rw [hd]; have HBEL := Aside0.mk hbel; obtain ⟨z0, z1, z2, z3⟩ := res_cells hbel; clear hbel))
    refine bodyPost_ret (v := arcV none) ?_ rfl ⟨rfl, ?_⟩
    · simp [results, Tryz.results160, go_sem, arcV, z0, z1]
    · exact ((((Below.refl _ _).alloc (Nat.le_refl _) _).trans (HBEL.out.mono (by simp))).setCell (by simp) _).setCell (by simp) _

/-- (*plain).find -/
theorem find_any (base bp : Nat) (p : Pl) (u v : Int) (w : World) (h : PlOk w base bp p) (hs : p.ids.Pairwise (· < ·)) (hg : p.Good) :
    Calls Tryz.prog 160 #[.pointer (some ⟨bp, 0, none⟩), .int .i64 u, .int .i64 v] w fun e w' => e = .returned (arcV (p.find u v)) ∧ Below w.heap.size w w' := by
  by_cases hm : u ∈ p.ids ∧ v ∈ p.ids
  · exact find_in base bp p u v w h hs hg hm.1 hm.2
  · exact find_out base bp p u v w h hs hg hm

theorem frombits (b : Int) (w : World) : ∃ z, (callFunc 97 #[.int .u64 b]).run Tryz.prog w = .ok (.value (.float .f64 z)) w := by
  rw [run_callFunc_extern Tryz.func97 (by kernel_rfl) (by kernel_rfl) (by kernel_rfl) (e := Extern.MathFloatBits.float64frombits) (by kernel_rfl)]
  exact ⟨_, rfl⟩

set_option maxHeartbeats 1000000 in
theorem inf_any (w : World) : Calls Tryz.prog 72 #[.int .i64 1] w fun e w' => ∃ z, e = .returned (.float .f64 z) ∧ w = w' := by
  obtain ⟨z, hz⟩ := frombits 9218868437227405312 w
  go_enter Tryz.func72, Tryz.ntmps72
  go_wp2
  go_ret
  exact ⟨z, rfl, rfl⟩

/-- the weight told where there is an arc; else any number, and false -/
def WtOk (f : Option (Int × Nat)) (x : Nat) (ok : Bool) : Prop := ok = f.isSome ∧ ∀ a, f = some a → x = a.2

set_option maxHeartbeats 2000000 in
theorem weight_any (base bp : Nat) (p : Pl) (u v : Int) (huv : u ≠ v) (w : World) (h : PlOk w base bp p) (hs : p.ids.Pairwise (· < ·)) (hg : p.Good) :
    Calls Tryz.prog 158 #[.pointer (some ⟨bp, 0, none⟩), .int .i64 u, .int .i64 v] w fun e w' => ∃ x ok, e = .returned (.tuple #[.float .f64 x, .bool ok]) ∧ WtOk (p.find u v) x ok ∧ Below w.heap.size w w' := by
  have HP := Aside0.mk h
  have HS := Aside0.mk hs
  have HG := Aside0.mk hg
  obtain ⟨f, hf⟩ : ∃ f, f = p.find u v := ⟨_, rfl⟩
  have HFF := Aside0.mk hf
  have hq : (u == v) = false := by simpa using huv
  clear h hs hg
  rw [← hf]
  clear hf huv
  cases f with
  | none =>
    go_enter Tryz.func158, Tryz.ntmps158
    go_wp2_with (first
      | (go_at_call 160; refine (find_any base bp p u v _ HP.out HS.out HG.out).mono ?_; rintro e w1 ⟨rfl, hbel⟩; rw [← HFF.out]; unfold arcV; have HB := Aside0.mk hbel; clear hbel)
      | (go_at_call 72; refine (inf_any _).mono ?_; rintro e w2 ⟨z, rfl, rfl⟩))
    go_ret2
    exact ⟨z, false, rfl, ⟨rfl, fun a ha => by cases ha⟩, HB.out.alloc HB.out.size _⟩
  | some a =>
    go_enter Tryz.func158, Tryz.ntmps158
    go_wp2_with (go_at_call 160; refine (find_any base bp p u v _ HP.out HS.out HG.out).mono ?_; rintro e w1 ⟨rfl, hbel⟩; rw [← HFF.out]; unfold arcV; have HB := Aside0.mk hbel; clear hbel)
    go_ret2
    exact ⟨a.2, true, rfl, ⟨rfl, fun b hb => by injection hb with hb; subst hb; rfl⟩, HB.out.alloc HB.out.size _⟩

set_option maxHeartbeats 2000000 in
theorem weightD_any (base bp : Nat) (p : Pl) (u v : Int) (huv : u ≠ v) (w : World) (h : PlOk w base bp p) (hs : p.ids.Pairwise (· < ·)) (hg : p.Good) :
    Calls Tryz.prog 153 #[.agg #[.pointer (some ⟨bp, 0, none⟩)], .int .i64 u, .int .i64 v] w fun e w' => ∃ x ok, e = .returned (.tuple #[.float .f64 x, .bool ok]) ∧ WtOk (p.find u v) x ok ∧ Below w.heap.size w w' := by
  have hb1 : Below w.heap.size w (w.alloc (.cells #[.pointer (some ⟨bp, 0, none⟩)] 70)) := (Below.refl _ _).alloc (Nat.le_refl _) _
  have HP := Aside0.mk (h.below hb1)
  have HS := Aside0.mk hs
  have HG := Aside0.mk hg
  clear h hs hg
  go_enter Tryz.func153, Tryz.ntmps153
  go_wp2_with (go_at_call 158; refine (weight_any base bp p u v huv _ HP.out HS.out HG.out).mono ?_; rintro e w1 ⟨x, ok, rfl, hx, hbel⟩; have HX := Aside0.mk hx; have HB := Aside0.mk hbel; clear hbel hx)
  go_ret2
  exact ⟨x, ok, rfl, HX.out, hb1.trans (HB.out.mono (by simp))⟩
end Go.Proofs.YthkmblgehdofmaaGreat.R

/- Infinity, the absolute value, and whether two whole numbers are the same. -/
namespace Go.Proofs.YthkmblgehdofmaaGreat.R
open Go.RowKit Go.Lab Go.Maps Go.Flow Go.Proofs.FLN Go.Proofs.YthkmblgehdofmaaGreatW.PrintWords Go.Proofs.YthkmblgehdofmaaGreatW.PrintLast Go.Proofs.YthkmblgehdofmaaGreatW.PrintMore PL

def infW : Nat := 9218868437227405312
theorem frombits0 (b : Int) (w : World) : (callFunc 97 #[.int .u64 b]).run Tryz.prog w = .ok (.value (.float .f64 b.toNat)) w := by
  rw [run_callFunc_extern Tryz.func97 (by kernel_rfl) (by kernel_rfl) (by kernel_rfl) (e := Extern.MathFloatBits.float64frombits) (by kernel_rfl)]
  rfl
theorem bits0 (x : Nat) (w : World) : (callFunc 98 #[.float .f64 x]).run Tryz.prog w = .ok (.value (.int .u64 x)) w := by
  rw [run_callFunc_extern Tryz.func98 (by kernel_rfl) (by kernel_rfl) (by kernel_rfl) (e := Extern.MathFloatBits.float64bits) (by kernel_rfl)]
  rfl
set_option maxHeartbeats 1000000 in
theorem inf0_any (w : World) : Calls Tryz.prog 72 #[.int .i64 0] w fun e w' => e = .returned (.float .f64 infW) ∧ w' = w := by
  have hz := frombits0 9218868437227405312 w
  go_enter Tryz.func72, Tryz.ntmps72
  go_wp2
  go_ret
  exact ⟨rfl, rfl⟩
theorem order_inf (n : Int) (h : n.natAbs < 9007199254740992) : FloatKind.f64.format.order (FLN.fl n) infW = some .lt := by
  obtain ⟨s, hs, e⟩ := decode_fl n h
  have e' : Ieee.double.read (FLN.fl n) = _ := e
  have hi : Ieee.double.read infW = .infinity false := by decide +kernel
  show (Ieee.double.read (FLN.fl n)).order (Ieee.double.read infW) = _
  rw [e', hi]
  rfl
theorem fl_lt (n : Int) (h0 : 0 ≤ n) (h : n.natAbs < 9007199254740992) : FLN.fl n < 9223372036854775808 := by
  by_cases e : n = 0
  · subst e; rw [fl_zero]; decide
  · have hd : decide (n < 0) = false := decide_eq_false (by omega)
    rw [fl_eq, nat_exact _ _ (by omega) h, hd]
    show rungOf n.natAbs < _
    unfold rungOf
    obtain ⟨h1, _, h2⟩ := kept_bounds (M := n.natAbs) (by omega) h
    generalize n.natAbs * 2 ^ (52 - n.natAbs.log2) = y at *
    generalize n.natAbs.log2 = z at *
    omega
theorem clear_top (x : Nat) (h : x < 9223372036854775808) : bits .andNot .u64 (x : Int) 9223372036854775808 = (x : Int) := by
  have e : (BitVec.ofInt 64 (x : Int) &&& ~~~ BitVec.ofInt 64 9223372036854775808).toNat = x := by
    rw [BitVec.toNat_and, BitVec.toNat_not]
    have h1 : (BitVec.ofInt 64 (x : Int)).toNat = x := by rw [BitVec.toNat_ofInt]; omega
    have h2 : (2 ^ 64 - 1 - (BitVec.ofInt 64 9223372036854775808).toNat) = 2 ^ 63 - 1 := by decide
    rw [h1, h2, Nat.and_two_pow_sub_one_eq_mod, Nat.mod_eq_of_lt (by omega)]
  show IntKind.u64.wrap ((BitVec.ofInt 64 (x : Int) &&& ~~~ BitVec.ofInt 64 9223372036854775808).toNat : Int) = _
  rw [e]
  simp [IntKind.wrap, IntKind.bits, IntKind.signed]
  omega
set_option maxHeartbeats 1000000 in
set_option maxRecDepth 100000 in
theorem abs_any (n : Int) (h0 : 0 ≤ n) (h : n.natAbs < 9007199254740992) (w : World) : Calls Tryz.prog 74 #[.float .f64 (FLN.fl n)] w fun e w' => e = .returned (.float .f64 (FLN.fl n)) ∧ w' = w := by
  have hl := fl_lt n h0 h
  generalize FLN.fl n = x at *
  have h1 := bits0 x w
  have h2 : (callFunc 97 #[.int .u64 (bits .andNot .u64 (x : Int) 9223372036854775808)]).run Tryz.prog w = .ok (.value (.float .f64 x)) w := by
    rw [clear_top x hl]; exact frombits0 (x : Int) w
  go_enter Tryz.func74, Tryz.ntmps74
  go_wp2_with fail
  go_ret
  exact ⟨rfl, rfl⟩
theorem run_sub_fl (a b : Int) (ha : a.natAbs < 9007199254740992) (hb : b.natAbs < 9007199254740992) (hab : (a - b).natAbs < 9007199254740992) (h0 : ¬ (a < 0 ∧ 0 ≤ b)) (w : World) :
    (binOp .sub 67 (.float .f64 (FLN.fl a)) (.float .f64 (FLN.fl b))).run Tryz.prog w = .ok (.float .f64 (FLN.fl (a - b))) w :=
  run_float_arith w .sub 67 .f64 _ _ _ (sub_fl a b ha hb hab h0)
theorem run_add_fl (a b : Int) (ha : a.natAbs < 9007199254740992) (hb : b.natAbs < 9007199254740992) (hab : (a + b).natAbs < 9007199254740992) (w : World) :
    (binOp .add 67 (.float .f64 (FLN.fl a)) (.float .f64 (FLN.fl b))).run Tryz.prog w = .ok (.float .f64 (FLN.fl (a + b))) w :=
  run_float_arith w .add 67 .f64 _ _ _ (add_fl a b ha hb hab)
set_option maxHeartbeats 1000000 in
set_option maxRecDepth 100000 in
theorem same_any (n : Int) (h0 : 0 < n) (h : n.natAbs < 9007199254740992) (w : World) : Calls Tryz.prog 54 #[.float .f64 (FLN.fl n), .float .f64 0, .float .f64 0] w fun e w' => e = .returned (.bool false) ∧ Below w.heap.size w w' := by
  have ho := order_fl n 0 h (by decide)
  rw [fl_zero, cmp_gt h0] at ho
  have hs := run_sub_fl n 0 h (by decide) (by simpa using h) (by omega)
  rw [fl_zero, Int.sub_zero] at hs
  have HA := Aside0.mk (fun w => abs_any n (Int.le_of_lt h0) h w)
  generalize FLN.fl n = x at *
  go_enter Tryz.func54, Tryz.ntmps54
  go_wp2_with (go_at_call 74; refine (HA.out _).mono ?_; rintro e w1 ⟨rfl, rfl⟩)
  go_ret
  exact ⟨rfl, Below.refl _ _⟩
end Go.Proofs.YthkmblgehdofmaaGreat.R

/- A graph that was read, by its arcs. -/
namespace Go.Proofs.YthkmblgehdofmaaGreat.R
open Go.RowKit Go.Lab Go.Maps Go.Proofs.YthkmblgehdofmaaGreatW.PrintWords Go.Proofs.YthkmblgehdofmaaGreatW.PrintLast Go.Proofs.YthkmblgehdofmaaGreatW.PrintMore PL

theorem snoc_ind {α : Type} {P : List α → Prop} (l : List α) (h0 : P []) (h1 : ∀ l a, P l → P (l ++ [a])) : P l := by
  rw [← List.reverse_reverse l]
  generalize l.reverse = m
  induction m with
  | nil => exact h0
  | cons a m ih => rw [List.reverse_cons]; exact h1 _ _ ih
theorem arcW_mem {es : List S29} {u v n : Int} (h : arcW es u v = some n) : ∃ e ∈ es, e.f0 = u ∧ e.f1 = v ∧ e.f2 = n := by
  revert h
  refine snoc_ind (P := fun es => arcW es u v = some n → ∃ e ∈ es, e.f0 = u ∧ e.f1 = v ∧ e.f2 = n) es (fun h => by cases h) fun es e ih h => ?_
  rw [arcW_snoc] at h
  split at h
  · rename_i hc
    injection h with h
    exact ⟨e, by simp, hc.1, hc.2, h⟩
  · obtain ⟨e', h1, h2⟩ := ih h
    exact ⟨e', by simp [h1], h2⟩
theorem arcW_some {es : List S29} {u v : Int} : (arcW es u v).isSome = true ↔ ∃ e ∈ es, e.f0 = u ∧ e.f1 = v := by
  constructor
  · intro h
    obtain ⟨n, hn⟩ := Option.isSome_iff_exists.1 h
    obtain ⟨e, h1, h2, h3, _⟩ := arcW_mem hn
    exact ⟨e, h1, h2, h3⟩
  · rintro ⟨e, h1, h2, h3⟩
    revert h1
    refine snoc_ind (P := fun es => e ∈ es → (arcW es u v).isSome = true) es (fun h => by cases h) fun es e' ih h1 => ?_
    rw [arcW_snoc]
    split
    · rfl
    · rename_i hc
      rw [List.mem_append, List.mem_singleton] at h1
      rcases h1 with h1 | rfl
      · exact ih h1
      · exact absurd ⟨h2, h3⟩ hc
theorem pl0_adj (zs : List Int) : Adj zs [] (pl0 (srt zs)) := by
  have hr : ∀ i, (List.replicate (srt zs).length ([] : List (Int × Nat))).getD i [] = [] := by
    intro i
    rw [List.getD_eq_getElem?_getD, List.getElem?_replicate]; split <;> rfl
  refine ⟨rfl, by simp [pl0], by simp [pl0], ?_, ?_⟩
  all_goals
    intro i hi a
    unfold pl0
    rw [hr]
    constructor
    · intro h; cases h
    · rintro ⟨k, n, _, _, hn⟩; cases hn
theorem plOf_adj (zs : List Int) (hz : zs.length ≤ 1000) (h : (srt zs).Pairwise (· < ·)) (es : List S29) (he : es.all (goodE zs) = true) : Adj zs es (plOf true zs es) := by
  revert he
  refine snoc_ind (P := fun es => es.all (goodE zs) = true → Adj zs es (plOf true zs es)) es (fun _ => pl0_adj zs) fun es e ih he => ?_
  rw [List.all_append, Bool.and_eq_true] at he
  have he2 : goodE zs e = true := by simpa using he.2
  rw [plOf_snoc]
  unfold goodE at he2
  simp only [Bool.and_eq_true, decide_eq_true_eq] at he2
  exact (ih he.1).step (plOf_good true zs hz h es he.1) h e ((mem_srt _ _).2 he2.1.1.1.1) ((mem_srt _ _).2 he2.1.1.1.2)
theorem dbl_good {zs : List Int} (d : Bool) {es : List S29} (h : es.all (goodE zs) = true) : (dbl d es).all (goodE zs) = true := by
  unfold dbl
  split
  · exact h
  · rw [List.all_eq_true] at h ⊢
    intro e he
    obtain ⟨a, ha, hm⟩ := List.mem_flatMap.1 he
    have hg := h a ha
    rcases List.mem_cons.1 hm with rfl | hm
    · exact hg
    · rw [List.mem_singleton] at hm
      subst hm
      unfold goodE at hg ⊢
      simp only [Bool.and_eq_true, decide_eq_true_eq, Bool.not_eq_true', decide_eq_false_iff_not] at hg ⊢
      obtain ⟨⟨⟨⟨h1, h2⟩, h3⟩, h4⟩, h5⟩ := hg
      exact ⟨⟨⟨⟨h2, h1⟩, fun e => h3 e.symm⟩, h4⟩, h5⟩
theorem plOf_dbl (d : Bool) (zs : List Int) (es : List S29) : plOf d zs es = plOf true zs (dbl d es) := by
  cases d with
  | true => rfl
  | false =>
    unfold plOf dbl
    rw [if_neg (by decide)]
    suffices h : ∀ (es : List S29) (p : Pl), es.foldl (layE false) p = (es.flatMap fun e => [e, ⟨e.f1, e.f0, e.f2⟩]).foldl (layE true) p from h es _
    intro es
    induction es with
    | nil => intro p; rfl
    | cons e es ih =>
      intro p
      rw [List.foldl_cons, List.flatMap_cons, List.foldl_append, ih]
      congr 1
theorem GrOk.mk' {w w' : World} {d : Bool} {zs : List Int} {es : List S29} {base bp : Nat} (hn : zs.length ≤ 1000) (hro : readOk zs es = true) (hpl : PlOk w' base bp (plOf d zs es)) : GrOk w' base bp zs (dbl d es) (plOf d zs es) := by
  unfold readOk at hro
  simp only [Bool.and_eq_true, decide_eq_true_eq] at hro
  refine ⟨hpl, plOf_good d zs hn hro.1 es hro.2, ?_, hro.1, hn⟩
  rw [plOf_dbl]
  exact plOf_adj zs hn hro.1 _ (dbl_good d hro.2)

end Go.Proofs.YthkmblgehdofmaaGreat.R

/- Whether a plain graph has a negative weight: not one that has none. -/
namespace Go.Proofs.YthkmblgehdofmaaGreat.R
open Go.RowKit Go.Lab Go.Maps Go.Flow Go.Proofs.FLN Go.Proofs.YthkmblgehdofmaaGreatW.PrintWords Go.Proofs.YthkmblgehdofmaaGreatW.PrintLast Go.Proofs.YthkmblgehdofmaaGreatW.PrintMore PL

theorem own_max {w : World} {base : Nat} {e : TypeId} {size n : Nat} {v : Value} {xs : List Value} (h : w.ownsRow base e size v n xs) : n ≤ maxLen := by
  rcases h.2 with ⟨_, e2⟩ | ⟨g', cap, cu, _, _, _, h1, h2, _⟩
  · omega
  · omega
theorem wrap_step {j k : Nat} (h : j < k) (hk : k ≤ maxLen) : wrap64 ((j : Int) + 1) = (j : Int) + 1 := by
  unfold maxLen at hk
  unfold wrap64
  omega
set_option maxHeartbeats 4000000 in
set_option maxRecDepth 100000 in
theorem negative_any (base bp : Nat) (p : Pl) (w : World) (h : PlOk w base bp p) (hn : ∀ i, ∀ a ∈ p.out.getD i [], ∃ o, FloatKind.f64.format.order a.2 0 = some o ∧ o ≠ .lt) :
    Calls Tryz.prog 33 #[.pointer (some ⟨bp, 0, none⟩)] w fun e w' => e = .returned (.bool false) ∧ Below w.heap.size w w' := by
  obtain ⟨ro, ri, vi, vo, vn, hp⟩ := h
  have HP := Aside0.mk hp
  have c1 : w.cell? ⟨bp, 1, none⟩ = some vo := by rw [blk_cell hp.blk]; rfl
  obtain ⟨VO, cO, hvo⟩ := own_slice hp.rows.a
  subst hvo
  obtain ⟨m, hm⟩ : ∃ m, ro.length = m := ⟨_, rfl⟩
  rw [hm] at c1
  have HN := Aside0.mk (And.intro hn hm)
  clear hp hn
  go_enter Tryz.func33, Tryz.ntmps33
  go_wp2_with fail
  go_loopw [12] (fun v12 wr => ∃ i : Nat, v12 = .int .i64 (i : Int) ∧ i ≤ m ∧ Aside0 (Below w.heap.size w wr)) (fun v12 _ => m - (intOf v12).toNat)
  case atStart => exact ⟨0, rfl, Nat.zero_le _, ⟨Below.refl _ _⟩⟩
  case round =>
    obtain ⟨i, rfl, hi, hrel⟩ := hrel
    by_cases hlt : i < m
    · have hir : i < ro.length := by rw [HN.out.2]; exact hlt
      obtain ⟨gO, cO', hvv, hcm, hcl, _⟩ := own_cells HP.out.rows.a (by omega)
      simp only [Value.slice.injEq] at hvv
      obtain ⟨rfl, -, rfl⟩ := hvv
      have hrow := HP.out.rows.rowA i hir
      obtain ⟨l, hl⟩ : ∃ l, p.out.getD i [] = l := ⟨_, rfl⟩
      rw [hl] at hrow
      have HL := Aside0.mk (show ∀ a ∈ l, ∃ o, FloatKind.f64.format.order a.2 0 = some o ∧ o ≠ .lt from hl ▸ HN.out.1 i)
      obtain ⟨B, cB, hB⟩ := own_slice hrow
      have hgl : gO < w.heap.size := by have := hcl i ro[i] (List.getElem?_eq_getElem hir); exact World.block_lt_of_cell? w _ this
      have k1 : wr.cell? ⟨gO, i, none⟩ = some (.slice B l.length cB) := (hrel.out.cell (p := ⟨gO, i, none⟩) hgl).trans (by rw [hcl i ro[i] (List.getElem?_eq_getElem hir), hB])
      rw [hB] at hrow
      have HROW := Aside0.mk hrow
      have hmm := Aside0.mk (show m ≤ maxLen from by have := own_max HP.out.rows.a; omega)
      obtain ⟨k, hk⟩ : ∃ k, l.length = k := ⟨_, rfl⟩
      rw [hk] at k1
      clear hcl hrow hB hl hcm
      go_wp2_with fail
      have HB0 := hrel
      clear hrel
      go_loopw [18] (fun v18 wr => ∃ j : Nat, v18 = .int .i64 (j : Int) ∧ j ≤ k ∧ Aside0 (Below w.heap.size w wr)) (fun v18 _ => k - (intOf v18).toNat)
      case atStart => exact ⟨0, rfl, Nat.zero_le _, HB0⟩
      case round =>
        obtain ⟨j, rfl, hj, hrel⟩ := hrel
        by_cases hjk : j < k
        · obtain ⟨g, cap, hve, hgl2, hcap, hc0, hc1⟩ := fl_cells HROW.out j (by omega)
          injection hve with e1 _ e3
          subst e1 e3
          obtain ⟨o, ho, hol⟩ := HL.out _ (List.getElem_mem (show j < l.length by omega))
          replace hc0 := (hrel.out.cell (p := ⟨g, j * 2, none⟩) hgl2).trans hc0
          replace hc1 := (hrel.out.cell (p := ⟨g, j * 2 + 1, none⟩) hgl2).trans hc1
          generalize l[j].1 = x at hc0
          generalize l[j].2 = y at hc1 ho
          have HB1 := Aside0.mk (hrel.out.alloc hrel.out.size (.cells #[.int .i64 x, .float .f64 y] 85))
          have hkm := Aside0.mk (show k ≤ maxLen from by have := own_max HROW.out; omega)
          cases o with
          | lt => exact absurd rfl hol
          | eq =>
            go_wp2_with fail
            go_roundw
            case rel => exact ⟨j + 1, by rw [wrap_step hjk hkm.out, Int.natCast_succ], by omega, HB1⟩
            case measure => rw [wrap_step hjk hkm.out]; simp only [intOf]; omega
          | gt =>
            go_wp2_with fail
            go_roundw
            case rel => exact ⟨j + 1, by rw [wrap_step hjk hkm.out, Int.natCast_succ], by omega, HB1⟩
            case measure => rw [wrap_step hjk hkm.out]; simp only [intOf]; omega
        · have hjn : ¬ (j : Int) < (k : Int) := by omega
          go_wp2_with fail
          go_roundw
          case rel => exact ⟨i + 1, by rw [wrap_step hlt hmm.out, Int.natCast_succ], by omega, hrel⟩
          case measure => rw [wrap_step hlt hmm.out]; simp only [intOf]; omega
    · have hin : ¬ (i : Int) < (m : Int) := by omega
      go_wp2_with fail
      go_ret
      exact ⟨rfl, hrel.out⟩
end Go.Proofs.YthkmblgehdofmaaGreat.R

/- A queue of nodes. -/
namespace Go.Proofs.YthkmblgehdofmaaGreat.R
open Go.RowKit Go.Lab Go.Maps Go.Proofs.YthkmblgehdofmaaGreatW.PrintWords Go.Proofs.YthkmblgehdofmaaGreatW.PrintLast Go.Proofs.YthkmblgehdofmaaGreatW.PrintMore PL

/-- a walk's object in block gd with its queue -/
structure Que (lo : Nat) (w : World) (gd : Nat) (st : Value) (jk : List Value) (xs : List Int) : Prop where
  blk : w.heap[gd]? = some (.cells #[.int .i64 (jk.length : Int), st] 121 (0, 0))
  own : w.ownsRow lo 89 1 st (jk.length + xs.length) (jk ++ nodeVs xs)
  ne : xs = [] → jk = []
theorem Que.apart {lo : Nat} {w : World} {gd : Nat} {st : Value} {jk : List Value} {xs : List Int} (h : Que lo w gd st jk xs) : st.ownBlock ≠ some gd := fun e => by
  obtain ⟨c, hc⟩ := own_block h.own e
  exact absurd (blk_type h.blk hc) (by decide)
theorem Que.stay {lo : Nat} {w w1 : World} {gd : Nat} {st : Value} {jk : List Value} {xs : List Int} (h : Que lo w gd st jk xs) (h1 : w1.heap[gd]? = w.heap[gd]?) (h2 : ∀ k, st.ownBlock = some k → w1.heap[k]? = w.heap[k]?) : Que lo w1 gd st jk xs :=
  ⟨h1.trans h.blk, own_of_heap h.own h2, h.ne⟩
/-- which blocks a step of the queue turns -/
def QM (gd : Nat) (st : Value) (k : Nat) : Prop := k = gd ∨ st.ownBlock = some k

set_option maxHeartbeats 1000000 in
theorem qlen0_any (lo gd : Nat) (st : Value) (jk : List Value) (xs : List Int) (w : World) (hb : w.heap[gd]? = some (.cells #[.int .i64 (jk.length : Int), st] 121 (0, 0))) (ho : w.ownsRow lo 89 1 st (jk.length + xs.length) (jk ++ nodeVs xs)) (hn : jk.length + xs.length ≤ 10000000) :
    Calls Tryz.prog 69 #[.pointer (some ⟨gd, 0, none⟩)] w fun e w' => e = .returned (.int .i64 xs.length) ∧ Below w.heap.size w w' := by
  obtain ⟨A, c, rfl⟩ := own_slice ho
  have h3 : w.cell? ⟨gd, 1, none⟩ = some (.slice A (jk.length + xs.length) c) := (blk_cell hb 1).trans rfl
  have h2 : w.cell? ⟨gd, 0, none⟩ = some (.int .i64 (jk.length : Int)) := (blk_cell hb 0).trans rfl
  clear hb ho
  have HE := Aside0.mk (show (jk.length : Int) + (xs.length : Int) - (jk.length : Int) = (xs.length : Int) by omega)
  go_enter Tryz.func69, Tryz.ntmps69
  go_wp2
  go_region
  all_goals
    go_wp2
    go_ret
    exact ⟨by show Ending.returned (.int .i64 ((jk.length : Int) + (xs.length : Int) - (jk.length : Int))) = _; rw [HE.out], by repeat (first | exact Below.refl _ _ | apply below_drew1 | apply pw_below_drewN)⟩
theorem qlen_any (lo gd : Nat) (st : Value) (jk : List Value) (xs : List Int) (w : World) (h : Que lo w gd st jk xs) (hn : jk.length + xs.length ≤ 10000000) :
    Calls Tryz.prog 69 #[.pointer (some ⟨gd, 0, none⟩)] w fun e w' => e = .returned (.int .i64 xs.length) ∧ Below w.heap.size w w' :=
  qlen0_any lo gd st jk xs w h.blk h.own hn

theorem Que.put {lo : Nat} {w : World} {gd : Nat} {hd st st' : Value} {jk : List Value} {ys : List Int} (h : w.heap[gd]? = some (.cells #[hd, st] 121 (0, 0))) (hh : hd = .int .i64 (jk.length : Int)) (ho : w.ownsRow lo 89 1 st' (jk.length + ys.length) (jk ++ nodeVs ys)) (hne : st'.ownBlock ≠ some gd) (he : ys = [] → jk = []) : Que lo (w.setCell ⟨gd, 1, none⟩ st') gd st' jk ys := by
  subst hh
  exact ⟨blk_put (cs := #[.int .i64 (jk.length : Int), st]) h 1 _ rfl, own_of_heap ho fun k hk => Below.heap_setCell _ _ _ _ (fun e => hne (by rw [hk, e])), he⟩

/-- the queue's row, its end moved to its beginning -/
theorem own_moved {w w1 : World} {lo g n c : Nat} {cur : List Value} {jk : List Value} {xs : List Int} (h : w.ownsRow lo 89 1 (.slice (some ⟨g, 0, none⟩) n c) n (jk ++ nodeVs xs)) (hcur : w.heap[g]? = some (.cells cur.toArray 89 (0, 0)))
    (h1 : w1.heap[g]? = some (.cells (splice cur 0 (nodeVs xs)).toArray 89 (0, 0))) : w1.ownsRow lo 89 1 (.slice (some ⟨g, 0, none⟩) xs.length c) xs.length (nodeVs xs) := by
  have hl := h.1
  rw [List.length_append, nodeVs_len] at hl
  rcases h.2 with ⟨hv, _⟩ | ⟨g', cap, cu, hv, hb, hg, hn, hc, hs, ht⟩
  · cases hv
  · simp only [Value.slice.injEq, Option.some.injEq, Addr.mk.injEq] at hv
    obtain ⟨⟨rfl, _⟩, _, rfl⟩ := hv
    rw [hcur] at hg
    simp only [Option.some.injEq, Obj.cells.injEq] at hg
    obtain ⟨rfl, _⟩ := hg
    simp only [List.size_toArray] at hs
    refine ⟨by rw [nodeVs_len]; omega, .inr ⟨g, c, _, rfl, hb, h1, by omega, hc, ?_, ?_⟩⟩
    · simp only [splice, List.size_toArray, List.length_append, List.length_take, List.length_drop, nodeVs_len]; omega
    · simp only [splice, List.take_zero, List.nil_append]
      rw [show xs.length * 1 = (nodeVs xs).length by rw [nodeVs_len]; omega]
      exact List.take_left

theorem grown_drewN (w : World) (n : Nat) (row : Option Nat) : w.grownBy (w.drewN n) row := ⟨rfl, rfl, rfl, Nat.le_refl _, fun _ _ _ => rfl⟩
theorem own_drewN {w : World} {base : Nat} {e : TypeId} {size n : Nat} {v : Value} {xs : List Value} (h : w.ownsRow base e size v n xs) (k : Nat) : (w.drewN k).ownsRow base e size v n xs := h

set_option maxHeartbeats 2000000 in
set_option maxRecDepth 100000 in
theorem enq_plain (lo gd : Nat) (A : Option Addr) (c : Nat) (jk : List Value) (xs : List Int) (x : Int) (b1 b2 : Bool) (w : World) (h : Que lo w gd (.slice A (jk.length + xs.length) c) jk xs) (hn : jk.length + xs.length ≤ 10000000) (hlo : lo ≤ w.heap.size)
    (hb1 : ((jk.length : Int) + (xs.length : Int) == (c : Int)) = b1) (hb2 : decide (0 < jk.length) = b2) (hb : (b1 && b2) = false) (hj : jk ≠ [] → xs ≠ []) :
    Calls Tryz.prog 68 #[.pointer (some ⟨gd, 0, none⟩), .iface 71 (.int .i64 x)] w fun e w' => e = .returned (.tuple #[]) ∧ ∃ st' jk', Que lo w' gd st' jk' (xs ++ [x]) ∧ jk'.length ≤ jk.length ∧ KeepF (QM gd (.slice A (jk.length + xs.length) c)) w w' ∧ (st'.ownBlock = (Value.slice A (jk.length + xs.length) c).ownBlock ∨ ∃ q, st'.ownBlock = some q ∧ w.heap.size ≤ q) := by
  have h3 : w.cell? ⟨gd, 1, none⟩ = some (.slice A (jk.length + xs.length) c) := (blk_cell h.blk 1).trans rfl
  have h2 : w.cell? ⟨gd, 0, none⟩ = some (.int .i64 (jk.length : Int)) := (blk_cell h.blk 0).trans rfl
  have hf := blk_frozen h.blk 1
  have HB := Aside0.mk h
  have hgl := blk_lt h.blk
  obtain ⟨i0, hi, hz0, hz1, hz2⟩ := info_parts Tryz.info89
  have HI := Aside0.mk (And.intro hi (And.intro hz0 (And.intro hz1 hz2)))
  have HL := Aside0.mk (show (jk ++ nodeVs xs).length = jk.length + xs.length by rw [List.length_append, nodeVs_len])
  clear h hi hz0 hz1 hz2
  cases b1 <;> cases b2 <;> first | (exact absurd hb (by decide)) | skip
  all_goals
    clear hb
    go_enter Tryz.func68, Tryz.ntmps68
    go_wp2
    go_quiet (fail)
    go_wp2_with (at_builtin; refine wpList_append_own_at _ rfl _ _ 119 rfl lo 89 i0 .nilIface 1 16 Tryz.underlying119 HI.out.1 HI.out.2.1 HI.out.2.2.1 HI.out.2.2.2 rfl (by decide) _ (jk.length + xs.length) (jk ++ nodeVs xs) rfl (World.ownsRow.alloc (own_drewN HB.out.own nq) _) ⟨w.heap.size, 0, none⟩ 1 1 [.iface 71 (.int .i64 x)] rfl rfl (cell_one_new (w.drewN nq) _ _) (by intro u hu; simp at hu; subst hu; rfl) (by unfold maxLen; omega) (by omega) (by simp; omega) ?_; intro v' w1 hown hgr _ hat; have HOW := Aside0.mk (And.intro hown (And.intro hgr hat)); clear hown hgr hat; obtain ⟨A', c', hv'⟩ := own_slice HOW.out.1; subst hv'; have hg0 := ((grown_drewN w nq (Value.slice A (jk.length + xs.length) c).ownBlock).trans (World.grownBy_alloc (w.drewN nq) (.cells #[.iface 71 (.int .i64 x)] 89) (Value.slice A (jk.length + xs.length) c).ownBlock)).trans HOW.out.2.1; have HG := Aside0.mk hg0; have hblk := (hg0.block gd hgl (fun e => HB.out.apart e.symm)).trans HB.out.blk; have hc2 : w1.cell? ⟨gd, 1, none⟩ = some (.slice A (jk.length + xs.length) c) := (blk_cell hblk 1).trans rfl; have hf2 := blk_frozen hblk 1; have HBL := Aside0.mk hblk; clear hg0 hblk)
    go_end0
    have hne : (Value.slice A' (jk.length + xs.length + 1) c').ownBlock ≠ some gd := fun e => by
      obtain ⟨cc, hcc⟩ := own_block HOW.out.1 e
      exact absurd (blk_type HBL.out hcc) (by decide)
    refine ⟨rfl, _, jk, Que.put HBL.out rfl ?_ hne (fun e => by simp at e), Nat.le_refl _, ?_, ?_⟩
    · rw [nodeVs_append, ← List.append_assoc, List.length_append]; exact HOW.out.1
    · exact (KeepF.of_grown HG.out (fun k hk => .inr hk)).trans (KeepF.of_grown (grown_set _ _ _ _) (fun k hk => .inl (Option.some.inj hk).symm))
    · exact HOW.out.2.2.imp id (fun h => ⟨_, h, by simp⟩)

theorem Que.facts {lo : Nat} {w : World} {gd : Nat} {st : Value} {jk : List Value} {u : Int} {q : List Int} (h : Que lo w gd st jk (u :: q)) :
    ∃ g c, st = .slice (some ⟨g, 0, none⟩) (jk.length + (q.length + 1)) c ∧ jk.length + (q.length + 1) ≤ c ∧ w.cell? ⟨gd, 0, none⟩ = some (.int .i64 (jk.length : Int)) ∧ w.cell? ⟨gd, 1, none⟩ = some (.slice (some ⟨g, 0, none⟩) (jk.length + (q.length + 1)) c) ∧
      w.frozen? ⟨gd, 0, none⟩ = false ∧ w.frozen? ⟨gd, 1, none⟩ = false ∧ w.cell? ⟨g, jk.length, none⟩ = some (.iface 71 (.int .i64 u)) ∧ w.frozen? ⟨g, jk.length, none⟩ = false ∧ g ≠ gd := by
  have hl : (u :: q).length = q.length + 1 := rfl
  obtain ⟨g, c, rfl, hc, hcell, cur, hcur⟩ := own_cells h.own (by rw [hl]; omega)
  have hne := h.apart
  refine ⟨g, c, by rw [hl], by rw [hl] at hc; exact hc, (blk_cell h.blk 0).trans rfl, (blk_cell h.blk 1).trans (by rw [hl]; rfl), blk_frozen h.blk 0, blk_frozen h.blk 1, hcell jk.length _ ?_, blk_frozen hcur _, fun e => hne (by rw [← e]; rfl)⟩
  rw [List.getElem?_append_right (Nat.le_refl _), Nat.sub_self]; rfl

theorem Que.deq {lo : Nat} {w : World} {gd g c : Nat} {st : Value} {jk : List Value} {u : Int} {q : List Int} (h : Que lo w gd st jk (u :: q)) (hst : st = .slice (some ⟨g, 0, none⟩) (jk.length + (q.length + 1)) c) (hne : g ≠ gd) :
    ((w.setCell ⟨g, jk.length, none⟩ .nilIface).setCell ⟨gd, 0, none⟩ (.int .i64 ((jk.length : Int) + 1))).drew.heap[gd]? = some (.cells #[.int .i64 ((jk ++ [Value.nilIface]).length : Int), st] 121 (0, 0)) ∧
    ((w.setCell ⟨g, jk.length, none⟩ .nilIface).setCell ⟨gd, 0, none⟩ (.int .i64 ((jk.length : Int) + 1))).drew.ownsRow lo 89 1 st ((jk ++ [Value.nilIface]).length + q.length) ((jk ++ [Value.nilIface]) ++ nodeVs q) ∧
    KeepF (QM gd st) w ((w.setCell ⟨g, jk.length, none⟩ .nilIface).setCell ⟨gd, 0, none⟩ (.int .i64 ((jk.length : Int) + 1))).drew := by
  have hb1 : (w.setCell ⟨g, jk.length, none⟩ .nilIface).heap[gd]? = some (.cells #[.int .i64 (jk.length : Int), st] 121 (0, 0)) := (Below.heap_setCell _ _ _ _ (fun e => hne e.symm)).trans h.blk
  refine ⟨?_, ?_, ?_⟩
  · have := blk_put (cs := #[.int .i64 (jk.length : Int), st]) hb1 0 (.int .i64 ((jk.length : Int) + 1)) rfl
    rw [List.length_append, List.length_singleton]
    exact this
  · have ho := h.own
    subst hst
    have hl : (jk ++ [Value.nilIface]).length + q.length = jk.length + (u :: q).length := by simp; omega
    rw [hl]
    have hs := (World.ownsRow.stored ho jk.length .nilIface).1
    have e : (jk ++ nodeVs (u :: q)).set jk.length .nilIface = (jk ++ [Value.nilIface]) ++ nodeVs q := by
      rw [List.set_append_right _ _ (Nat.le_refl _), Nat.sub_self]
      show jk ++ (nodeV u :: nodeVs q).set 0 .nilIface = _
      rw [List.set_cons_zero, List.append_assoc]; rfl
    rw [e] at hs
    exact own_of_heap hs fun k hk => Below.heap_setCell _ _ _ _ (fun e => by
      have := Option.some.inj hk
      exact hne (this.trans e))
  · refine (KeepF.of_grown (grown_set w g jk.length .nilIface) (fun k hk => .inr ?_)).trans ((KeepF.of_grown (grown_set _ gd 0 _) (fun k hk => .inl (Option.some.inj hk).symm)).trans (KeepF.of_grown (grownBy_drew _ none) (fun k hk => by cases hk)))
    rw [hst, ← Option.some.inj hk]; rfl

set_option maxHeartbeats 4000000 in
set_option maxRecDepth 100000 in
theorem deq_any (lo gd : Nat) (st : Value) (jk : List Value) (q : List Int) (u : Int) (w : World) (h : Que lo w gd st jk (u :: q)) (hn : jk.length + (u :: q).length ≤ 10000000) :
    Calls Tryz.prog 70 #[.pointer (some ⟨gd, 0, none⟩)] w fun e w' => e = .returned (.iface 71 (.int .i64 u)) ∧ ∃ st' jk', Que lo w' gd st' jk' q ∧ jk'.length ≤ jk.length + 1 ∧ st'.ownBlock = st.ownBlock ∧ KeepF (QM gd st) w w' := by
  have HQ := Aside0.mk h
  have hlen : ((u :: q).length : Int) = (q.length : Int) + 1 := by simp
  have HN := Aside0.mk hlen
  have HK := Aside0.mk hn
  have hn' : jk.length + (q.length + 1) ≤ 10000000 := hn
  have HK2 := Aside0.mk (show (jk ++ [Value.nilIface]).length + q.length ≤ 10000000 by simp; omega)
  clear h hlen hn
  have hcase : q = [] ∨ ((q.length : Int) == 0) = false := by
    cases q with
    | nil => exact .inl rfl
    | cons a q => right; rw [beq_eq_false_iff_ne]; simp; omega
  go_enter Tryz.func70, Tryz.ntmps70
  go_wp2_with (go_at_call 69; refine (qlen_any lo gd st jk (u :: q) _ HQ.out HK.out).mono ?_; rintro e w1 ⟨rfl, hb1⟩; rw [HN.out]; have HB1 := Aside0.mk hb1; have HQ1 := Aside0.mk (HQ.out.stay (hb1.block _ (blk_lt HQ.out.blk)) (fun k hk => hb1.block k (by obtain ⟨c, hc⟩ := own_block HQ.out.own hk; exact blk_lt hc))); clear hb1)
  obtain ⟨g, c, hst, hc, h2, h3, f2, f3, hu, fu, hne⟩ := HQ1.out.facts
  have HDQ := Aside0.mk (HQ1.out.deq hst hne)
  have HST := Aside0.mk hst
  clear hst
  have b1 : (0 : Int) ≤ (jk.length : Int) := by omega
  have b2 : (jk.length : Int) < ((jk.length + (q.length + 1) : Nat) : Int) := by omega
  have b3 : (jk.length : Int) < (jk.length : Int) + ((q.length : Int) + 1) := by omega
  have HCA := Aside0.mk hcase
  clear hcase
  go_region
  all_goals
    go_wp2_with fail
    refine (qlen0_any lo gd st (jk ++ [.nilIface]) q _ HDQ.out.1 HDQ.out.2.1 HK2.out).mono ?_
    rintro e w2 ⟨rfl, hb2⟩
    have HB2 := Aside0.mk hb2
    have hblk := (hb2.block _ (blk_lt HDQ.out.1)).trans HDQ.out.1
    have HBL := Aside0.mk hblk
    have HOW := Aside0.mk (own_of_heap HDQ.out.2.1 (fun k hk => hb2.block k (by obtain ⟨c, hc⟩ := own_block HDQ.out.2.1 hk; exact blk_lt hc)))
    have HKP := Aside0.mk ((KeepF.of_below (M := QM gd st) HB1.out).trans (HDQ.out.2.2.trans (KeepF.of_below hb2)))
    have h3' : w2.cell? ⟨gd, 1, none⟩ = some (.slice (some ⟨g, 0, none⟩) (jk.length + (q.length + 1)) c) := by rw [← HST.out]; exact (blk_cell hblk 1).trans rfl
    have h2' : w2.cell? ⟨gd, 0, none⟩ = some (.int .i64 ((jk ++ [Value.nilIface]).length : Int)) := (blk_cell hblk 0).trans rfl
    have f2' := blk_frozen hblk 0
    have f3' := blk_frozen hblk 1
    have HNE := Aside0.mk hne
    clear hb2 hblk h2 h3 f2 f3 hu fu b1 b2 b3 hne
    rcases HCA.out with hq | hq
    · subst hq
      rw [show (([] : List Int).length : Int) = 0 from rfl]
      go_wp2
      go_ret
      refine ⟨rfl, .slice (some ⟨g, 0, none⟩) 0 c, [], ?_, by simp, by rw [HST.out]; rfl, ?_⟩
      · have hcut := own_cut (m := 0) (by have := HOW.out; rw [HST.out, show (jk ++ [Value.nilIface]).length + ([] : List Int).length = jk.length + (([] : List Int).length + 1) by simp] at this; exact this) (by omega)
        refine Que.put (st := st) (jk := []) (hd := .int .i64 0) (blk_put (cs := #[.int .i64 ((jk ++ [Value.nilIface]).length : Int), st]) HBL.out 0 _ rfl) rfl ?_ (fun e => HNE.out (Option.some.inj e)) (fun _ => rfl)
        exact own_of_heap hcut fun k hk => Below.heap_setCell _ _ _ _ (fun e => HNE.out ((Option.some.inj hk).trans e))
      · exact (HKP.out.trans (KeepF.of_grown (grown_set _ gd 0 _) (fun k hk => .inl (Option.some.inj hk).symm))).trans (KeepF.of_grown (grown_set _ gd 1 _) (fun k hk => .inl (Option.some.inj hk).symm))
    · have HQN := Aside0.mk (show q ≠ [] from fun e => by subst e; simp at hq)
      go_wp2
      go_ret
      exact ⟨rfl, st, jk ++ [.nilIface], ⟨HBL.out, HOW.out, fun e => absurd e HQN.out⟩, by simp, rfl, HKP.out⟩
end Go.Proofs.YthkmblgehdofmaaGreat.R


/- A node is put into a queue. -/
namespace Go.Proofs.YthkmblgehdofmaaGreat.R
open Go.RowKit Go.Lab Go.Maps Go.Proofs.YthkmblgehdofmaaGreatW.PrintWords Go.Proofs.YthkmblgehdofmaaGreatW.PrintLast Go.Proofs.YthkmblgehdofmaaGreatW.PrintMore PL

theorem info105s : (Tryz.prog.info? 89).map (·.size) = some 1 := by kernel_rfl

set_option maxHeartbeats 4000000 in
set_option maxRecDepth 100000 in
theorem enq_move (lo gd : Nat) (A : Option Addr) (jk : List Value) (xs : List Int) (x : Int) (n : Nat) (w : World) (h : Que lo w gd (.slice A n n) jk xs) (hnn : n = jk.length + xs.length) (hn : jk.length + xs.length ≤ 10000000) (hlo : lo ≤ w.heap.size)
    (h1 : 0 < jk.length) (h2 : 0 < xs.length) :
    Calls Tryz.prog 68 #[.pointer (some ⟨gd, 0, none⟩), .iface 71 (.int .i64 x)] w fun e w' => e = .returned (.tuple #[]) ∧ ∃ st' jk', Que lo w' gd st' jk' (xs ++ [x]) ∧ jk'.length ≤ jk.length ∧ KeepF (QM gd (.slice A n n)) w w' ∧ (st'.ownBlock = (Value.slice A n n).ownBlock ∨ ∃ q, st'.ownBlock = some q ∧ w.heap.size ≤ q) := by
  obtain ⟨g, c, hst, hc, _, cu, hcu⟩ := own_cells h.own (by omega)
  simp only [Value.slice.injEq] at hst
  have hA := hst.1
  clear hst
  subst hA
  have h3 : w.cell? ⟨gd, 1, none⟩ = some (.slice (some ⟨g, 0, none⟩) n n) := (blk_cell h.blk 1).trans rfl
  have h2' : w.cell? ⟨gd, 0, none⟩ = some (.int .i64 (jk.length : Int)) := (blk_cell h.blk 0).trans rfl
  have HB := Aside0.mk h
  have hgl := blk_lt h.blk
  have hne : g ≠ gd := fun e => h.apart (by rw [← e]; rfl)
  obtain ⟨i0, hi, hz0, hz1, hz2⟩ := info_parts Tryz.info89
  have HI := Aside0.mk (And.intro hi (And.intro hz0 (And.intro hz1 hz2)))
  have hd : decide (0 < jk.length) = true := decide_eq_true h1
  have hlt1 : (jk.length : Int) ≤ (n : Int) := by omega
  have hlt2 : jk.length ≤ n := by omega
  have hlt3 : ¬ n = jk.length := by omega
  have hlt5 : xs.length ≤ n := by omega
  have HNN := Aside0.mk hnn
  have HNE := Aside0.mk hne
  clear h hi hz0 hz1 hz2 hnn hcu hc hne
  go_enter Tryz.func68, Tryz.ntmps68
  go_wp2
  go_quiet (fail)
  go_wp2_with fail
  refine (qlen_any lo gd (.slice (some ⟨g, 0, none⟩) n n) jk xs (w.drewN nq) ⟨HB.out.blk, HB.out.own, HB.out.ne⟩ hn).mono ?_
  rintro e w1 ⟨rfl, hb1⟩
  have HB1 := Aside0.mk (show Below w.heap.size w w1 from ⟨hb1.os, hb1.tape, hb1.output, hb1.size, hb1.block⟩)
  have HQ1 := Aside0.mk (show Que lo w1 gd (.slice (some ⟨g, 0, none⟩) n n) jk xs from HB.out.stay (hb1.block _ (blk_lt HB.out.blk)) (fun k hk => hb1.block k (by obtain ⟨c, hc⟩ := own_block HB.out.own hk; exact blk_lt hc)))
  clear hb1
  have k3 : w1.cell? ⟨gd, 1, none⟩ = some (.slice (some ⟨g, 0, none⟩) n n) := (blk_cell HQ1.out.blk 1).trans rfl
  have k2 : w1.cell? ⟨gd, 0, none⟩ = some (.int .i64 (jk.length : Int)) := (blk_cell HQ1.out.blk 0).trans rfl
  obtain ⟨cu1, hcu1⟩ : ∃ cu : List Value, w1.heap[g]? = some (.cells cu.toArray 89 (0, 0)) := by
    obtain ⟨_, _, hst, _, _, cu, hcu⟩ := own_cells HQ1.out.own (by omega)
    simp only [Value.slice.injEq, Option.some.injEq, Addr.mk.injEq] at hst
    obtain ⟨⟨rfl, _⟩, _⟩ := hst
    exact ⟨cu.toList, by simpa using hcu⟩
  have HCU := Aside0.mk hcu1
  have hmin : Nat.min (jk.length + xs.length - jk.length) (jk.length + xs.length) = xs.length := by
    show min _ _ = _
    omega
  have HLN := Aside0.mk (show (nodeVs xs).length = Nat.min (n - jk.length) n * 1 by rw [nodeVs_len, HNN.out, hmin, Nat.mul_one])
  clear hmin
  have HSR := Aside0.mk (show ∀ j v, (nodeVs xs)[j]? = some v → w1.drew.cell? ((⟨g, jk.length, none⟩ : Addr).add j) = some v by
    intro j v hv
    obtain ⟨g', c', hst, _, hcell, _⟩ := own_cells HQ1.out.own (by omega)
    simp only [Value.slice.injEq, Option.some.injEq, Addr.mk.injEq] at hst
    obtain ⟨⟨rfl, _⟩, _⟩ := hst
    have ha : (⟨g, jk.length, none⟩ : Addr).add j = ⟨g, jk.length + j, none⟩ := by unfold Addr.add; split <;> simp_all
    rw [ha]
    exact hcell (jk.length + j) v (by rw [List.getElem?_append_right (by omega), Nat.add_sub_cancel_left]; exact hv))
  have HFT := Aside0.mk (show 0 + (nodeVs xs).length ≤ cu1.length by
    have := HQ1.out.own.2
    rcases this with ⟨hv, _⟩ | ⟨g', cap, cur, hv, _, hg, hn', hc', hs, _⟩
    · cases hv
    · simp only [Value.slice.injEq, Option.some.injEq, Addr.mk.injEq] at hv
      obtain ⟨⟨rfl, _⟩, _, rfl⟩ := hv
      rw [hcu1] at hg
      simp only [Option.some.injEq, Obj.cells.injEq] at hg
      obtain ⟨rfl, _⟩ := hg
      simp only [List.size_toArray] at hs
      rw [nodeVs_len]; have := HNN.out; omega)
  have HON := Aside0.mk (show ∀ v ∈ nodeVs xs, v.oneCell' = true by intro v hv; unfold nodeVs at hv; obtain ⟨y, _, rfl⟩ := List.mem_map.1 hv; rfl)
  clear hcu1 h3 h2'
  go_wp2_with fail
  go_region_law
    (refine step_copyk rfl (.tmp 28) (.tmp 37) 119 119 rfl 89 1 Tryz.underlying119 info105s g 0 n n ⟨g, jk.length, none⟩ (n - jk.length) (n - jk.length) (by rfl) (by rfl) cu1 89 (by exact HCU.out) (nodeVs xs) (by exact HLN.out) (by exact HSR.out) (by exact HFT.out) (by exact HON.out) ?_; intro w2 hg2 hgr2; have HG2 := Aside0.mk (And.intro hg2 hgr2); clear hg2 hgr2)
  all_goals
    have hblk := (HG2.out.2.block gd (blk_lt HQ1.out.blk) (fun e => HNE.out (Option.some.inj e).symm)).trans HQ1.out.blk
    have q2 : w2.cell? ⟨gd, 0, none⟩ = some (.int .i64 (jk.length : Int)) := (blk_cell hblk 0).trans rfl
    have q3 : w2.cell? ⟨gd, 1, none⟩ = some (.slice (some ⟨g, 0, none⟩) n n) := (blk_cell hblk 1).trans rfl
    have f2 := blk_frozen hblk 0
    have f3 := blk_frozen hblk 1
    have hb0 := blk_put (cs := #[.int .i64 (jk.length : Int), .slice (some ⟨g, 0, none⟩) n n]) hblk 0 (.int .i64 0) rfl
    have HB0 := Aside0.mk (show (w2.setCell ⟨gd, 0, none⟩ (.int .i64 0)).heap[gd]? = some (.cells #[.int .i64 0, .slice (some ⟨g, 0, none⟩) n n] 121 (0, 0)) from hb0)
    have HGL := Aside0.mk (show gd < (w2.setCell ⟨gd, 0, none⟩ (.int .i64 0)).heap.size from blk_lt hb0)
    have HOM := Aside0.mk (show (w2.setCell ⟨gd, 0, none⟩ (.int .i64 0)).ownsRow lo 89 1 (.slice (some ⟨g, 0, none⟩) xs.length n) xs.length (nodeVs xs) from own_of_heap (own_moved (by have := HQ1.out.own; rw [← HNN.out] at this; exact this) HCU.out HG2.out.1) fun k hk => Below.heap_setCell _ _ _ _ (fun e => HNE.out ((Option.some.inj hk).trans e)))
    have HSZ := Aside0.mk (show lo ≤ w2.heap.size from Nat.le_trans hlo (Nat.le_trans HB1.out.size HG2.out.2.size))
    clear hblk k2 k3 hb0
    go_wp2_with (at_builtin; refine wpList_append_own_at _ rfl _ _ 119 rfl lo 89 i0 .nilIface 1 16 Tryz.underlying119 HI.out.1 HI.out.2.1 HI.out.2.2.1 HI.out.2.2.2 rfl (by decide) _ xs.length (nodeVs xs) rfl (World.ownsRow.alloc HOM.out _) ⟨w2.heap.size, 0, none⟩ 1 1 [.iface 71 (.int .i64 x)] rfl rfl (by have := cell_one_new (w2.setCell ⟨gd, 0, none⟩ (.int .i64 0)) (.iface 71 (.int .i64 x)) 89; simpa using this) (by intro u hu; simp at hu; subst hu; rfl) (by unfold maxLen; omega) (by omega) (by have := HSZ.out; simp; omega) ?_; intro v' w3 hown hgr _ hat; have HOW := Aside0.mk (And.intro hown (And.intro hgr hat)); clear hown hgr hat; obtain ⟨A', c', hv'⟩ := own_slice HOW.out.1; subst hv'; have hg0 := (World.grownBy_alloc (w2.setCell ⟨gd, 0, none⟩ (.int .i64 0)) (.cells #[.iface 71 (.int .i64 x)] 89) (some g)).trans HOW.out.2.1; have HG := Aside0.mk hg0; have hblk := (hg0.block gd HGL.out (fun e => HNE.out (Option.some.inj e).symm)).trans HB0.out; have hc2 : w3.cell? ⟨gd, 1, none⟩ = some (.slice (some ⟨g, 0, none⟩) n n) := (blk_cell hblk 1).trans rfl; have hf2 := blk_frozen hblk 1; have HBL := Aside0.mk hblk; clear hg0 hblk)
    go_end0
    have hne : (Value.slice A' (xs.length + 1) c').ownBlock ≠ some gd := fun e => by
      obtain ⟨cc, hcc⟩ := own_block HOW.out.1 e
      exact absurd (blk_type HBL.out hcc) (by decide)
    refine ⟨rfl, _, [], Que.put (jk := []) HBL.out rfl ?_ hne (fun e => by simp at e), Nat.zero_le _, ?_, ?_⟩
    · rw [nodeVs_append, List.nil_append, List.length_append]
      have := HOW.out.1
      rw [show ([] : List Value).length + (xs.length + [x].length) = xs.length + 1 by simp]
      exact this
    · have k1 : KeepF (QM gd (.slice (some ⟨g, 0, none⟩) n n)) w w1 := KeepF.of_below HB1.out
      have k2 : KeepF (QM gd (.slice (some ⟨g, 0, none⟩) n n)) w1 w2 := (KeepF.of_grown (grownBy_drew w1 none) (fun k hk => by cases hk)).trans (KeepF.of_grown HG2.out.2 (fun k hk => .inr hk))
      exact (k1.trans k2).trans ((KeepF.of_grown (grown_set w2 gd 0 _) (fun k hk => .inl (Option.some.inj hk).symm)).trans ((KeepF.of_grown HG.out (fun k hk => .inr hk)).trans (KeepF.of_grown (grown_set w3 gd 1 _) (fun k hk => .inl (Option.some.inj hk).symm))))
    · refine HOW.out.2.2.imp id (fun h => ⟨_, h, ?_⟩)
      have := HB1.out.size
      have h2 := HG2.out.2.size
      simp at h2 ⊢
      omega

theorem enq_any (lo gd : Nat) (st : Value) (jk : List Value) (xs : List Int) (x : Int) (w : World) (h : Que lo w gd st jk xs) (hn : jk.length + xs.length ≤ 9999999) (hlo : lo ≤ w.heap.size) :
    Calls Tryz.prog 68 #[.pointer (some ⟨gd, 0, none⟩), .iface 71 (.int .i64 x)] w fun e w' => e = .returned (.tuple #[]) ∧ ∃ st' jk', Que lo w' gd st' jk' (xs ++ [x]) ∧ jk'.length ≤ jk.length ∧ KeepF (QM gd st) w w' ∧ (st'.ownBlock = st.ownBlock ∨ ∃ q, st'.ownBlock = some q ∧ w.heap.size ≤ q) := by
  obtain ⟨A, c, rfl⟩ := own_slice h.own
  have hj : jk ≠ [] → xs ≠ [] := fun h1 h2 => h1 (h.ne h2)
  by_cases hc : jk.length + xs.length = c ∧ 0 < jk.length
  · obtain ⟨h1, h2⟩ := hc
    have h3 : 0 < xs.length := List.length_pos_iff.2 (hj (List.length_pos_iff.1 h2))
    rw [h1] at h
    have := enq_move lo gd A jk xs x c w h h1.symm (by omega) hlo h2 h3
    rw [h1]
    exact this
  · refine enq_plain lo gd A c jk xs x _ _ w h (by omega) hlo rfl rfl ?_ hj
    rw [Bool.and_eq_false_iff]
    by_cases h1 : jk.length + xs.length = c
    · right; exact decide_eq_false (fun h2 => hc ⟨h1, h2⟩)
    · left; rw [beq_eq_false_iff_ne]; omega
end Go.Proofs.YthkmblgehdofmaaGreat.R


/- The table of parents: one row of numbers for each node, each in a block of its own. -/
namespace Go.Proofs.YthkmblgehdofmaaGreat.R
open Go.RowKit Go.Lab Go.Maps Go.Proofs.YthkmblgehdofmaaGreatW.PrintWords Go.Proofs.YthkmblgehdofmaaGreatW.PrintLast Go.Proofs.YthkmblgehdofmaaGreatW.PrintMore PL

def idV (l : List Nat) : List Value := l.map (fun (v : Nat) => Value.int .i64 (v : Int))
theorem idV_len (l : List Nat) : (idV l).length = l.length := List.length_map ..
theorem idV_append (l m : List Nat) : idV (l ++ m) = idV l ++ idV m := List.map_append
structure PT (lo : Nat) (w : World) (A : Nat) (rows : List Value) (par : List (List Nat)) : Prop where
  tab : w.heap[A]? = some (.cells rows.toArray 63 (0, 0))
  len : rows.length = par.length
  row : ∀ (i : Nat) (h : i < rows.length), w.ownsRow lo 2 1 rows[i] (par.getD i []).length (idV (par.getD i []))
  sep : ∀ (i j : Nat) (hi : i < rows.length) (hj : j < rows.length), i ≠ j → ∀ k, rows[i].ownBlock = some k → rows[j].ownBlock ≠ some k
section
variable {lo A : Nat} {w w1 : World} {rows : List Value} {par : List (List Nat)}
theorem PT.apart (h : PT lo w A rows par) {i : Nat} (hi : i < rows.length) : rows[i].ownBlock ≠ some A := fun e => by
  obtain ⟨c, hc⟩ := own_block (h.row i hi) e
  exact absurd (blk_type h.tab hc) (by decide)
/-- which blocks the table holds -/
def PB2 (A : Nat) (rows : List Value) (k : Nat) : Prop := k = A ∨ ∃ (i : Nat) (h : i < rows.length), rows[i].ownBlock = some k
theorem PT.stay (h : PT lo w A rows par) (hk : ∀ k, PB2 A rows k → w1.heap[k]? = w.heap[k]?) : PT lo w1 A rows par :=
  ⟨(hk A (.inl rfl)).trans h.tab, h.len, fun i hi => own_of_heap (h.row i hi) fun k e => hk k (.inr ⟨i, hi, e⟩), h.sep⟩
/-- one row is turned: it may lie in its elder block or in a new one -/
theorem PT.put (h : PT lo w A rows par) {i : Nat} (hi : i < rows.length) {v : Value} {l : List Nat} (hv : w1.ownsRow lo 2 1 v l.length (idV l)) (hA : w1.heap[A]? = w.heap[A]?)
    (ho : ∀ (j : Nat) (hj : j < rows.length), j ≠ i → ∀ k, rows[j].ownBlock = some k → w1.heap[k]? = w.heap[k]?)
    (hn : ∀ (j : Nat) (hj : j < rows.length), j ≠ i → ∀ k, v.ownBlock = some k → rows[j].ownBlock ≠ some k) : PT lo (w1.setCell ⟨A, i, none⟩ v) A (rows.set i v) (par.set i l) := by
  have hvA : v.ownBlock ≠ some A := fun e => by
    obtain ⟨c, hc⟩ := own_block hv e
    exact absurd (blk_type (hA.trans h.tab) hc) (by decide)
  have hip : i < par.length := by rw [← h.len]; exact hi
  refine ⟨blk_put (cs := rows.toArray) (hA.trans h.tab) i v (by rw [List.setIfInBounds_toArray]), by rw [List.length_set, List.length_set, h.len], ?_, ?_⟩
  · intro j hj
    have hj' : j < rows.length := by rwa [List.length_set] at hj
    by_cases e : i = j
    · subst e
      rw [List.getElem_set_self]
      have e2 : (par.set i l).getD i [] = l := by simp [List.getD, hip]
      rw [e2]
      exact own_of_heap hv fun k hk => Below.heap_setCell _ _ _ _ (fun e => hvA (by rw [hk, e]))
    · rw [List.getElem_set_ne e]
      have e2 : (par.set i l).getD j [] = par.getD j [] := by simp [List.getD, List.getElem?_set_ne e]
      rw [e2]
      exact own_of_heap (h.row j hj') fun k hk => (Below.heap_setCell _ _ _ _ (fun e3 => h.apart hj' (by rw [hk, e3]))).trans (ho j hj' (Ne.symm e) k hk)
  · intro a b ha hb hab k hk
    have ha' : a < rows.length := by rwa [List.length_set] at ha
    have hb' : b < rows.length := by rwa [List.length_set] at hb
    by_cases e : i = a
    · subst e
      rw [List.getElem_set_self] at hk
      rw [List.getElem_set_ne hab]
      exact hn b hb' (Ne.symm hab) k hk
    · rw [List.getElem_set_ne e] at hk
      by_cases e2 : i = b
      · subst e2
        rw [List.getElem_set_self]
        exact fun hv2 => hn a ha' (Ne.symm e) k hv2 hk
      · rw [List.getElem_set_ne e2]
        exact h.sep a b ha' hb' hab k hk
/-- a row is grown: what append lays -/
theorem PT.app (h : PT lo w A rows par) {i : Nat} (hi : i < rows.length) {v : Value} {l : List Nat} (hv : w1.ownsRow lo 2 1 v l.length (idV l)) (hg : w.grownBy w1 rows[i].ownBlock) (hb : v.ownBlock = rows[i].ownBlock ∨ ∃ k, v.ownBlock = some k ∧ w.heap.size ≤ k) :
    PT lo (w1.setCell ⟨A, i, none⟩ v) A (rows.set i v) (par.set i l) := by
  have hlt : ∀ (j : Nat) (hj : j < rows.length) (k : Nat), rows[j].ownBlock = some k → k < w.heap.size := fun j hj k hk => by
    obtain ⟨c, hc⟩ := own_block (h.row j hj) hk
    exact blk_lt hc
  refine h.put hi hv (hg.block A (blk_lt h.tab) (fun e => h.apart hi e.symm)) ?_ ?_
  · intro j hj hji k hk
    exact hg.block k (hlt j hj k hk) (fun e => h.sep i j hi hj (Ne.symm hji) k e.symm hk)
  · intro j hj hji k hk hk2
    rcases hb with e | ⟨k', e, hk'⟩
    · exact h.sep i j hi hj (Ne.symm hji) k (e.symm.trans hk) hk2
    · rw [e] at hk
      have := hlt j hj k hk2
      have := Option.some.inj hk
      omega
/-- a row is cut to nothing: its block stays -/
theorem PT.cut (h : PT lo w A rows par) {i : Nat} (hi : i < rows.length) {B : Option Addr} {n c : Nat} (hv : rows[i] = .slice B n c) :
    PT lo (w.setCell ⟨A, i, none⟩ (.slice B 0 c)) A (rows.set i (.slice B 0 c)) (par.set i []) := by
  refine h.put (l := []) hi ?_ rfl (fun _ _ _ _ _ => rfl) ?_
  · have hr := h.row i hi
    rw [hv] at hr
    refine ⟨rfl, ?_⟩
    rcases hr.2 with ⟨e, _⟩ | ⟨g, cap, cur, e, h1, h2, h3, h4, h5, h6⟩
    · cases e; exact .inl ⟨rfl, rfl⟩
    · cases e
      exact .inr ⟨g, c, cur, rfl, h1, h2, Nat.zero_le _, h4, h5, by simp [idV]⟩
  · intro j hj hji k hk
    refine h.sep i j hi hj (Ne.symm hji) k ?_
    rw [hv, ← hk]
    rcases B with _ | ⟨g, o, f⟩ <;> rfl
/-- the table as it is made: rows of nothing -/
theorem PT.new {n : Nat} (ht : w.heap[A]? = some (.cells (List.replicate n (.slice none 0 0)).toArray 63 (0, 0))) : PT lo w A (List.replicate n (.slice none 0 0)) (List.replicate n []) := by
  refine ⟨ht, by simp, ?_, ?_⟩
  · intro i hi
    rw [List.getElem_replicate]
    have e : (List.replicate n ([] : List Nat)).getD i [] = [] := by
      simp only [List.getD, List.getElem?_replicate]; split <;> rfl
    rw [e]
    exact ⟨rfl, .inl ⟨rfl, rfl⟩⟩
  · intro i j hi hj hij k hk
    rw [List.getElem_replicate] at hk
    cases hk
end
end Go.Proofs.YthkmblgehdofmaaGreat.R

/- simple.WeightedDirectedGraph: a new one, AddNode. -/
namespace Go.Proofs.YthkmblgehdofmaaGreat.R
open Go.RowKit Go.Lab Go.Maps Go.MV Go.Proofs.YthkmblgehdofmaaGreatW.PrintWords Go.Proofs.YthkmblgehdofmaaGreatW.PrintLast Go.Proofs.YthkmblgehdofmaaGreatW.PrintMore

set_option maxHeartbeats 1000000 in
theorem newSet_any (w : World) :
    Calls Tryz.prog 93 #[] w fun e w' => e = .returned (.pointer (some ⟨w.heap.size + 2, 0, none⟩)) ∧ Uid w.heap.size w' (w.heap.size + 2) w.heap.size (w.heap.size + 1) [] ∧ Below w.heap.size w w' := by
  have hmm := @run_makeMap Tryz.prog
  have hu := Tryz.underlying176
  go_enter Tryz.func93, Tryz.ntmps93
  go_wp2
  go_ret
  have e1 : (w.alloc (.map #[] 0)).heap.size = w.heap.size + 1 := by simp
  have e2 : ((w.alloc (.map #[] 0)).alloc (.map #[] 0)).heap.size = w.heap.size + 2 := by simp
  have hs2 := SetOk.made (w.alloc (.map #[] 0))
  rw [e1] at hs2
  refine ⟨rfl, ⟨⟨-1, ?_⟩, (SetOk.made w).stay ?_, hs2.stay ?_, by omega, by omega, by omega, by omega⟩, (((Below.refl _ _).alloc (Nat.le_refl _) _).alloc (by simp) _).alloc (by simp; omega) _⟩
  · rw [← e2]; exact heap_alloc_new _ _
  · rw [Below.heap_alloc _ _ _ (by omega), Below.heap_alloc _ _ _ (by omega)]
  · rw [Below.heap_alloc _ _ _ (by omega)]

theorem Uid.mono {lo lo' : Nat} {w : World} {gu gus gfr : Nat} {ns : List Int} (h : Uid lo w gu gus gfr ns) (hl : lo' ≤ lo) : Uid lo' w gu gus gfr ns := ⟨h.blk, h.used, h.free, h.ne, by have := h.lo; omega⟩
def GS.new (s gG : Nat) : GS := ⟨gG, s, s + 1, s + 2, s + 5, s + 3, s + 4, [], [], fun _ => 0, fun _ => [], fun _ _ => 0, [], fun _ => 0, fun _ => []⟩
set_option maxHeartbeats 1000000 in
set_option maxRecDepth 100000 in
theorem newG_any (a b : Nat) (w : World) :
    Calls Tryz.prog 62 #[.float .f64 a, .float .f64 b] w fun e w' => ∃ g : GS, e = .returned (.pointer (some ⟨g.gG, 0, none⟩)) ∧ SG w.heap.size w' g ∧ g.ns = [] ∧ (∀ u v, g.ed u v = none) ∧ Below w.heap.size w w' := by
  have hmm := @run_makeMap Tryz.prog
  have hu := Tryz.underlying147
  go_enter Tryz.func62, Tryz.ntmps62
  go_wp2_with (go_at_call 93; refine (newSet_any _).mono ?_; rintro e w1 ⟨rfl, hU, hb⟩; have H := Aside0.mk (And.intro hU hb); clear hU hb)
  go_ret
  obtain ⟨w3, hw3⟩ : ∃ w3, ((w.alloc (.map #[] 0)).alloc (.map #[] 0)).alloc (.map #[] 0) = w3 := ⟨_, rfl⟩
  have e1 : (w.alloc (.map #[] 0)).heap.size = w.heap.size + 1 := by simp
  have e2 : ((w.alloc (.map #[] 0)).alloc (.map #[] 0)).heap.size = w.heap.size + 2 := by simp
  have e3 : w3.heap.size = w.heap.size + 3 := by rw [← hw3]; simp
  have m1 := MapV.made (P := Tryz.prog) (k := 2) w nV
  have m2 := MapV.made (P := Tryz.prog) (k := 2) (w.alloc (.map #[] 0)) (fun u => mV ((fun _ => 0 : Int → Nat) u))
  have m3 := MapV.made (P := Tryz.prog) (k := 2) ((w.alloc (.map #[] 0)).alloc (.map #[] 0)) (fun u => mV ((fun _ => 0 : Int → Nat) u))
  rw [e1] at m2
  rw [e2] at m3
  have hb3 : Below w.heap.size w w3 := by
    rw [← hw3]
    exact (((Below.refl _ _).alloc (Nat.le_refl _) _).alloc (by omega) _).alloc (by omega) _
  have H1 := H.out
  rw [hw3, e3] at H1
  obtain ⟨hU, hb1⟩ := H1
  have hz := hb1.size
  have k0 : ∀ k, k < w.heap.size + 3 → ∀ o, (w1.alloc o).heap[k]? = w3.heap[k]? := fun k hk o => by
    rw [Below.heap_alloc _ _ _ (by omega), hb1.block k hk]
  refine ⟨GS.new w.heap.size w1.heap.size, rfl, ⟨⟨a, b, heap_alloc_new _ _⟩, Uid.mono (hU.keep (Below.heap_alloc _ _ _ (blk_lt hU.blk.choose_spec)) (Below.heap_alloc _ _ _ hU.used.lt) (Below.heap_alloc _ _ _ hU.free.lt)) (by omega), m1.stay ?_, m2.stay ?_, fun u hu => absurd hu List.not_mem_nil, m3.stay ?_, fun u hu => absurd hu List.not_mem_nil, ?_, ?_, fun u hu => absurd hu List.not_mem_nil, fun u hu => absurd hu List.not_mem_nil, fun u hu => absurd hu List.not_mem_nil, fun u hu => absurd hu List.not_mem_nil, Nat.zero_le _⟩, rfl, fun u v => if_neg (fun h => absurd h.1 List.not_mem_nil), (hb3.trans (hb1.mono (by omega))).alloc (by omega) _⟩
  · rw [k0 _ (by omega), ← hw3, Below.heap_alloc _ _ _ (by omega), Below.heap_alloc _ _ _ (by omega)]
  · show _ = ((w.alloc (.map #[] 0)).alloc (.map #[] 0)).heap[w.heap.size + 1]?
    exact (k0 _ (by omega) _).trans (by rw [← hw3, Below.heap_alloc _ _ _ (by omega)])
  · show _ = (((w.alloc (.map #[] 0)).alloc (.map #[] 0)).alloc (.map #[] 0)).heap[w.heap.size + 2]?
    exact (k0 _ (by omega) _).trans (by rw [← hw3])
  · unfold GS.new
    exact ⟨by refine ⟨?_, ?_, ?_, ?_⟩ <;> (dsimp only; omega), by refine ⟨?_, ?_, ?_⟩ <;> (dsimp only; omega), by refine ⟨?_, ?_⟩ <;> (dsimp only; omega), by dsimp only; omega, fun u hu => absurd hu List.not_mem_nil, fun u hu => absurd hu List.not_mem_nil, fun u hu => absurd hu List.not_mem_nil, fun u hu => absurd hu List.not_mem_nil, fun u hu => absurd hu List.not_mem_nil⟩
  · refine ⟨by show w.heap.size ≤ w1.heap.size; omega, fun k hk => ?_⟩
    simp [GS.maps, GS.new] at hk
    omega
end Go.Proofs.YthkmblgehdofmaaGreat.R

/- simple.WeightedDirectedGraph: AddNode. -/
namespace Go.Proofs.YthkmblgehdofmaaGreat.R
open Go.RowKit Go.Lab Go.Maps Go.MV Go.Proofs.YthkmblgehdofmaaGreatW.PrintWords Go.Proofs.YthkmblgehdofmaaGreatW.PrintLast Go.Proofs.YthkmblgehdofmaaGreatW.PrintMore

theorem SG.drew {lo : Nat} {w : World} {g : GS} (h : SG lo w g) : SG lo w.drew g := h.keep rfl rfl (fun _ _ => rfl)
set_option maxHeartbeats 2000000 in
set_option maxRecDepth 100000 in
theorem addNode_any (lo : Nat) (g : GS) (x : Int) (w : World) (h : SG lo w g) (hx : x ∉ g.ns) (wx : (Lit.int .i64 x).wf = true) (hl : g.ns.length < 1000) (hlo : lo ≤ w.heap.size) :
    Calls Tryz.prog 63 #[.pointer (some ⟨g.gG, 0, none⟩), .iface 71 (.int .i64 x)] w fun e w' => e = .returned (.tuple #[]) ∧ SG lo w' { g with ns := g.ns ++ [x] } ∧ GK lo w w' := by
  obtain ⟨z1, z2, hb⟩ := h.blk
  have c0 : w.cell? ⟨g.gG, 0, none⟩ = some (.map (some g.gn)) := (blk_cell hb 0).trans rfl
  have L1 := h.drew.nodes.look_ok Tryz.underlying2 Tryz.underlying142 (zero89 w.drew) wx
  rw [if_neg hx, decide_eq_false hx] at L1
  obtain ⟨w2, hU, hM, hG⟩ := h.drew.drew.nodes.put Tryz.underlying2 Tryz.underlying142 wx (.iface 71 (.int .i64 x)) (by omega)
  have hM' : MapV Tryz.prog 2 w2 g.gn (g.ns ++ [x]) nV := by
    have := hM.congr (f' := nV) (fun y hy => by
      by_cases e : y = x
      · subst e; rw [updV_eq]; rfl
      · rw [updV_ne e])
    unfold addK at this
    rw [if_neg hx] at this
    exact this
  have hgn : ∀ k, k < w.heap.size → k ≠ g.gn → w2.heap[k]? = w.heap[k]? := fun k hk hne => hG.block k hk (fun e => hne (Option.some.inj e))
  have hGn : g.gG ≠ g.gn := h.nodes.cells_ne hb
  obtain ⟨mx, hbu⟩ := h.uid.blk
  have hGu : g.gu ≠ g.gn := h.nodes.cells_ne hbu
  have hb2 := (hgn _ (blk_lt hb) hGn).trans hb
  have d5 : w2.cell? ⟨g.gG, 5, none⟩ = some (.pointer (some ⟨g.gu, 0, none⟩)) := (blk_cell hb2 5).trans rfl
  have d0 : w2.cell? ⟨g.gG, 0, none⟩ = some (.map (some g.gn)) := (blk_cell hb2 0).trans rfl
  have hlt2 : g.gG < w2.heap.size := blk_lt hb2
  have HNE := Aside0.mk (show ¬ (g.gG = g.gu ∨ g.gG = g.gus ∨ g.gG = g.gfr) from by
    rintro (e | e | e)
    · rw [e] at hb; exact absurd (blk_type hb hbu) (by decide)
    · exact h.uid.used.cells_ne hb e
    · exact h.uid.free.cells_ne hb e)
  have HU2 := Aside0.mk (show Uid lo w2.drew g.gu g.gus g.gfr g.ns from h.uid.keep (hgn _ (blk_lt hbu) hGu) (hgn _ h.uid.used.lt h.ap.n.2.2.1) (hgn _ h.uid.free.lt h.ap.n.2.2.2))
  have H := Aside0.mk (And.intro h (And.intro hM' (And.intro hG (And.intro hgn hb2))))
  have m1 := meth_ID x
  have hns : g.ns.length ≤ 10000000 := by omega
  clear h hb hM hM' hG hgn hbu hb2 hGn hGu
  go_enter Tryz.func63, Tryz.ntmps63
  go_wp2_with fail
  go_region_held3 (fun w' => w'.cell? ⟨g.gG, 0, none⟩ = some (.map (some g.gn)))
    (go_keep)
    (first | (go_at_call 162; refine (nodeID_any x _).mono ?_; rintro e w3 ⟨rfl, rfl⟩))
  go_wp2_with fail
  go_region_held3 (fun w' => w'.cell? ⟨g.gG, 0, none⟩ = some (.map (some g.gn)))
    (first | exact d0 | go_keep)
    (first | (go_at_call 162; refine (nodeID_any x _).mono ?_; rintro e w3 ⟨rfl, rfl⟩))
  go_wp2_with fail
  go_region_held3 (fun w' => w'.cell? ⟨g.gG, 5, none⟩ = some (.pointer (some ⟨g.gu, 0, none⟩)))
    (first | exact e5 | go_keep)
    (first
      | (go_at_call 162; refine (nodeID_any x _).mono ?_; rintro e w3 ⟨rfl, rfl⟩)
      | (go_at_call 94; refine (use_any lo g.gu g.gus g.gfr g.ns x _ HU2.out wx hns).mono ?_; rintro e w4 ⟨rfl, hu4, hk4⟩; have H4 := Aside0.mk (And.intro hu4 hk4); have e5 : w4.cell? ⟨g.gG, 5, none⟩ = some (.pointer (some ⟨g.gu, 0, none⟩)) := (blk_cell ((hk4.block g.gG hlt2 HNE.out).trans H.out.2.2.2.2) 5).trans rfl; clear hu4 hk4))
  go_wp2
  go_end0
  obtain ⟨h, hM', hG, hgn, hb2⟩ := H.out
  obtain ⟨hu4, hk4⟩ := H4.out
  have hs2 : w.heap.size ≤ w2.heap.size := hG.size
  obtain ⟨mx, hbu⟩ := h.uid.blk
  have st : ∀ {k : Nat} {ks : List Int} {f : Int → Value}, MapV Tryz.prog 2 w k ks f → k ≠ g.gn → k ≠ g.gus → k ≠ g.gfr → MapV Tryz.prog 2 w4 k ks f := fun hm a b c => hm.stay ((hk4.block _ (Nat.lt_of_lt_of_le hm.lt hs2) (by rintro (e | e | e); exact hm.cells_ne hbu e.symm; exact b e; exact c e)).trans (hgn _ hm.lt a))
  have hgnw : MapV Tryz.prog 2 w4 g.gn (g.ns ++ [x]) nV := hM'.stay (hk4.block _ hM'.lt (by rintro (e | e | e); exact h.nodes.cells_ne hbu e.symm; exact h.ap.n.2.2.1 e.symm; exact h.ap.n.2.2.2 e.symm))
  refine ⟨rfl, ⟨⟨_, _, (hk4.block _ hlt2 HNE.out).trans hb2⟩, hu4, hgnw, st h.from_ h.ap.n.1 (Ne.symm h.ap.f.2.1) (Ne.symm h.ap.f.2.2), fun u hu => st (h.row u hu) (h.ap.fx u hu).1 (h.ap.fx u hu).2.2.2.1 (h.ap.fx u hu).2.2.2.2, st h.to_ h.ap.n.2.1 (Ne.symm h.ap.t.1) (Ne.symm h.ap.t.2),
    fun u hu => by obtain ⟨f, hf⟩ := h.col u hu; exact ⟨f, st hf (h.ap.tx u hu).1 (h.ap.tx u hu).2.2.2.1 (h.ap.tx u hu).2.2.2.2⟩, ⟨h.ap.n, h.ap.f, h.ap.t, h.ap.us, h.ap.fi, h.ap.ti, h.ap.ft, h.ap.fx, h.ap.tx⟩, h.lo_, fun u hu => List.mem_append_left _ (h.fks u hu), fun u hu v hv => List.mem_append_left _ (h.fes u hu v hv), fun u hu => List.mem_append_left _ (h.tks u hu), fun u hu v hv => List.mem_append_left _ (h.tes u hu v hv), by simp; omega⟩, ?_⟩
  have g1 : GK lo w w2 := GK.grown (⟨hG.os, hG.tape, hG.output, hG.size, hG.block⟩ : w.grownBy w2 (some g.gn)) (h.lo_.2 _ SG.mem_n) (fun c t => mapV_no_cells h.nodes c t) hlo
  refine g1.trans ⟨hk4.os, hk4.tape, hk4.output, hk4.size, fun k hk => hk4.block k (by simp; omega) (by have := h.uid.lo; rintro (e | e | e) <;> omega), fun k c t hk ht => hk4.block k (blk_lt hk) ?_⟩
  rintro (e | e | e)
  · rw [e, hgn _ (blk_lt hbu) (h.nodes.cells_ne hbu), hbu] at hk
    cases hk
    exact ht rfl
  · have h7 := h.uid.used.stay (w1 := w2) (hgn _ h.uid.used.lt h.ap.n.2.2.1)
    exact h7.cells_ne (e ▸ hk) rfl
  · have h7 := h.uid.free.stay (w1 := w2) (hgn _ h.uid.free.lt h.ap.n.2.2.2)
    exact h7.cells_ne (e ▸ hk) rfl
end Go.Proofs.YthkmblgehdofmaaGreat.R

/- simple.WeightedDirectedGraph: what a store into one of its maps does. -/
namespace Go.Proofs.YthkmblgehdofmaaGreat.R
open Go.RowKit Go.Lab Go.Maps Go.MV Go.Proofs.YthkmblgehdofmaaGreatW.PrintWords Go.Proofs.YthkmblgehdofmaaGreatW.PrintLast Go.Proofs.YthkmblgehdofmaaGreatW.PrintMore

def upd3 (W : Int → Int → Nat) (u v : Int) (x : Nat) : Int → Int → Nat := fun a b => if a = u ∧ b = v then x else W a b
theorem upd3_eq (W : Int → Int → Nat) (u v : Int) (x : Nat) : upd3 W u v x u v = x := by simp [upd3]
theorem upd3_ne {W : Int → Int → Nat} {u v a b : Int} {x : Nat} (h : ¬ (a = u ∧ b = v)) : upd3 W u v x a b = W a b := by simp [upd3, h]
def GS.setRow (g : GS) (u v : Int) (x : Nat) : GS := { g with fe := updF g.fe u (addK (g.fe u) v), W := upd3 g.W u v x }
def GS.newRow (g : GS) (u v : Int) (x b : Nat) : GS := { g with fk := g.fk ++ [u], fb := updF g.fb u b, fe := updF g.fe u [v], W := upd3 g.W u v x }
def GS.setCol (g : GS) (u v : Int) : GS := { g with te := updF g.te v (addK (g.te v) u) }
def GS.newCol (g : GS) (u v : Int) (b : Nat) : GS := { g with tk := g.tk ++ [v], tb := updF g.tb v b, te := updF g.te v [u] }

theorem nodup_len : ∀ {l xs : List Int}, l.Nodup → (∀ x ∈ l, x ∈ xs) → l.length ≤ xs.length
  | [], _, _, _ => Nat.zero_le _
  | x :: l, xs, hn, hs => by
    have hn' := List.nodup_cons.1 hn
    have h1 := nodup_len (xs := xs.erase x) hn'.2 (fun y hy => (List.mem_erase_of_ne (by rintro rfl; exact hn'.1 hy)).2 (hs y (by simp [hy])))
    have h2 := List.length_erase_of_mem (hs x (by simp))
    have h3 : 0 < xs.length := List.length_pos_of_mem (hs x (by simp))
    simp only [List.length_cons]
    omega
theorem len_in {l ns : List Int} (h : l.Nodup) (hs : ∀ x ∈ l, x ∈ ns) : l.length ≤ ns.length := nodup_len h hs
section
variable {lo : Nat} {w : World} {g : GS}
theorem SG.cells (h : SG lo w g) : w.cell? ⟨g.gG, 0, none⟩ = some (.map (some g.gn)) ∧ w.cell? ⟨g.gG, 1, none⟩ = some (.map (some g.gf)) ∧ w.cell? ⟨g.gG, 2, none⟩ = some (.map (some g.gt)) ∧ w.cell? ⟨g.gG, 5, none⟩ = some (.pointer (some ⟨g.gu, 0, none⟩)) := by
  obtain ⟨z1, z2, hb⟩ := h.blk
  exact ⟨(blk_cell hb 0).trans rfl, (blk_cell hb 1).trans rfl, (blk_cell hb 2).trans rfl, (blk_cell hb 5).trans rfl⟩
/-- the blocks of cells stay when a map is written -/
theorem SG.two (h : SG lo w g) {w1 : World} {gm : Nat} (hg : w.grownBy w1 (some gm)) (hn : ∀ c t, w.heap[gm]? ≠ some (.cells c t (0, 0))) : w1.heap[g.gG]? = w.heap[g.gG]? ∧ w1.heap[g.gu]? = w.heap[g.gu]? := by
  obtain ⟨z1, z2, hb⟩ := h.blk
  obtain ⟨mx, hu⟩ := h.uid.blk
  exact ⟨hg.block _ (blk_lt hb) (fun e => hn _ _ (Option.some.inj e ▸ hb)), hg.block _ (blk_lt hu) (fun e => hn _ _ (Option.some.inj e ▸ hu))⟩

/-- a node is put anew -/
theorem SG.putNode (h : SG lo w g) {u : Int} (hu : u ∈ g.ns) (wu : (Lit.int .i64 u).wf = true) (hlo : lo ≤ w.heap.size) :
    ∃ w1, (Instr.mapUpdate 142 (.map (some g.gn)) (.int .i64 u) (.iface 71 (.int .i64 u))).run Tryz.prog w = .ok () w1 ∧ SG lo w1 g ∧ GK lo w w1 := by
  have hl := h.len
  obtain ⟨w1, hU, hM, hG⟩ := h.nodes.put Tryz.underlying2 Tryz.underlying142 wu (.iface 71 (.int .i64 u)) (by omega)
  obtain ⟨t1, t2⟩ := h.two hG (fun c t => mapV_no_cells h.nodes c t)
  have st : ∀ {k : Nat} {ks : List Int} {f : Int → Value}, MapV Tryz.prog 2 w k ks f → k ≠ g.gn → MapV Tryz.prog 2 w1 k ks f := fun hm a => hm.stay (hG.block _ hm.lt (fun e => a (Option.some.inj e)))
  have hM' : MapV Tryz.prog 2 w1 g.gn g.ns nV := by
    have := hM.congr (f' := nV) (fun y hy => by
      by_cases e : y = u
      · subst e; rw [updV_eq]; rfl
      · rw [updV_ne e])
    unfold addK at this
    rw [if_pos hu] at this
    exact this
  obtain ⟨z1, z2, hb⟩ := h.blk
  refine ⟨w1, hU, ⟨⟨z1, z2, t1.trans hb⟩, h.uid.keep t2 (hG.block _ h.uid.used.lt (fun e => h.ap.n.2.2.1 (Option.some.inj e))) (hG.block _ h.uid.free.lt (fun e => h.ap.n.2.2.2 (Option.some.inj e))), hM', st h.from_ h.ap.n.1, fun a ha => st (h.row a ha) (h.ap.fx a ha).1, st h.to_ h.ap.n.2.1, fun a ha => by obtain ⟨f, hf⟩ := h.col a ha; exact ⟨f, st hf (h.ap.tx a ha).1⟩, h.ap, h.lo_, h.fks, h.fes, h.tks, h.tes, h.len⟩, GK.grown hG (h.lo_.2 _ SG.mem_n) (fun c t => mapV_no_cells h.nodes c t) hlo⟩

/-- an edge into a row that is there -/
theorem SG.putRow (h : SG lo w g) {u v : Int} (x : Nat) (hu : u ∈ g.fk) (hv : v ∈ g.ns) (wv : (Lit.int .i64 v).wf = true) (hlo : lo ≤ w.heap.size) :
    ∃ w1, (Instr.mapUpdate 152 (.map (some (g.fb u))) (.int .i64 v) (eV u v x)).run Tryz.prog w = .ok () w1 ∧ SG lo w1 (g.setRow u v x) ∧ GK lo w w1 := by
  have hl := h.len
  have hrow := h.row u hu
  obtain ⟨w1, hU, hM, hG⟩ := hrow.put Tryz.underlying2 Tryz.underlying152 wv (eV u v x) (by have := len_in hrow.nd (h.fes u hu); omega)
  obtain ⟨t1, t2⟩ := h.two hG (fun c t => mapV_no_cells hrow c t)
  have ax := h.ap.fx u hu
  have st : ∀ {k : Nat} {ks : List Int} {f : Int → Value}, MapV Tryz.prog 2 w k ks f → k ≠ g.fb u → MapV Tryz.prog 2 w1 k ks f := fun hm a => hm.stay (hG.block _ hm.lt (fun e => a (Option.some.inj e)))
  have hM' : MapV Tryz.prog 2 w1 (g.fb u) (addK (g.fe u) v) (fun b => eV u b (upd3 g.W u v x u b)) := hM.congr (fun y hy => by
      by_cases e : y = v
      · subst e; rw [updV_eq, upd3_eq]
      · rw [updV_ne e, upd3_ne (fun q => e q.2)])
  obtain ⟨z1, z2, hb⟩ := h.blk
  refine ⟨w1, hU, ⟨⟨z1, z2, t1.trans hb⟩, h.uid.keep t2 (hG.block _ h.uid.used.lt (fun e => ax.2.2.2.1 (Option.some.inj e).symm)) (hG.block _ h.uid.free.lt (fun e => ax.2.2.2.2 (Option.some.inj e).symm)), st h.nodes (Ne.symm ax.1), st h.from_ (Ne.symm ax.2.1), fun a ha => ?_, st h.to_ (Ne.symm ax.2.2.1), fun a ha => by obtain ⟨f, hf⟩ := h.col a ha; exact ⟨f, st hf (Ne.symm (h.ap.ft u hu a ha))⟩, ⟨h.ap.n, h.ap.f, h.ap.t, h.ap.us, h.ap.fi, h.ap.ti, h.ap.ft, h.ap.fx, h.ap.tx⟩, h.lo_, h.fks, fun a ha b hb => ?_, h.tks, h.tes, h.len⟩, GK.grown hG (h.lo_.2 _ (SG.mem_fb hu)) (fun c t => mapV_no_cells hrow c t) hlo⟩
  · show MapV Tryz.prog 2 w1 (g.fb a) (updF g.fe u (addK (g.fe u) v) a) (fun b => eV a b (upd3 g.W u v x a b))
    by_cases e : a = u
    · subst e; rw [updF_eq]; exact hM'
    · rw [updF_ne e]
      exact (st (h.row a ha) (fun q => e (h.ap.fi a ha u hu q))).congr (fun y hy => by rw [upd3_ne (fun q => e q.1)])
  · have hb' : b ∈ updF g.fe u (addK (g.fe u) v) a := hb
    by_cases e : a = u
    · subst e
      rw [updF_eq, mem_addK] at hb'
      rcases hb' with q | q
      · exact h.fes a ha b q
      · rw [q]; exact hv
    · rw [updF_ne e] at hb'
      exact h.fes a ha b hb'

/-- an edge into a column that is there -/
theorem SG.putCol (h : SG lo w g) {u v : Int} (x : Nat) (hv : v ∈ g.tk) (hu : u ∈ g.ns) (wu : (Lit.int .i64 u).wf = true) (hlo : lo ≤ w.heap.size) :
    ∃ w1, (Instr.mapUpdate 152 (.map (some (g.tb v))) (.int .i64 u) (eV u v x)).run Tryz.prog w = .ok () w1 ∧ SG lo w1 (g.setCol u v) ∧ GK lo w w1 := by
  have hl := h.len
  obtain ⟨f0, hcol⟩ := h.col v hv
  obtain ⟨w1, hU, hM, hG⟩ := hcol.put Tryz.underlying2 Tryz.underlying152 wu (eV u v x) (by have := len_in hcol.nd (h.tes v hv); omega)
  obtain ⟨t1, t2⟩ := h.two hG (fun c t => mapV_no_cells hcol c t)
  have ax := h.ap.tx v hv
  have st : ∀ {k : Nat} {ks : List Int} {f : Int → Value}, MapV Tryz.prog 2 w k ks f → k ≠ g.tb v → MapV Tryz.prog 2 w1 k ks f := fun hm a => hm.stay (hG.block _ hm.lt (fun e => a (Option.some.inj e)))
  obtain ⟨z1, z2, hb⟩ := h.blk
  refine ⟨w1, hU, ⟨⟨z1, z2, t1.trans hb⟩, h.uid.keep t2 (hG.block _ h.uid.used.lt (fun e => ax.2.2.2.1 (Option.some.inj e).symm)) (hG.block _ h.uid.free.lt (fun e => ax.2.2.2.2 (Option.some.inj e).symm)), st h.nodes (Ne.symm ax.1), st h.from_ (Ne.symm ax.2.1), fun a ha => st (h.row a ha) (h.ap.ft a ha v hv), st h.to_ (Ne.symm ax.2.2.1), fun a ha => ?_, ⟨h.ap.n, h.ap.f, h.ap.t, h.ap.us, h.ap.fi, h.ap.ti, h.ap.ft, h.ap.fx, h.ap.tx⟩, h.lo_, h.fks, h.fes, h.tks, fun a ha b hb => ?_, h.len⟩, GK.grown hG (h.lo_.2 _ (SG.mem_tb hv)) (fun c t => mapV_no_cells hcol c t) hlo⟩
  · show ∃ f, MapV Tryz.prog 2 w1 (g.tb a) (updF g.te v (addK (g.te v) u) a) f
    by_cases e : a = v
    · subst e; rw [updF_eq]; exact ⟨_, hM⟩
    · rw [updF_ne e]
      obtain ⟨f, hf⟩ := h.col a ha
      exact ⟨f, st hf (fun q => e (h.ap.ti a ha v hv q))⟩
  · have hb' : b ∈ updF g.te v (addK (g.te v) u) a := hb
    by_cases e : a = v
    · subst e
      rw [updF_eq, mem_addK] at hb'
      rcases hb' with q | q
      · exact h.tes a ha b q
      · rw [q]; exact hu
    · rw [updF_ne e] at hb'
      exact h.tes a ha b hb'
end
end Go.Proofs.YthkmblgehdofmaaGreat.R

/- simple.WeightedDirectedGraph: a new row, a new column. (Printed by wip/r6/sg7.py.) -/
namespace Go.Proofs.YthkmblgehdofmaaGreat.R
open Go.RowKit Go.Lab Go.Maps Go.MV Go.Proofs.YthkmblgehdofmaaGreatW.PrintWords Go.Proofs.YthkmblgehdofmaaGreatW.PrintLast Go.Proofs.YthkmblgehdofmaaGreatW.PrintMore
section
variable {lo : Nat} {w : World} {g : GS}

/-- an edge into a new row -/
theorem SG.newRow (h : SG lo w g) {u v : Int} (x : Nat) (h0 : u ∉ g.fk) (hu : u ∈ g.ns) (hv : v ∈ g.ns) (wu : (Lit.int .i64 u).wf = true) (wv : (Lit.int .i64 v).wf = true) (hlo : lo ≤ w.heap.size) :
    ∃ w2 w3, (Instr.mapUpdate 152 (.map (some w.heap.size)) (.int .i64 v) (eV u v x)).run Tryz.prog (w.alloc (.map #[] 0)) = .ok () w2 ∧ (Instr.mapUpdate 143 (.map (some g.gf)) (.int .i64 u) (.map (some w.heap.size))).run Tryz.prog w2 = .ok () w3 ∧ SG lo w3 (g.newRow u v x w.heap.size) ∧ GK lo w w3 := by
  have hl := h.len
  have hfl := len_in h.from_.nd h.fks
  have m0 := MapV.made (P := Tryz.prog) (k := 2) w (fun _ => eV u v x)
  obtain ⟨w2, hU, hM, hG⟩ := m0.put Tryz.underlying2 Tryz.underlying152 wv (eV u v x) (by simp)
  have hs2 : w.heap.size + 1 ≤ w2.heap.size := by have := hG.size; simp at this; omega
  have k2 : ∀ k, k < w.heap.size → w2.heap[k]? = w.heap[k]? := fun k hk => (hG.block k (by simp; omega) (fun e => by have := Option.some.inj e; omega)).trans (Below.heap_alloc _ _ _ hk)
  obtain ⟨w3, hU3, hM3, hG3⟩ := (h.from_.stay (k2 _ h.from_.lt)).put Tryz.underlying2 Tryz.underlying143 wu (.map (some w.heap.size)) (by omega)
  have hs3 := hG3.size
  have k3 : ∀ k, k < w.heap.size → k ≠ g.gf → w3.heap[k]? = w.heap[k]? := fun k hk hne => (hG3.block k (by omega) (fun e => hne (Option.some.inj e))).trans (k2 k hk)
  have st : ∀ {k : Nat} {ks : List Int} {f : Int → Value}, MapV Tryz.prog 2 w k ks f → k ≠ g.gf → MapV Tryz.prog 2 w3 k ks f := fun hm a => hm.stay (k3 _ hm.lt a)
  obtain ⟨z1, z2, hb⟩ := h.blk
  obtain ⟨mx, hbu⟩ := h.uid.blk
  have lts := h.lts
  have hne : w.heap.size ≠ g.gf := fun e => by have := h.from_.lt; omega
  have hrow : MapV Tryz.prog 2 w3 w.heap.size [v] (fun b => eV u b (upd3 g.W u v x u b)) := by
    have h1 : MapV Tryz.prog 2 w2 w.heap.size [v] (updV (fun _ => eV u v x) v (eV u v x)) := by
      have := hM
      unfold addK at this
      rw [if_neg List.not_mem_nil] at this
      exact this
    refine (h1.stay (w1 := w3) (hG3.block _ (by omega) (fun e => hne (Option.some.inj e)))).congr (fun y hy => ?_)
    rw [List.mem_singleton.1 hy, updV_eq, upd3_eq]
  have hfrom : MapV Tryz.prog 2 w3 g.gf (g.fk ++ [u]) (fun a => mV (updF g.fb u w.heap.size a)) := by
    have := hM3.congr (f' := fun a => mV (updF g.fb u w.heap.size a)) (fun y hy => by
      by_cases e : y = u
      · subst e; rw [updV_eq, updF_eq]; rfl
      · rw [updV_ne e, updF_ne e])
    unfold addK at this
    rw [if_neg h0] at this
    exact this
  have bn : ∀ a ∈ g.fk, updF g.fb u w.heap.size a = g.fb a := fun a ha => updF_ne (fun e => h0 (e ▸ ha))
  have mem : ∀ a, a ∈ g.fk ++ [u] → a ∈ g.fk ∨ a = u := fun a ha => (List.mem_append.1 ha).imp id List.mem_singleton.1
  have ap := h.ap
  refine ⟨w2, w3, hU, hU3, ⟨⟨z1, z2, (k3 _ (blk_lt hb) (h.from_.cells_ne hb)).trans hb⟩, h.uid.keep (k3 _ (blk_lt hbu) (h.from_.cells_ne hbu)) (k3 _ h.uid.used.lt ap.f.2.1) (k3 _ h.uid.free.lt ap.f.2.2), st h.nodes (Ne.symm ap.n.1), hfrom, fun a ha => ?_, st h.to_ ap.f.1, fun a ha => by obtain ⟨f, hf⟩ := h.col a ha; exact ⟨f, st hf (ap.tx a ha).2.1⟩, ⟨ap.n, ap.f, ap.t, ap.us, ?_, ap.ti, ?_, ?_, ap.tx⟩, ⟨h.lo_.1, ?_⟩, fun a ha => (mem a ha).elim (h.fks a) (fun e => e ▸ hu), fun a ha b hb' => ?_, h.tks, h.tes, h.len⟩, ?_⟩
  · show MapV Tryz.prog 2 w3 (updF g.fb u w.heap.size a) (updF g.fe u [v] a) (fun b => eV a b (upd3 g.W u v x a b))
    rcases mem a ha with q | rfl
    · have e : a ≠ u := fun e => h0 (e ▸ q)
      rw [updF_ne e, updF_ne e]
      exact (st (h.row a q) (ap.fx a q).2.1).congr (fun y hy => by rw [upd3_ne (fun p => e p.1)])
    · rw [updF_eq, updF_eq]; exact hrow
  · intro a ha a' ha' e
    have e' : updF g.fb u w.heap.size a = updF g.fb u w.heap.size a' := e
    rcases mem a ha with q | rfl <;> rcases mem a' ha' with q' | rfl
    · rw [bn a q, bn a' q'] at e'; exact ap.fi a q a' q' e'
    · rw [bn a q, updF_eq] at e'; have := lts _ (SG.mem_fb q); omega
    · rw [bn a' q', updF_eq] at e'; have := lts _ (SG.mem_fb q'); omega
    · rfl
  · intro a ha c hc e
    have e' : updF g.fb u w.heap.size a = g.tb c := e
    rcases mem a ha with q | rfl
    · rw [bn a q] at e'; exact ap.ft a q c hc e'
    · rw [updF_eq] at e'; have := lts _ (SG.mem_tb hc); omega
  · intro a ha
    show updF g.fb u w.heap.size a ≠ g.gn ∧ updF g.fb u w.heap.size a ≠ g.gf ∧ updF g.fb u w.heap.size a ≠ g.gt ∧ updF g.fb u w.heap.size a ≠ g.gus ∧ updF g.fb u w.heap.size a ≠ g.gfr
    rcases mem a ha with q | rfl
    · rw [bn a q]; exact ap.fx a q
    · rw [updF_eq]
      have a1 := lts _ (SG.mem_n (g := g)); have a2 := lts _ (SG.mem_f (g := g)); have a3 := lts _ (SG.mem_t (g := g)); have a4 := lts _ (SG.mem_us (g := g)); have a5 := lts _ (SG.mem_fr (g := g))
      omega
  · intro k hk
    simp only [GS.maps, GS.newRow, List.mem_cons, List.mem_append, List.mem_map] at hk
    rcases hk with rfl | rfl | rfl | rfl | rfl | ⟨a, ha, rfl⟩ | ⟨a, ha, rfl⟩
    · exact h.lo_.2 _ SG.mem_n
    · exact h.lo_.2 _ SG.mem_f
    · exact h.lo_.2 _ SG.mem_t
    · exact h.lo_.2 _ SG.mem_us
    · exact h.lo_.2 _ SG.mem_fr
    · rcases ha with q | q
      · rw [bn a q]; exact h.lo_.2 _ (SG.mem_fb q)
      · simp at q; rw [q, updF_eq]; exact hlo
    · exact h.lo_.2 _ (SG.mem_tb ha)
  · have hb2 : b ∈ updF g.fe u [v] a := hb'
    rcases mem a ha with q | rfl
    · have e : a ≠ u := fun e => h0 (e ▸ q)
      rw [updF_ne e] at hb2; exact h.fes a q b hb2
    · rw [updF_eq] at hb2; rw [List.mem_singleton.1 hb2]; exact hv
  · have g0 : GK lo (w.alloc (.map #[] 0)) w2 := GK.grown hG hlo (fun c t => mapV_no_cells m0 c t) (by simp; omega)
    exact ((GK.alloc (.map #[] 0) hlo).trans g0).trans (GK.grown hG3 (h.lo_.2 _ SG.mem_f) (fun c t => mapV_no_cells (h.from_.stay (k2 _ h.from_.lt)) c t) (by omega))

/-- an edge into a new column -/
theorem SG.newCol (h : SG lo w g) {u v : Int} (x : Nat) (h0 : v ∉ g.tk) (hu : u ∈ g.ns) (hv : v ∈ g.ns) (wu : (Lit.int .i64 u).wf = true) (wv : (Lit.int .i64 v).wf = true) (hlo : lo ≤ w.heap.size) :
    ∃ w2 w3, (Instr.mapUpdate 152 (.map (some w.heap.size)) (.int .i64 u) (eV u v x)).run Tryz.prog (w.alloc (.map #[] 0)) = .ok () w2 ∧ (Instr.mapUpdate 143 (.map (some g.gt)) (.int .i64 v) (.map (some w.heap.size))).run Tryz.prog w2 = .ok () w3 ∧ SG lo w3 (g.newCol u v w.heap.size) ∧ GK lo w w3 := by
  have hl := h.len
  have hfl := len_in h.to_.nd h.tks
  have m0 := MapV.made (P := Tryz.prog) (k := 2) w (fun _ => eV u v x)
  obtain ⟨w2, hU, hM, hG⟩ := m0.put Tryz.underlying2 Tryz.underlying152 wu (eV u v x) (by simp)
  have hs2 : w.heap.size + 1 ≤ w2.heap.size := by have := hG.size; simp at this; omega
  have k2 : ∀ k, k < w.heap.size → w2.heap[k]? = w.heap[k]? := fun k hk => (hG.block k (by simp; omega) (fun e => by have := Option.some.inj e; omega)).trans (Below.heap_alloc _ _ _ hk)
  obtain ⟨w3, hU3, hM3, hG3⟩ := (h.to_.stay (k2 _ h.to_.lt)).put Tryz.underlying2 Tryz.underlying143 wv (.map (some w.heap.size)) (by omega)
  have hs3 := hG3.size
  have k3 : ∀ k, k < w.heap.size → k ≠ g.gt → w3.heap[k]? = w.heap[k]? := fun k hk hne => (hG3.block k (by omega) (fun e => hne (Option.some.inj e))).trans (k2 k hk)
  have st : ∀ {k : Nat} {ks : List Int} {f : Int → Value}, MapV Tryz.prog 2 w k ks f → k ≠ g.gt → MapV Tryz.prog 2 w3 k ks f := fun hm a => hm.stay (k3 _ hm.lt a)
  obtain ⟨z1, z2, hb⟩ := h.blk
  obtain ⟨mx, hbu⟩ := h.uid.blk
  have lts := h.lts
  have hne : w.heap.size ≠ g.gt := fun e => by have := h.to_.lt; omega
  have hrow : MapV Tryz.prog 2 w3 w.heap.size [u] (fun b => eV u v x) := by
    have h1 : MapV Tryz.prog 2 w2 w.heap.size [u] (updV (fun _ => eV u v x) u (eV u v x)) := by
      have := hM
      unfold addK at this
      rw [if_neg List.not_mem_nil] at this
      exact this
    refine (h1.stay (w1 := w3) (hG3.block _ (by omega) (fun e => hne (Option.some.inj e)))).congr (fun y hy => ?_)
    rw [List.mem_singleton.1 hy, updV_eq]
  have hfrom : MapV Tryz.prog 2 w3 g.gt (g.tk ++ [v]) (fun a => mV (updF g.tb v w.heap.size a)) := by
    have := hM3.congr (f' := fun a => mV (updF g.tb v w.heap.size a)) (fun y hy => by
      by_cases e : y = v
      · subst e; rw [updV_eq, updF_eq]; rfl
      · rw [updV_ne e, updF_ne e])
    unfold addK at this
    rw [if_neg h0] at this
    exact this
  have bn : ∀ a ∈ g.tk, updF g.tb v w.heap.size a = g.tb a := fun a ha => updF_ne (fun e => h0 (e ▸ ha))
  have mem : ∀ a, a ∈ g.tk ++ [v] → a ∈ g.tk ∨ a = v := fun a ha => (List.mem_append.1 ha).imp id List.mem_singleton.1
  have ap := h.ap
  refine ⟨w2, w3, hU, hU3, ⟨⟨z1, z2, (k3 _ (blk_lt hb) (h.to_.cells_ne hb)).trans hb⟩, h.uid.keep (k3 _ (blk_lt hbu) (h.to_.cells_ne hbu)) (k3 _ h.uid.used.lt ap.t.1) (k3 _ h.uid.free.lt ap.t.2), st h.nodes (Ne.symm ap.n.2.1), st h.from_ (Ne.symm ap.f.1), fun a ha => st (h.row a ha) (ap.fx a ha).2.2.1, hfrom, fun a ha => ?_, ⟨ap.n, ap.f, ap.t, ap.us, ap.fi, ?_, ?_, ap.fx, ?_⟩, ⟨h.lo_.1, ?_⟩, h.fks, h.fes, fun a ha => (mem a ha).elim (h.tks a) (fun e => e ▸ hv), fun a ha b hb' => ?_, h.len⟩, ?_⟩
  · show ∃ f, MapV Tryz.prog 2 w3 (updF g.tb v w.heap.size a) (updF g.te v [u] a) f
    rcases mem a ha with q | rfl
    · have e : a ≠ v := fun e => h0 (e ▸ q)
      rw [updF_ne e, updF_ne e]
      obtain ⟨f, hf⟩ := h.col a q
      exact ⟨f, st hf (ap.tx a q).2.2.1⟩
    · rw [updF_eq, updF_eq]; exact ⟨_, hrow⟩
  · intro a ha a' ha' e
    have e' : updF g.tb v w.heap.size a = updF g.tb v w.heap.size a' := e
    rcases mem a ha with q | rfl <;> rcases mem a' ha' with q' | rfl
    · rw [bn a q, bn a' q'] at e'; exact ap.ti a q a' q' e'
    · rw [bn a q, updF_eq] at e'; have := lts _ (SG.mem_tb q); omega
    · rw [bn a' q', updF_eq] at e'; have := lts _ (SG.mem_tb q'); omega
    · rfl
  · intro c hc a ha e
    have e' : g.fb c = updF g.tb v w.heap.size a := e
    rcases mem a ha with q | rfl
    · rw [bn a q] at e'; exact ap.ft c hc a q e'
    · rw [updF_eq] at e'; have := lts _ (SG.mem_fb hc); omega
  · intro a ha
    show updF g.tb v w.heap.size a ≠ g.gn ∧ updF g.tb v w.heap.size a ≠ g.gf ∧ updF g.tb v w.heap.size a ≠ g.gt ∧ updF g.tb v w.heap.size a ≠ g.gus ∧ updF g.tb v w.heap.size a ≠ g.gfr
    rcases mem a ha with q | rfl
    · rw [bn a q]; exact ap.tx a q
    · rw [updF_eq]
      have a1 := lts _ (SG.mem_n (g := g)); have a2 := lts _ (SG.mem_f (g := g)); have a3 := lts _ (SG.mem_t (g := g)); have a4 := lts _ (SG.mem_us (g := g)); have a5 := lts _ (SG.mem_fr (g := g))
      omega
  · intro k hk
    simp only [GS.maps, GS.newCol, List.mem_cons, List.mem_append, List.mem_map] at hk
    rcases hk with rfl | rfl | rfl | rfl | rfl | ⟨a, ha, rfl⟩ | ⟨a, ha, rfl⟩
    · exact h.lo_.2 _ SG.mem_n
    · exact h.lo_.2 _ SG.mem_f
    · exact h.lo_.2 _ SG.mem_t
    · exact h.lo_.2 _ SG.mem_us
    · exact h.lo_.2 _ SG.mem_fr
    · exact h.lo_.2 _ (SG.mem_fb ha)
    · rcases ha with q | q
      · rw [bn a q]; exact h.lo_.2 _ (SG.mem_tb q)
      · simp at q; rw [q, updF_eq]; exact hlo
  · have hb2 : b ∈ updF g.te v [u] a := hb'
    rcases mem a ha with q | rfl
    · have e : a ≠ v := fun e => h0 (e ▸ q)
      rw [updF_ne e] at hb2; exact h.tes a q b hb2
    · rw [updF_eq] at hb2; rw [List.mem_singleton.1 hb2]; exact hu
  · have g0 : GK lo (w.alloc (.map #[] 0)) w2 := GK.grown hG hlo (fun c t => mapV_no_cells m0 c t) (by simp; omega)
    exact ((GK.alloc (.map #[] 0) hlo).trans g0).trans (GK.grown hG3 (h.lo_.2 _ SG.mem_t) (fun c t => mapV_no_cells (h.to_.stay (k2 _ h.to_.lt)) c t) (by omega))

end
end Go.Proofs.YthkmblgehdofmaaGreat.R
