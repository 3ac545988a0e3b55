import Derived.Test.YtlokbaljkmblaaaK
namespace Go.Proofs.Ytlokbaljkmblaaa
open Go.RowKit Go.Lab Go.Proofs.YtlokbaljkmblaaaW.PrintWords Go.Proofs.YtlokbaljkmblaaaW.PrintLast Go.Proofs.YtlokbaljkmblaaaW.PrintMore PFnIsPathJoined

/-- the row of a node -/
def Pl.row (p : Pl) (u : Int) : List (Int × Nat) := p.out.getD (rank p.ids u) []
/-- the arc from a node to another one -/
def Pl.find (p : Pl) (u v : Int) : Option (Int × Nat) :=
  if u ∈ p.ids ∧ v ∈ p.ids ∧ ((rank p.ids v : Nat) : Int) ∈ keys (p.row u) then (p.row u)[rank (keys (p.row u)) ((rank p.ids v : Nat) : Int)]? else none

def arcV : Option (Int × Nat) → Value
  | some a => .tuple #[.agg #[.int .i64 a.1, .float .f64 a.2], .bool true]
  | none => .tuple #[.agg #[.int .i64 0, .float .f64 0], .bool false]

theorem find_none {p : Pl} {u v : Int} (h : ¬ (u ∈ p.ids ∧ v ∈ p.ids ∧ ((rank p.ids v : Nat) : Int) ∈ keys (p.row u))) : p.find u v = none := by unfold Pl.find; rw [if_neg h]

set_option maxHeartbeats 2000000 in
set_option maxRecDepth 100000 in
theorem find_out (base bp : Nat) (p : Pl) (u v : Int) (w : World) (h : PlOk w base bp p) (hs : p.ids.Pairwise (· < ·)) (hg : p.Good) (hm : ¬ (u ∈ p.ids ∧ v ∈ p.ids)) :
    Calls Try.prog 76 #[.pointer (some ⟨bp, 0, none⟩), .int .i64 u, .int .i64 v] w fun e w' => e = .returned (arcV (p.find u v)) ∧ Below w.heap.size w w' := by
  have hf := find_none (p := p) (u := u) (v := v) (fun hh => hm ⟨hh.1, hh.2.1⟩)
  rw [hf]
  have HW := Aside0.mk (h.below ((Below.refl _ _).alloc (Nat.le_refl _) (.cells #[.int .i64 0, .float .f64 0] 90)))
  have HS := Aside0.mk hs
  have hn := hg.n
  have HM := Aside0.mk hm
  by_cases hu : decide (u ∈ p.ids) = true
  · have hv : decide (v ∈ p.ids) = false := decide_eq_false (fun hv => hm ⟨of_decide_eq_true hu, hv⟩)
    clear h hs hg hm hf
    go_enter Try.func76, Try.ntmps76
    go_wp2_with (go_at_call 20; refine (pl_index base bp p _ _ HW.out HS.out hn).mono ?_; rintro e' w' ⟨rfl, rfl⟩)
    exact bodyPost_ret (v := arcV none) (by simp [results, Try.results76, go_sem, arcV]) rfl ⟨rfl, (Below.refl _ _).alloc (Nat.le_refl _) _⟩
  · have hu' : decide (u ∈ p.ids) = false := by simpa using hu
    clear h hs hg hm hf hu
    go_enter Try.func76, Try.ntmps76
    go_wp2_with (go_at_call 20; refine (pl_index base bp p _ _ HW.out HS.out hn).mono ?_; rintro e' w' ⟨rfl, rfl⟩)
    all_goals exact bodyPost_ret (v := arcV none) (by simp [results, Try.results76, go_sem, arcV]) rfl ⟨rfl, (Below.refl _ _).alloc (Nat.le_refl _) _⟩

theorem res_cells {w w1 : World} {x y : Value} (h : Below (w.alloc (.cells #[x, y] 90)).heap.size (w.alloc (.cells #[x, y] 90)) w1) :
    w1.cell? ⟨w.heap.size, 0, none⟩ = some x ∧ w1.cell? ⟨w.heap.size, 1, none⟩ = some y ∧ w1.frozen? ⟨w.heap.size, 0, none⟩ = false ∧ w1.frozen? ⟨w.heap.size, 1, none⟩ = false := by
  have hh : w1.heap[w.heap.size]? = some (.cells #[x, y] 90 (0, 0)) := (h.block _ (by simp)).trans (heap_alloc_new _ _)
  exact ⟨by rw [blk_cell hh]; rfl, by rw [blk_cell hh]; rfl, blk_frozen hh _, blk_frozen hh _⟩

set_option maxHeartbeats 4000000 in
set_option maxRecDepth 100000 in
theorem find_in (base bp : Nat) (p : Pl) (u v : Int) (w : World) (h : PlOk w base bp p) (hs : p.ids.Pairwise (· < ·)) (hg : p.Good) (hmu : u ∈ p.ids) (hmv : v ∈ p.ids) :
    Calls Try.prog 76 #[.pointer (some ⟨bp, 0, none⟩), .int .i64 u, .int .i64 v] w fun e w' => e = .returned (arcV (p.find u v)) ∧ Below w.heap.size w w' := by
  have hn := hg.n
  have hu : decide (u ∈ p.ids) = true := decide_eq_true hmu
  have hv : decide (v ∈ p.ids) = true := decide_eq_true hmv
  have hru := ((rank_mem hs u).1 hmu).1
  have hrv := ((rank_mem hs v).1 hmv).1
  have hb1 : Below w.heap.size w (w.alloc (.cells #[.int .i64 0, .float .f64 0] 90)) := (Below.refl _ _).alloc (Nat.le_refl _) _
  have HW := Aside0.mk (h.below hb1)
  have HS := Aside0.mk hs
  obtain ⟨ro, ri, vi, vx, g, cap, hi', hp, c1, c2, c3, l1, l2, l3, l4⟩ := HW.out.open_out (rank p.ids u) hru
  obtain ⟨i, hi⟩ : ∃ i, i = rank p.ids u := ⟨_, rfl⟩
  obtain ⟨k, hk⟩ : ∃ k, k = rank p.ids v := ⟨_, rfl⟩
  have hrow := hp.rows.rowA (rank p.ids u) hi'
  have hl : p.out.getD (rank p.ids u) [] = p.row u := rfl
  rw [hl] at hrow
  have hgr : GoodRow p.ids.length (p.row u) := hg.out _
  obtain ⟨r, hr⟩ : ∃ r, r = ro[rank p.ids u] := ⟨_, rfl⟩
  rw [← hr] at c2 hrow
  rw [← hi] at c2 hru
  rw [← hk] at hrv
  have hii : (i : Int) < (ro.length : Int) := by omega
  have HI := Aside0.mk hi
  have HK := Aside0.mk hk
  have HGR := Aside0.mk hgr
  have hlr := hgr.len
  have HROW := Aside0.mk hrow
  have hkb : (k : Int) ≤ 1000 := by omega
  by_cases hmem : ((k : Nat) : Int) ∈ keys (p.row u)
  · have hd : decide (((k : Nat) : Int) ∈ keys (p.row u)) = true := decide_eq_true hmem
    obtain ⟨hq, he⟩ := (rank_mem hgr.1 _).1 hmem
    rw [keys_length] at hq
    have hfind : p.find u v = some (p.row u)[rank (keys (p.row u)) (k : Int)] := by
      unfold Pl.find
      rw [if_pos ⟨hmu, hmv, by rw [← hk]; exact hmem⟩, ← hk, List.getElem?_eq_getElem hq]
    rw [hfind]
    obtain ⟨g2, cap2, hr2, hgl2, hcap2, hc4, hc5⟩ := fl_cells hrow _ hq
    obtain ⟨q, hqq⟩ : ∃ q, q = rank (keys (p.row u)) (k : Int) := ⟨_, rfl⟩
    generalize (p.row u)[rank (keys (p.row u)) (k : Int)] = a at hc4 hc5
    rw [← hqq] at hc4 hc5 hq
    have HQ := Aside0.mk hqq
    clear hp hrow hgr hr hi hk hmem he hfind hs hg hmu hmv hl h hb1 hqq
    subst hr2
    go_enter Try.func76, Try.ntmps76
    go_wp2_with (first | (go_at_call 20; refine (pl_index base bp p _ _ HW.out HS.out hn).mono ?_; rintro e' w' ⟨rfl, rfl⟩; (try rw [← HI.out]); (try rw [← HK.out])) | (go_at_call 38; refine (bsf78_any base _ (p.row u) k _ HROW.out HGR.out.1 (by omega) (by omega) hkb (HGR.out.bounds hn)).mono ?_; rintro e' w1 ⟨rfl, hbel⟩; rw [hd, ← HQ.out]; have HBEL := Aside0.mk hbel; rw [← hbel.cell (p := ⟨bp, 1, none⟩) l1] at c1; rw [← hbel.cell (p := ⟨g, i, none⟩) l2] at c2; rw [← hbel.cell (p := ⟨g2, q * 2, none⟩) hgl2] at hc4; rw [← hbel.cell (p := ⟨g2, q * 2 + 1, none⟩) hgl2] at hc5; obtain ⟨z0, z1, z2, z3⟩ := res_cells hbel; clear hbel))
    refine bodyPost_ret (v := arcV (some a)) ?_ rfl ⟨rfl, ?_⟩
    · simp [results, Try.results76, go_sem, arcV, z0, z1]
    · exact ((((Below.refl _ _).alloc (Nat.le_refl _) _).trans (HBEL.out.mono (by simp))).setCell (by simp) _).setCell (by simp) _
  · have hd : decide (((k : Nat) : Int) ∈ keys (p.row u)) = false := decide_eq_false hmem
    have hfind := find_none (p := p) (u := u) (v := v) (fun hh => hmem (by rw [hk]; exact hh.2.2))
    rw [hfind]
    clear hp hrow hgr hr hi hk hmem hfind hs hg hmu hmv hl h hb1
    go_enter Try.func76, Try.ntmps76
    go_wp2_with (first | (go_at_call 20; refine (pl_index base bp p _ _ HW.out HS.out hn).mono ?_; rintro e' w' ⟨rfl, rfl⟩; (try rw [← HI.out]); (try rw [← HK.out])) | (go_at_call 38; refine (bsf78_any base _ (p.row u) k _ HROW.out HGR.out.1 (by omega) (by omega) hkb (HGR.out.bounds hn)).mono ?_; rintro e' w1 ⟨rfl, hbel⟩; rw [hd]; have HBEL := Aside0.mk hbel; obtain ⟨z0, z1, z2, z3⟩ := res_cells hbel; clear hbel))
    refine bodyPost_ret (v := arcV none) ?_ rfl ⟨rfl, ?_⟩
    · simp [results, Try.results76, go_sem, arcV, z0, z1]
    · exact ((((Below.refl _ _).alloc (Nat.le_refl _) _).trans (HBEL.out.mono (by simp))).setCell (by simp) _).setCell (by simp) _

/-- (*plain).find -/
theorem find_any (base bp : Nat) (p : Pl) (u v : Int) (w : World) (h : PlOk w base bp p) (hs : p.ids.Pairwise (· < ·)) (hg : p.Good) :
    Calls Try.prog 76 #[.pointer (some ⟨bp, 0, none⟩), .int .i64 u, .int .i64 v] w fun e w' => e = .returned (arcV (p.find u v)) ∧ Below w.heap.size w w' := by
  by_cases hm : u ∈ p.ids ∧ v ∈ p.ids
  · exact find_in base bp p u v w h hs hg hm.1 hm.2
  · exact find_out base bp p u v w h hs hg hm

theorem Below.up {B : Nat} {w W w' : World} (h : Below B w W) (k : Below W.heap.size W w') (hB : B ≤ w.heap.size) : Below B w w' := h.trans (k.mono (Nat.le_trans hB h.size))

/-- whether there is an edge from u to v -/
def Pl.has (p : Pl) (u v : Int) : Bool := (p.find u v).isSome

set_option maxHeartbeats 1000000 in
theorem hasFromTo_any (base bp : Nat) (p : Pl) (u v : Int) (w : World) (h : PlOk w base bp p) (hs : p.ids.Pairwise (· < ·)) (hg : p.Good) :
    Calls Try.prog 71 #[.agg #[.pointer (some ⟨bp, 0, none⟩)], .int .i64 u, .int .i64 v] w fun e w' => e = .returned (.bool (p.has u v)) ∧ Below w.heap.size w w' := by
  have HW := Aside0.mk (h.below ((Below.refl _ _).alloc (Nat.le_refl _) (.cells #[.pointer (some ⟨bp, 0, none⟩)] 47)))
  have HS := Aside0.mk hs
  have HG := Aside0.mk hg
  have HF := Aside0.mk (show p.has u v = (p.find u v).isSome from rfl)
  obtain ⟨f, hf⟩ : ∃ f, f = p.find u v := ⟨_, rfl⟩
  rw [← hf] at HF
  have HFF := Aside0.mk hf
  obtain ⟨b, hb⟩ : ∃ b, b = p.has u v := ⟨_, rfl⟩
  rw [← hb] at HF ⊢
  clear h hs hg hf hb
  cases f with
  | none =>
    have hb : b = false := HF.out
    subst hb
    go_enter Try.func71, Try.ntmps71
    go_wp2_with (go_at_call 76; refine (find_any base bp p _ _ _ HW.out HS.out HG.out).mono ?_; rintro e' w1 ⟨rfl, hbel⟩; rw [← HFF.out]; unfold arcV; have HBEL := Aside0.mk hbel; clear hbel)
    go_ret
    refine ⟨rfl, ?_⟩
    have h1 := Below.up ((Below.refl w.heap.size w).alloc (Nat.le_refl _) _) HBEL.out (Nat.le_refl _)
    exact h1.alloc h1.size _
  | some a =>
    have hb : b = true := HF.out
    subst hb
    go_enter Try.func71, Try.ntmps71
    go_wp2_with (go_at_call 76; refine (find_any base bp p _ _ _ HW.out HS.out HG.out).mono ?_; rintro e' w1 ⟨rfl, hbel⟩; rw [← HFF.out]; unfold arcV; have HBEL := Aside0.mk hbel; clear hbel)
    go_ret
    refine ⟨rfl, ?_⟩
    have h1 := Below.up ((Below.refl w.heap.size w).alloc (Nat.le_refl _) _) HBEL.out (Nat.le_refl _)
    exact h1.alloc h1.size _
end Go.Proofs.Ytlokbaljkmblaaa
