import Derived.Test.YtfkmpnpliadohaaGreatFA1
import Derived.Test.YtfkmpnpliadohaaGreatFT3
import Derived.Test.YtfkmpnpliadohaaGreatFT2
import Derived.Deep.RegionHeld3
import Derived.Deep.CutRange
import Derived.Deep.OwnRows
import Derived.BigRegion
set_option linter.unusedVariables false
set_option linter.unusedSimpArgs false
namespace Go.Proofs.YtfkmpnpliadohaaGreat.Q
open Go.RowKit Go.Lab Go.Proofs.YtfkmpnpliadohaaGreatW.PrintWords Go.Proofs.YtfkmpnpliadohaaGreatW.PrintLast Go.Proofs.YtfkmpnpliadohaaGreatW.PrintMore PL

theorem reps_ints {w : World} {k : IntKind} {base : Nat} {ok : Nat → Prop} {xs : List Int} {inner : List Value} (h : Reps ((Kd.int k).M w base ok) 1 xs inner) : inner = nums k xs := by
  apply List.ext_getElem?
  intro j
  by_cases hj : j < xs.length
  · have hx : List.take 1 (List.drop (j * 1) inner) = [.int k xs[j]] := h.2 j _ (List.getElem?_eq_getElem hj)
    have h1 := congrArg (fun l => l[0]?) hx
    simp only [List.getElem?_take, List.getElem?_drop, Nat.mul_one, Nat.add_zero] at h1
    rw [if_pos (by omega)] at h1
    rw [h1]
    simp [nums, hj]
  · rw [List.getElem?_eq_none (by have := h.1; omega), List.getElem?_eq_none (by rw [nums_length]; omega)]

theorem hfresh1 {W : World} {base : Nat} {e : TypeId} {size n m : Nat} {v : Value} {xs : List Value} (h : W.ownsRow base e size v n xs) : ApartS v (.slice (some ⟨W.heap.size, 0, none⟩) m m) := by
  intro k hk hk2
  have := own_lt h k hk
  have e1 : W.heap.size = k := by simpa [Value.ownBlock] using hk2
  omega
theorem hfresh {W : World} {base : Nat} {eo ei : TypeId} {T : List (List Value)} {rs : List Value} {v : Value} {m : Nat} (h : Tb W base eo ei T rs v) : ∀ i (hi : i < rs.length), ApartS rs[i] (.slice (some ⟨W.heap.size, 0, none⟩) m m) := fun i hi => hfresh1 (h.row i hi)

theorem news1 (w : World) (x : Value) (t : TypeId) : ∀ j u, [x][j]? = some u → (w.alloc (.cells #[x] t)).cell? ((⟨w.heap.size, 0, none⟩ : Addr).add j) = some u := by
  intro j u hu
  rw [add_plain, blk_cell (heap_alloc_new w (.cells #[x] t))]
  match j, hu with
  | 0, hu => exact hu
  | j + 1, hu => simp at hu

theorem news1' (w : World) (x : Value) (t : TypeId) (B : Nat) (hB : w.heap.size = B) : ∀ j u, [x][j]? = some u → (w.alloc (.cells #[x] t)).drew.cell? ((⟨B, 0, none⟩ : Addr).add j) = some u := by
  subst hB
  exact news1 w x t

/-- the table in the making, with what a walk reads of it -/
structure TsC (w wr : World) (tb : Nat) (d : Bool) (s1 s2 vn : Value) (ids : List Int) (TA TW : List (List Value)) (ra rw : List Value) (va vw : Value) : Prop where
  t : Ts w wr tb #[.bool d, s1, s2] vn ids TA TW ra rw va vw
  c0 : wr.cell? ⟨tb, 0, none⟩ = some vn
  c1 : wr.cell? ⟨tb, 1, none⟩ = some va
  c2 : wr.cell? ⟨tb, 2, none⟩ = some vw
  g0 : wr.cell? ⟨w.heap.size, 0, none⟩ = some (.bool d)
  g2 : wr.cell? ⟨w.heap.size, 2, none⟩ = some s2
theorem TsC.of {w wr : World} {tb : Nat} {d : Bool} {s1 s2 vn : Value} {ids : List Int} {TA TW : List (List Value)} {ra rw : List Value} {va vw : Value} (h : Ts w wr tb #[.bool d, s1, s2] vn ids TA TW ra rw va vw) : TsC w wr tb d s1 s2 vn ids TA TW ra rw va vw :=
  ⟨h, by rw [blk_cell h.blk]; rfl, by rw [blk_cell h.blk]; rfl, by rw [blk_cell h.blk]; rfl, by rw [blk_cell h.g]; rfl, by rw [blk_cell h.g]; rfl⟩

def tof.T6 : Bool × List (List Nat × List Nat) := (true, [([], []), ([0], [0]), ([], []), ([2, 2], [2]), ([3], [3]), ([1, 4], [1, 4]), ([0, 1, 2, 3, 4, 5], []), ([6, 5, 5, 0, 1, 2, 3, 4, 5], [5, 6])])
def tof.B6 : List Nat := [0, 1, 0, 4, 12, 31, 63, 127]
theorem tof.tab6 : rtab .any (opsOf Tryz.f13 6) = tof.T6 := by kernel_rfl
theorem tof.bits6 : waitsOk tof.T6.2 tof.B6 = true := by kernel_rfl
theorem Ts.start {w w1 : World} (d : Bool) (s1 s2 : Value) {ids : List Int} {An : Option Addr} {cn : Nat}
    (hR : Kd.R (Kd.int .i64) 3 w1 ((w.alloc (.cells #[.bool d, s1, s2] 25)).alloc (.cells nilT 33)).heap.size (fun _ => True) (.slice An ids.length cn) ids)
    (hb : Below ((w.alloc (.cells #[.bool d, s1, s2] 25)).alloc (.cells nilT 33)).heap.size ((w.alloc (.cells #[.bool d, s1, s2] 25)).alloc (.cells nilT 33)) w1) :
    Ts w (w1.alloc (.cells #[.slice An ids.length cn, .slice none 0 0, .slice none 0 0] 33)) w1.heap.size #[.bool d, s1, s2] (.slice An ids.length cn) ids [] [] [] [] (.slice none 0 0) (.slice none 0 0) := by
  have hs := hb.size
  simp at hs
  have ho : w1.ownsRow ((w.alloc (.cells #[.bool d, s1, s2] 25)).alloc (.cells nilT 33)).heap.size 3 1 (.slice An ids.length cn) ids.length (nums .i64 ids) := by
    obtain ⟨_, inner, ho, hr⟩ := hR
    rw [reps_ints hr] at ho
    exact ho
  have hal : Below w1.heap.size w1 (w1.alloc (.cells #[.slice An ids.length cn, .slice none 0 0, .slice none 0 0] 33)) := (Below.refl _ _).alloc (Nat.le_refl _) _
  have h0 : Below w.heap.size w ((w.alloc (.cells #[.bool d, s1, s2] 25)).alloc (.cells nilT 33)) := ((Below.refl _ _).alloc (Nat.le_refl _) _).alloc (by simp) _
  have hB : Below w.heap.size w w1 := h0.trans (hb.mono (by simp; omega))
  refine ⟨heap_alloc_new _ _, ?_, ?_, by omega, pw_own_below (own_weaken ho (by simp; omega)) hal, Tb.nil _ _ _ _, Tb.nil _ _ _ _, fun i h => by simp at h, hB.alloc (by omega) _⟩
  · rw [hal.block _ (by omega), hb.block _ (by simp; omega), Below.heap_alloc _ _ _ (by simp)]
    exact heap_alloc_new _ _
  · rw [hal.block _ (by omega), hb.block _ (by simp)]
    have := heap_alloc_new (w.alloc (.cells #[.bool d, s1, s2] 25)) (.cells nilT 33)
    rw [show (w.alloc (.cells #[.bool d, s1, s2] 25)).heap.size = w.heap.size + 1 by simp] at this
    exact this

def putT (T : List (List Value)) (u v : Nat) (x : Value) : List (List Value) := T.set u ((T.getD u []).set v x)
def stepA (d : Bool) (ids : List Int) (T : List (List Value)) (e : S38) : List (List Value) :=
  if d then putT T (ids.idxOf e.f0) (ids.idxOf e.f1) (.bool true) else putT (putT T (ids.idxOf e.f0) (ids.idxOf e.f1) (.bool true)) (ids.idxOf e.f1) (ids.idxOf e.f0) (.bool true)
def stepW (d : Bool) (ids : List Int) (T : List (List Value)) (e : S38) : List (List Value) :=
  if d then putT T (ids.idxOf e.f0) (ids.idxOf e.f1) (.int .i64 e.f2) else putT (putT T (ids.idxOf e.f0) (ids.idxOf e.f1) (.int .i64 e.f2)) (ids.idxOf e.f1) (ids.idxOf e.f0) (.int .i64 e.f2)

/-- all rows are n long -/
def Sq (n : Nat) (T : List (List Value)) : Prop := T.length = n ∧ ∀ i, i < n → (T.getD i []).length = n
theorem Sq.put {n : Nat} {T : List (List Value)} (h : Sq n T) (u v : Nat) (x : Value) : Sq n (putT T u v x) := by
  refine ⟨by unfold putT; rw [List.length_set]; exact h.1, fun i hi => ?_⟩
  unfold putT
  rw [List.getD_eq_getElem?_getD, List.getElem?_set]
  by_cases hu : u = i
  · subst hu
    rw [if_pos rfl, if_pos (by rw [h.1]; exact hi), Option.getD_some, List.length_set]
    exact h.2 u hi
  · rw [if_neg hu, ← List.getD_eq_getElem?_getD]; exact h.2 i hi

def zA (n k : Nat) : List (List Value) := List.replicate k (List.replicate n (.bool false))
def zW (n k : Nat) : List (List Value) := List.replicate k (List.replicate n (.int .i64 0))

theorem Sq.zA (n : Nat) : Sq n (zA n n) := by
  refine ⟨by simp [Q.zA], fun i hi => ?_⟩
  unfold Q.zA
  rw [List.getD_eq_getElem?_getD, List.getElem?_replicate, if_pos hi]; simp
theorem Sq.zW (n : Nat) : Sq n (zW n n) := by
  refine ⟨by simp [Q.zW], fun i hi => ?_⟩
  unfold Q.zW
  rw [List.getD_eq_getElem?_getD, List.getElem?_replicate, if_pos hi]; simp
theorem Sq.stepA {n : Nat} {T : List (List Value)} (h : Sq n T) (d : Bool) (ids : List Int) (e : S38) : Sq n (stepA d ids T e) := by
  unfold Q.stepA; split
  · exact h.put _ _ _
  · exact (h.put _ _ _).put _ _ _
theorem Sq.stepW {n : Nat} {T : List (List Value)} (h : Sq n T) (d : Bool) (ids : List Int) (e : S38) : Sq n (stepW d ids T e) := by
  unfold Q.stepW; split
  · exact h.put _ _ _
  · exact (h.put _ _ _).put _ _ _
/-- what a region that stores into both tables reads -/
theorem Ts.rows {w wr : World} {tb n : Nat} {gv : Array Value} {vn : Value} {ids : List Int} {TA TW : List (List Value)} {ra rw : List Value} {va vw : Value} (h : Ts w wr tb gv vn ids TA TW ra rw va vw) (hA : Sq n TA) (hW : Sq n TW) (u v : Nat) (hu : u < n) (hv : v < n) :
    ∃ ga CA gw CW gu cu gx cx, ∃ (h1 : u < ra.length) (h2 : u < rw.length), va = .slice (some ⟨ga, 0, none⟩) ra.length CA ∧ vw = .slice (some ⟨gw, 0, none⟩) rw.length CW ∧ ra[u] = .slice (some ⟨gu, 0, none⟩) n cu ∧ rw[u] = .slice (some ⟨gx, 0, none⟩) n cx ∧
      wr.cell? ⟨ga, u, none⟩ = some (.slice (some ⟨gu, 0, none⟩) n cu) ∧ wr.cell? ⟨gw, u, none⟩ = some (.slice (some ⟨gx, 0, none⟩) n cx) ∧ gu ≠ gx ∧
      (∃ x, wr.cell? ⟨gu, v, none⟩ = some x) ∧ wr.frozen? ⟨gu, v, none⟩ = false ∧ (∃ y, wr.cell? ⟨gx, v, none⟩ = some y) ∧ wr.frozen? ⟨gx, v, none⟩ = false ∧
      (∀ b, (∃ y, (wr.setCell ⟨gu, v, none⟩ b).cell? ⟨gx, v, none⟩ = some y) ∧ (wr.setCell ⟨gu, v, none⟩ b).frozen? ⟨gx, v, none⟩ = false) := by
  have h1 : u < ra.length := by rw [h.A.l, hA.1]; exact hu
  have h2 : u < rw.length := by rw [h.W.l, hW.1]; exact hu
  obtain ⟨ga, CA, e1, f1⟩ := h.A.cell u h1
  obtain ⟨gw, CW, e2, f2⟩ := h.W.cell u h2
  have lA := hA.2 u hu
  have lW := hW.2 u hu
  obtain ⟨gu, cu, e3, b3, l3, _, q3, z3⟩ := h.A.rowCell u h1 v (by rw [lA]; exact hv)
  obtain ⟨gx, cx, e4, b4, l4, _, q4, z4⟩ := h.W.rowCell u h2 v (by rw [lW]; exact hv)
  rw [lA] at e3
  rw [lW] at e4
  rw [e3] at f1
  rw [e4] at f2
  have hne : gu ≠ gx := by
    rintro rfl
    obtain ⟨c1, hc1⟩ := own_block (h.A.row u h1) (k := gu) (by rw [e3]; rfl)
    obtain ⟨c2, hc2⟩ := own_block (h.W.row u h2) (k := gu) (by rw [e4]; rfl)
    exact absurd (blk_type hc1 hc2) (by decide)
  refine ⟨ga, CA, gw, CW, gu, cu, gx, cx, h1, h2, e1, e2, e3, e4, f1, f2, hne, ⟨_, q3⟩, z3, ⟨_, q4⟩, z4, fun b => ?_⟩
  obtain ⟨gx', cx', e5, _, _, _, q5, z5⟩ := (h.setA u h1 e3 v b).W.rowCell u h2 v (by rw [lW]; exact hv)
  rw [e4] at e5
  injection e5 with e6 _ _
  injection e6 with e6
  injection e6 with e6
  subst e6
  exact ⟨⟨_, q5⟩, z5⟩

end Go.Proofs.YtfkmpnpliadohaaGreat.Q
