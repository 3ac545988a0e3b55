import Derived.Test.YtfkmpnpliadohaaGreatFBC
import Derived.Test.YtfkmpnpliadohaaGreatFV3
import Derived.BigGuardPart
import Derived.Laws.CopyRow
import Derived.Test.YtfkmpnpliadohaaGreatFPW1
set_option linter.unusedVariables false
set_option linter.unusedSimpArgs false
/- The closures of openHops, and slices.ContainsFunc of edges. -/
namespace Go.Proofs.YtfkmpnpliadohaaGreat.R
open Go.RowKit Go.Lab Go.Maps Go.Proofs.YtfkmpnpliadohaaGreatW.PrintWords Go.Proofs.YtfkmpnpliadohaaGreatW.PrintLast Go.Proofs.YtfkmpnpliadohaaGreatW.PrintMore PL

/-- a hop as cells -/
def hopC (h : S54) : List Value := [.int .i64 h.f0, .int .i64 h.f1, .int .i64 h.f2]
def flH (xs : List S54) : List Value := xs.flatMap hopC
theorem flH_len (xs : List S54) : (flH xs).length = xs.length * 3 := by
  induction xs with
  | nil => rfl
  | cons p xs ih => show (hopC p ++ flH xs).length = _; rw [List.length_append, ih, List.length_cons]; simp [hopC]; omega
theorem flH_append (a b : List S54) : flH (a ++ b) = flH a ++ flH b := by unfold flH; rw [List.flatMap_append]
theorem flH_of : ∀ (xs : List S54) (inner : List Value), inner.length = xs.length * 3 → (∀ j p, xs[j]? = some p → (inner.drop (j * 3)).take 3 = hopC p) → inner = flH xs := by
  intro xs
  induction xs with
  | nil => intro inner h _; exact List.eq_nil_of_length_eq_zero (by simpa using h)
  | cons x xs ih =>
    intro inner h hp
    have h0 := hp 0 x rfl
    rw [Nat.zero_mul, List.drop_zero] at h0
    have h1 := ih (inner.drop 3) (by rw [List.length_drop, h, List.length_cons]; omega) (fun j p hj => by
      have := hp (j + 1) p hj
      rw [List.drop_drop]
      rw [show 3 + j * 3 = (j + 1) * 3 by omega]; exact this)
    show inner = hopC x ++ flH xs
    rw [← h0, ← h1, List.take_append_drop]
theorem own_of_R54 {w : World} {base : Nat} {ok : Nat → Prop} {v : Value} {xs : List S54} (h : Kd.R k54 54 w base ok v xs) : w.ownsRow base 54 3 v xs.length (flH xs) := by
  obtain ⟨_, inner, ho, hl, hr⟩ := h
  have : inner = flH xs := flH_of xs inner hl (fun j p hj => k54_openM (hr j p hj))
  rw [← this]; exact ho

/-- whether an edge bars a hop -/
def barB (d : Bool) (a : S54) (e : S38) : Bool := (e.f0 == a.f0 && e.f1 == a.f1) || (!d && (e.f0 == a.f1 && e.f1 == a.f0))

set_option maxHeartbeats 8000000 in
set_option maxRecDepth 100000 in
theorem c78_any (d : Bool) (a : S54) (e : S38) (ga gg : Nat) (w : World) (ha : w.heap[ga]? = some (.cells #[.int .i64 a.f0, .int .i64 a.f1, .int .i64 a.f2] 54 (0, 0))) (hg : w.cell? ⟨gg, 0, none⟩ = some (.bool d)) :
    Calls Tryz.prog 78 #[.agg #[.int .i64 e.f0, .int .i64 e.f1, .int .i64 e.f2], .pointer (some ⟨ga, 0, none⟩), .pointer (some ⟨gg, 0, none⟩)] w fun r w' => r = .returned (.bool (barB d a e)) ∧ Below w.heap.size w w' := by
  obtain ⟨x0, x1, _, _, _, _⟩ := blk_three ha
  have h0 : (w.alloc (.cells #[.int .i64 e.f0, .int .i64 e.f1, .int .i64 e.f2] 38)).cell? ⟨ga, 0, none⟩ = some (.int .i64 a.f0) := Lib.cell?_alloc_some _ x0
  have h1 : (w.alloc (.cells #[.int .i64 e.f0, .int .i64 e.f1, .int .i64 e.f2] 38)).cell? ⟨ga, 1, none⟩ = some (.int .i64 a.f1) := Lib.cell?_alloc_some _ x1
  have hg' : (w.alloc (.cells #[.int .i64 e.f0, .int .i64 e.f1, .int .i64 e.f2] 38)).cell? ⟨gg, 0, none⟩ = some (.bool d) := Lib.cell?_alloc_some _ hg
  have hB : ∀ q1 q2 q3 q4 : Bool, (e.f0 == a.f0) = q1 → (e.f1 == a.f1) = q2 → (e.f0 == a.f1) = q3 → (e.f1 == a.f0) = q4 → barB d a e = ((q1 && q2) || (!d && (q3 && q4))) := by
    intro q1 q2 q3 q4 e1 e2 e3 e4
    unfold barB; rw [e1, e2, e3, e4]
  have HB := Aside0.mk hB
  clear hB ha hg x0 x1
  obtain ⟨q1, e1⟩ : ∃ q, (e.f0 == a.f0) = q := ⟨_, rfl⟩
  obtain ⟨q2, e2⟩ : ∃ q, (e.f1 == a.f1) = q := ⟨_, rfl⟩
  obtain ⟨q3, e3⟩ : ∃ q, (e.f0 == a.f1) = q := ⟨_, rfl⟩
  obtain ⟨q4, e4⟩ : ∃ q, (e.f1 == a.f0) = q := ⟨_, rfl⟩
  have HF := Aside0.mk (HB.out q1 q2 q3 q4 e1 e2 e3 e4)
  clear HB
  generalize barB d a e = R at HF ⊢
  generalize e.f0 = y0 at *
  generalize e.f1 = y1 at *
  generalize a.f0 = z0 at *
  generalize a.f1 = z1 at *
  cases q1 <;> cases q2 <;> cases d <;> cases q3 <;> cases q4
  all_goals
    have hR := HF.out
    simp only [Bool.and_true, Bool.true_and, Bool.and_false, Bool.false_and, Bool.or_false, Bool.or_true, Bool.not_true, Bool.not_false] at hR
    subst hR
    clear HF
    go_enter Tryz.func78, Tryz.ntmps78
    go_wp2
    go_ret
    exact ⟨rfl, (Below.refl _ _).alloc (Nat.le_refl _) _⟩

/-- the first one of a list that is so -/
def idxB {α : Type} (p : α → Bool) (xs : List α) : Int := if xs.findIdx p < xs.length then (xs.findIdx p : Int) else -1
theorem idxB_at {α : Type} (p : α → Bool) (xs : List α) (k : Nat) (hk : k < xs.length) (h1 : (xs.take k).any p = false) (h2 : p xs[k] = true) : idxB p xs = (k : Int) := by
  have h : xs.findIdx p = k := by
    rw [List.findIdx_eq hk]
    refine ⟨h2, fun j hj => ?_⟩
    rw [List.any_eq_false] at h1
    have := h1 (xs[j]'(by omega)) (by rw [List.mem_take_iff_getElem]; exact ⟨j, by omega, rfl⟩)
    simpa using this
  unfold idxB
  rw [h, if_pos hk]
theorem idxB_none {α : Type} (p : α → Bool) (xs : List α) (h1 : xs.any p = false) : idxB p xs = -1 := by
  unfold idxB
  rw [if_neg]
  rw [List.findIdx_lt_length]
  rintro ⟨x, hx, hp⟩
  rw [List.any_eq_false] at h1
  exact h1 x hx hp
theorem idxB_ge {α : Type} (p : α → Bool) (xs : List α) : decide (0 ≤ idxB p xs) = xs.any p := by
  unfold idxB
  by_cases h : xs.findIdx p < xs.length
  · rw [if_pos h, decide_eq_true (by omega)]
    obtain ⟨x, hx, hp⟩ := List.findIdx_lt_length.1 h
    exact (List.any_eq_true.2 ⟨x, hx, hp⟩).symm
  · rw [if_neg h, decide_eq_false (by omega)]
    symm
    rw [List.any_eq_false]
    intro x hx hp
    exact h (List.findIdx_lt_length.2 ⟨x, hx, hp⟩)
theorem idxB_bd {α : Type} (p : α → Bool) (xs : List α) : -1 ≤ idxB p xs ∧ idxB p xs < xs.length := by
  unfold idxB
  split <;> omega

set_option maxHeartbeats 4000000 in
set_option maxRecDepth 100000 in
theorem idx120_any (d : Bool) (a : S54) (ga gg : Nat) (A : Option Addr) (c : Nat) (bs : List S38) (w : World) (ha : w.heap[ga]? = some (.cells #[.int .i64 a.f0, .int .i64 a.f1, .int .i64 a.f2] 54 (0, 0))) (hg : w.cell? ⟨gg, 0, none⟩ = some (.bool d)) (hC : Kd.C k38 w A bs.length bs) (hn : bs.length ≤ 100000) :
    Calls Tryz.prog 120 #[.slice A bs.length c, .func (.func 78) #[] #[.pointer (some ⟨ga, 0, none⟩), .pointer (some ⟨gg, 0, none⟩)]] w fun r w' => r = .returned (.int .i64 (idxB (barB d a) bs)) ∧ Below w.heap.size w w' := by
  have HA := Aside0.mk (And.intro ha hg)
  have HC := Aside0.mk hC
  clear ha hg hC
  go_enter Tryz.func120, Tryz.ntmps120
  go_wp2
  go_loopw [8] (fun i wr => ∃ k : Nat, k ≤ bs.length ∧ i = .int .i64 k ∧ Aside0 ((bs.take k).any (barB d a) = false ∧ Below w.heap.size w wr)) (fun i _ => bs.length - (intOf i).toNat)
  case atStart => exact ⟨0, Nat.zero_le _, rfl, ⟨rfl, Below.refl _ _⟩⟩
  case round =>
    obtain ⟨k, hk, rfl, HR⟩ := hrel
    by_cases hlt : k < bs.length
    · obtain ⟨ad, rfl, hc0, hc1, hc2⟩ := at_T38 (Kd.C_below HC.out HR.out.2) (k : Int) (by omega) (by omega)
      rw [Int.toNat_natCast] at hc0 hc1 hc2
      have hrd : rd_T38 bs (k : Int) = bs[k] := by unfold rd_T38; simp [List.getD_eq_getElem?_getD, hlt]
      have HRD := Aside0.mk hrd
      have HTS := Aside0.mk (show bs.take (k + 1) = bs.take k ++ [rd_T38 bs (k : Int)] by rw [hrd]; exact List.take_succ_eq_append_getElem hlt)
      clear hrd
      generalize rd_T38 bs (k : Int) = b at hc0 hc1 hc2 HTS HRD
      obtain ⟨q, hq⟩ : ∃ q, barB d a b = q := ⟨_, rfl⟩
      have HQ := Aside0.mk hq
      clear hq
      cases q with
      | true =>
        go_wp2_with (go_at_call 78; refine (c78_any d a b ga gg _ (blk_keep (HR.out.2) HA.out.1) (below_cellOf HR.out.2 HA.out.2)).mono ?_; rintro e w1 ⟨rfl, hb1⟩; rw [HQ.out]; have HB1 := Aside0.mk hb1; clear hb1)
        go_ret
        refine ⟨?_, HR.out.2.trans (HB1.out.mono HR.out.2.size)⟩
        rw [idxB_at (barB d a) bs k hlt HR.out.1 (by rw [← HRD.out]; exact HQ.out)]; rfl
      | false =>
        go_wp2_with (go_at_call 78; refine (c78_any d a b ga gg _ (blk_keep (HR.out.2) HA.out.1) (below_cellOf HR.out.2 HA.out.2)).mono ?_; rintro e w1 ⟨rfl, hb1⟩; rw [HQ.out]; have HB1 := Aside0.mk hb1; clear hb1)
        go_roundw
        case rel => exact ⟨k + 1, by omega, by go_num, ⟨by rw [HTS.out, List.any_append, HR.out.1, List.any_cons, HQ.out]; rfl, HR.out.2.trans (HB1.out.mono HR.out.2.size)⟩⟩
        case measure => simp [intOf]; omega
    · have hke : k = bs.length := by omega
      have HF := Aside0.mk (show idxB (barB d a) bs = -1 from idxB_none _ _ (by have := HR.out.1; rw [hke, List.take_length] at this; exact this))
      have HK := Aside0.mk hke
      clear hke
      go_wp2
      go_ret
      exact ⟨by rw [HF.out]; rfl, HR.out.2⟩
theorem cf77_any (d : Bool) (a : S54) (ga gg : Nat) (A : Option Addr) (c : Nat) (bs : List S38) (w : World) (ha : w.heap[ga]? = some (.cells #[.int .i64 a.f0, .int .i64 a.f1, .int .i64 a.f2] 54 (0, 0))) (hg : w.cell? ⟨gg, 0, none⟩ = some (.bool d)) (hC : Kd.C k38 w A bs.length bs) (hn : bs.length ≤ 100000) :
    Calls Tryz.prog 77 #[.slice A bs.length c, .func (.func 78) #[] #[.pointer (some ⟨ga, 0, none⟩), .pointer (some ⟨gg, 0, none⟩)]] w fun r w' => r = .returned (.bool (bs.any (barB d a))) ∧ Below w.heap.size w w' := by
  have HA := Aside0.mk (idx120_any d a ga gg A c bs w ha hg hC hn)
  have HG := Aside0.mk (idxB_ge (barB d a) bs)
  clear ha hg hC
  obtain ⟨q, hq⟩ : ∃ q, idxB (barB d a) bs = q := ⟨_, rfl⟩
  rw [hq] at HA HG
  clear hq
  go_enter Tryz.func77, Tryz.ntmps77
  go_wp2_with (go_at_call 120; refine HA.out.mono ?_; rintro e w1 ⟨rfl, hb1⟩; have HB := Aside0.mk hb1; clear hb1)
  go_ret
  exact ⟨by rw [← HG.out]; rfl, HB.out⟩

/-- whether a hop is barred -/
def shutB (d : Bool) (bs : List S38) (h : S54) : Bool := bs.any (barB d h)
set_option maxHeartbeats 2000000 in
theorem c76_any (d : Bool) (h : S54) (gb gg : Nat) (A : Option Addr) (c : Nat) (bs : List S38) (w : World) (hb : w.cell? ⟨gb, 0, none⟩ = some (.slice A bs.length c)) (hg : w.cell? ⟨gg, 0, none⟩ = some (.bool d)) (hC : Kd.C k38 w A bs.length bs) (hn : bs.length ≤ 100000) :
    Calls Tryz.prog 76 #[.agg #[.int .i64 h.f0, .int .i64 h.f1, .int .i64 h.f2], .pointer (some ⟨gb, 0, none⟩), .pointer (some ⟨gg, 0, none⟩)] w fun r w' => r = .returned (.bool (shutB d bs h)) ∧ Below w.heap.size w w' := by
  have hb1 : Below w.heap.size w (w.alloc (.cells #[.int .i64 h.f0, .int .i64 h.f1, .int .i64 h.f2] 54)) := (Below.refl _ _).alloc (Nat.le_refl _) _
  have HA := Aside0.mk (cf77_any d h w.heap.size gg A c bs _ (heap_alloc_new w _) (below_cellOf hb1 hg) (Kd.C_below hC hb1) hn)
  have hb' := below_cellOf hb1 hb
  have HB := Aside0.mk hb1
  clear hb hg hC hb1
  go_enter Tryz.func76, Tryz.ntmps76
  go_wp2_with (go_at_call 77; refine HA.out.mono ?_; rintro e w1 ⟨rfl, hb1⟩; have HB1 := Aside0.mk hb1; clear hb1)
  go_ret
  exact ⟨rfl, HB.out.trans (HB1.out.mono HB.out.size)⟩
end Go.Proofs.YtfkmpnpliadohaaGreat.R

set_option linter.unusedVariables false
set_option linter.unusedSimpArgs false
/- slices.DeleteFunc of hops. -/
namespace Go.Lab
open Go.RowKit

theorem run_clear_rowk {P : Program} (w : World) (t e ty : TypeId) (z : Value) (size : Nat) (ht : P.underlying t = some (.slice e)) (hv : ∀ w, (zeroValue e).run P w = .ok z w) (hzs : z.cells.size = size) (g o n c : Nat) (hn : 0 < n) (cur : Array Value) (tt : TypeId)
    (hg : w.heap[g]? = some (.cells cur tt (0, 0))) (hfit : o + n * size ≤ cur.size) (h1 : ∀ v ∈ (Builtin.zeroCells z.cells n).toList, v.oneCell' = true) :
    (Builtin.clear_ #[t] ty #[.slice (some ⟨g, o, none⟩) n c]).run P w = .ok (.tuple #[]) (w.setRow g (cur.toList.take o ++ (Builtin.zeroCells z.cells n).toList ++ cur.toList.drop (o + (Builtin.zeroCells z.cells n).toList.length)).toArray) := by
  have hl : (Builtin.zeroCells z.cells n).toList.length = n * size := by rw [Array.length_toList, size_zeroCells, hzs]
  have hst := run_storeCells_at P g o tt (Builtin.zeroCells z.cells n).toList 0 cur w hg (by rw [hl]; simpa using hfit) h1
  obtain ⟨m, rfl⟩ : ∃ m, n = m + 1 := ⟨n - 1, by omega⟩
  simp only [Nat.add_zero] at hst
  simp [Builtin.clear_, run_underlying ht, hv, hst]

theorem wpList_clear_rowk {P : Program} {w : World} {ops : Array Oper} {rest : List Oper} {o : Oper} {a : Act} {Q : Exit → Act → World → Prop} (hgd : o.guard = none) (s : Operand) (t : TypeId)
    (ho : o.op = .call { callee := .builtin .clear, args := #[s], argTypes := #[t] }) (e : TypeId) (z : Value) (size : Nat) (ht : P.underlying t = some (.slice e)) (hv : ∀ w, (zeroValue e).run P w = .ok z w) (hzs : z.cells.size = size)
    (g off n c : Nat) (hs : a.eval s = .slice (some ⟨g, off, none⟩) n c) (hn : 0 < n) (cur : List Value) (tt : TypeId) (hg : w.heap[g]? = some (.cells cur.toArray tt (0, 0))) (hfit : off + n * size ≤ cur.length) (h1 : ∀ v ∈ (Builtin.zeroCells z.cells n).toList, v.oneCell' = true)
    (h : ∀ w', Hid (w'.heap[g]? = some (.cells (splice cur off (Builtin.zeroCells z.cells n).toList).toArray tt (0, 0))) → w.grownBy w' (some g) → wpList P ops Q rest (a.put o.dst (.tuple #[])) w') : wpList P ops Q (o :: rest) a w := by
  refine wpList_plain hgd fun K hK => ?_
  have hrun := run_clear_rowk (P := P) w t e o.type z size ht hv hzs g off n c hn cur.toArray tt hg (by simpa using hfit) h1
  unfold Oper.wp
  simp [execOp, ho, resolve, invoke, builtin, hs, hrun, Result.andThen]
  exact hK _ _ (h _ (show _ = _ by simpa [splice] using setRow_heap w g _ _ tt _ hg) (by simpa using grownBy_setRow w g _))
end Go.Lab

namespace Go.Proofs.YtfkmpnpliadohaaGreat.R
open Go.RowKit Go.Lab Go.Maps Go.Proofs.YtfkmpnpliadohaaGreatW.PrintWords Go.Proofs.YtfkmpnpliadohaaGreatW.PrintLast Go.Proofs.YtfkmpnpliadohaaGreatW.PrintMore PL

/-- what the closure of openHops reads, in one world -/
structure CE (w : World) (d : Bool) (gb gg : Nat) (A : Option Addr) (c : Nat) (bs : List S38) : Prop where
  hb : w.cell? ⟨gb, 0, none⟩ = some (.slice A bs.length c)
  hg : w.cell? ⟨gg, 0, none⟩ = some (.bool d)
  hC : Kd.C k38 w A bs.length bs
  hn : bs.length ≤ 100000
theorem CE.below {w w1 : World} {d : Bool} {gb gg : Nat} {A : Option Addr} {c : Nat} {bs : List S38} (h : CE w d gb gg A c bs) (hb : Below w.heap.size w w1) : CE w1 d gb gg A c bs :=
  ⟨below_cellOf hb h.hb, below_cellOf hb h.hg, Kd.C_below h.hC hb, h.hn⟩

theorem flH_at (xs : List S54) (k : Nat) (hk : k < xs.length) : (flH xs)[k * 3]? = some (.int .i64 xs[k].f0) ∧ (flH xs)[k * 3 + 1]? = some (.int .i64 xs[k].f1) ∧ (flH xs)[k * 3 + 2]? = some (.int .i64 xs[k].f2) := by
  have e : xs = xs.take k ++ (xs[k] :: xs.drop (k + 1)) := by rw [List.getElem_cons_drop, List.take_append_drop]
  have hl : (flH (xs.take k)).length = k * 3 := by rw [flH_len, List.length_take]; omega
  have hv : flH xs = flH (xs.take k) ++ (Value.int .i64 xs[k].f0 :: Value.int .i64 xs[k].f1 :: Value.int .i64 xs[k].f2 :: flH (xs.drop (k + 1))) := by
    conv => lhs; rw [e]
    rw [flH_append]; rfl
  rw [hv]
  refine ⟨?_, ?_, ?_⟩
  · rw [List.getElem?_append_right (by omega), hl, show k * 3 - k * 3 = 0 by omega]; rfl
  · rw [List.getElem?_append_right (by omega), hl, show k * 3 + 1 - k * 3 = 1 by omega]; rfl
  · rw [List.getElem?_append_right (by omega), hl, show k * 3 + 2 - k * 3 = 2 by omega]; rfl
theorem flH_set (xs : List S54) (k : Nat) (hk : k < xs.length) (h : S54) : (((flH xs).set (k * 3) (.int .i64 h.f0)).set (k * 3 + 1) (.int .i64 h.f1)).set (k * 3 + 2) (.int .i64 h.f2) = flH (xs.set k h) := by
  have e : xs = xs.take k ++ (xs[k] :: xs.drop (k + 1)) := by rw [List.getElem_cons_drop, List.take_append_drop]
  have hl : (flH (xs.take k)).length = k * 3 := by rw [flH_len, List.length_take]; omega
  have hv : flH xs = flH (xs.take k) ++ (Value.int .i64 xs[k].f0 :: Value.int .i64 xs[k].f1 :: Value.int .i64 xs[k].f2 :: flH (xs.drop (k + 1))) := by
    conv => lhs; rw [e]
    rw [flH_append]; rfl
  have hs : xs.set k h = xs.take k ++ (h :: xs.drop (k + 1)) := by rw [List.set_eq_take_append_cons_drop, if_pos hk]
  rw [hv, hs, flH_append, List.set_append_right _ _ (by omega), hl, show k * 3 - k * 3 = 0 by omega, List.set_append_right _ _ (by omega), hl, show k * 3 + 1 - k * 3 = 1 by omega, List.set_append_right _ _ (by omega), hl, show k * 3 + 2 - k * 3 = 2 by omega]
  rfl

set_option maxHeartbeats 4000000 in
set_option maxRecDepth 100000 in
theorem idx79_76 (d : Bool) (gb gg : Nat) (A : Option Addr) (c : Nat) (bs : List S38) (X : Option Addr) (cx : Nat) (xs : List S54) (w : World) (hE : CE w d gb gg A c bs) (hX : Kd.C k54 w X xs.length xs) (hn : xs.length ≤ 100000) :
    Calls Tryz.prog 79 #[.slice X xs.length cx, .func (.func 76) #[] #[.pointer (some ⟨gb, 0, none⟩), .pointer (some ⟨gg, 0, none⟩)]] w fun r w' => r = .returned (.int .i64 (idxB (shutB d bs) xs)) ∧ Below w.heap.size w w' := by
  have HE := Aside0.mk hE
  have HC := Aside0.mk hX
  clear hE hX
  go_enter Tryz.func79, Tryz.ntmps79
  go_wp2
  go_loopw [8] (fun i wr => ∃ k : Nat, k ≤ xs.length ∧ i = .int .i64 k ∧ Aside0 ((xs.take k).any (shutB d bs) = false ∧ Below w.heap.size w wr)) (fun i _ => xs.length - (intOf i).toNat)
  case atStart => exact ⟨0, Nat.zero_le _, rfl, ⟨rfl, Below.refl _ _⟩⟩
  case round =>
    obtain ⟨k, hk, rfl, HR⟩ := hrel
    by_cases hlt : k < xs.length
    · obtain ⟨ad, rfl, hc0, hc1, hc2⟩ := at_T54 (Kd.C_below HC.out HR.out.2) (k : Int) (by omega) (by omega)
      rw [Int.toNat_natCast] at hc0 hc1 hc2
      have hrd : rd_T54 xs (k : Int) = xs[k] := by unfold rd_T54; simp [List.getD_eq_getElem?_getD, hlt]
      have HRD := Aside0.mk hrd
      have HTS := Aside0.mk (show xs.take (k + 1) = xs.take k ++ [rd_T54 xs (k : Int)] by rw [hrd]; exact List.take_succ_eq_append_getElem hlt)
      clear hrd
      generalize rd_T54 xs (k : Int) = b at hc0 hc1 hc2 HTS HRD
      obtain ⟨q, hq⟩ : ∃ q, shutB d bs b = q := ⟨_, rfl⟩
      have HQ := Aside0.mk hq
      have HE1 := Aside0.mk (HE.out.below HR.out.2)
      clear hq
      cases q with
      | true =>
        go_wp2_with (go_at_call 76; refine (c76_any d b gb gg A c bs _ HE1.out.hb HE1.out.hg HE1.out.hC HE1.out.hn).mono ?_; rintro e w1 ⟨rfl, hb1⟩; rw [HQ.out]; have HB1 := Aside0.mk hb1; clear hb1)
        go_ret
        refine ⟨?_, HR.out.2.trans (HB1.out.mono HR.out.2.size)⟩
        rw [idxB_at (shutB d bs) xs k hlt HR.out.1 (by rw [← HRD.out]; exact HQ.out)]; rfl
      | false =>
        go_wp2_with (go_at_call 76; refine (c76_any d b gb gg A c bs _ HE1.out.hb HE1.out.hg HE1.out.hC HE1.out.hn).mono ?_; rintro e w1 ⟨rfl, hb1⟩; rw [HQ.out]; have HB1 := Aside0.mk hb1; clear hb1)
        go_roundw
        case rel => exact ⟨k + 1, by omega, by go_num, ⟨by rw [HTS.out, List.any_append, HR.out.1, List.any_cons, HQ.out]; rfl, HR.out.2.trans (HB1.out.mono HR.out.2.size)⟩⟩
        case measure => simp [intOf]; omega
    · have hke : k = xs.length := by omega
      have HF := Aside0.mk (show idxB (shutB d bs) xs = -1 from idxB_none _ _ (by have := HR.out.1; rw [hke, List.take_length] at this; exact this))
      have HK := Aside0.mk hke
      clear hke
      go_wp2
      go_ret
      exact ⟨by rw [HF.out]; rfl, HR.out.2⟩

/-- the hops that are kept -/
def openB (d : Bool) (bs : List S38) (xs : List S54) : List S54 := xs.filter fun h => !shutB d bs h
/-- DeleteFunc's row ahead of a round -/
def DelI (lo g cap : Nat) (wB wr : World) (d : Bool) (bs : List S38) (xs : List S54) (k i : Nat) : Prop :=
  ∃ mid : List S54, 0 < mid.length ∧ i + mid.length = k ∧ (openB d bs (xs.take k)).length = i ∧ wr.ownsRow lo 54 3 (.slice (some ⟨g, 0, none⟩) xs.length cap) xs.length (flH (openB d bs (xs.take k) ++ mid ++ xs.drop k)) ∧ Below wB.heap.size wB wr
theorem openB_snoc (d : Bool) (bs : List S38) (xs : List S54) (k : Nat) (hk : k < xs.length) : openB d bs (xs.take (k + 1)) = openB d bs (xs.take k) ++ (if shutB d bs xs[k] = true then [] else [xs[k]]) := by
  unfold openB
  rw [List.take_succ_eq_append_getElem hk, List.filter_append, List.filter_cons, List.filter_nil]
  cases shutB d bs xs[k] <;> rfl
theorem DelI.start {lo g cap : Nat} {wB wr : World} {d : Bool} {bs : List S38} {xs : List S54} {i : Nat} (hi : i < xs.length) (h : idxB (shutB d bs) xs = (i : Int)) (ho : wr.ownsRow lo 54 3 (.slice (some ⟨g, 0, none⟩) xs.length cap) xs.length (flH xs)) (hb : Below wB.heap.size wB wr) : DelI lo g cap wB wr d bs xs (i + 1) i := by
  have hf : xs.findIdx (shutB d bs) = i := by
    unfold idxB at h
    split at h <;> omega
  rw [List.findIdx_eq hi] at hf
  have h0 : openB d bs (xs.take i) = xs.take i := by
    unfold openB
    rw [List.filter_eq_self]
    intro x hx
    obtain ⟨j, hj, rfl⟩ := List.mem_take_iff_getElem.1 hx
    rw [hf.2 j (by omega)]; rfl
  have h1 := openB_snoc d bs xs i hi
  rw [h0, if_pos hf.1, List.append_nil] at h1
  refine ⟨[xs[i]], by simp, rfl, by rw [h1, List.length_take]; omega, ?_, hb⟩
  rw [h1, List.append_assoc, List.singleton_append, List.getElem_cons_drop, List.take_append_drop]
  exact ho
theorem DelI.cells {lo g cap : Nat} {wB wr : World} {d : Bool} {bs : List S38} {xs : List S54} {k i : Nat} (h : DelI lo g cap wB wr d bs xs k i) (hk : k < xs.length) :
    wr.cell? ⟨g, k * 3, none⟩ = some (.int .i64 xs[k].f0) ∧ wr.cell? ⟨g, k * 3 + 1, none⟩ = some (.int .i64 xs[k].f1) ∧ wr.cell? ⟨g, k * 3 + 2, none⟩ = some (.int .i64 xs[k].f2) := by
  obtain ⟨mid, h1, h2, h3, h4, h5⟩ := h
  have hl : (openB d bs (xs.take k) ++ mid).length = k := by rw [List.length_append]; omega
  have hlen : k < (openB d bs (xs.take k) ++ mid ++ xs.drop k).length := by rw [List.length_append, hl, List.length_drop]; omega
  have hat := flH_at (openB d bs (xs.take k) ++ mid ++ xs.drop k) k hlen
  have he : (openB d bs (xs.take k) ++ mid ++ xs.drop k)[k] = xs[k] := by
    rw [List.getElem_append_right (by omega)]
    simp [hl]
  rw [he] at hat
  exact ⟨(World.ownsRow.cellAt h4 (k * 3) (by omega)).trans hat.1, (World.ownsRow.cellAt h4 (k * 3 + 1) (by omega)).trans hat.2.1, (World.ownsRow.cellAt h4 (k * 3 + 2) (by omega)).trans hat.2.2⟩
theorem DelI.frozen {lo g cap : Nat} {wB wr : World} {d : Bool} {bs : List S38} {xs : List S54} {k i : Nat} (h : DelI lo g cap wB wr d bs xs k i) (j : Nat) : wr.frozen? ⟨g, j, none⟩ = false := by
  obtain ⟨mid, h1, h2, h3, h4, h5⟩ := h
  exact World.ownsRow.frozenAt h4 j
theorem DelI.there {lo g cap : Nat} {wB wr : World} {d : Bool} {bs : List S38} {xs : List S54} {k i : Nat} (h : DelI lo g cap wB wr d bs xs k i) (hk : k ≤ xs.length) (j : Nat) (hj : j < xs.length * 3) : ∃ v, wr.cell? ⟨g, j, none⟩ = some v := by
  obtain ⟨mid, h1, h2, h3, h4, h5⟩ := h
  rw [World.ownsRow.cellAt h4 j hj]
  have hl : (flH (openB d bs (xs.take k) ++ mid ++ xs.drop k)).length = xs.length * 3 := h4.1
  exact ⟨_, List.getElem?_eq_getElem (by rw [hl]; exact hj)⟩
theorem DelI.lt {lo g cap : Nat} {wB wr : World} {d : Bool} {bs : List S38} {xs : List S54} {k i : Nat} (h : DelI lo g cap wB wr d bs xs k i) : g < wr.heap.size := by
  obtain ⟨mid, h1, h2, h3, h4, h5⟩ := h
  obtain ⟨c, hc⟩ := own_block h4 (k := g) rfl
  exact blk_lt hc
/-- a hop that goes -/
theorem DelI.drop {lo g cap : Nat} {wB wr w1 : World} {d : Bool} {bs : List S38} {xs : List S54} {k i : Nat} (h : DelI lo g cap wB wr d bs xs k i) (hk : k < xs.length) (hs : shutB d bs xs[k] = true) (hb : Below wr.heap.size wr w1) (hw : wB.heap.size ≤ wr.heap.size) : DelI lo g cap wB w1 d bs xs (k + 1) i := by
  have hlt := h.lt
  obtain ⟨mid, h1, h2, h3, h4, h5⟩ := h
  have he := openB_snoc d bs xs k hk
  rw [if_pos hs, List.append_nil] at he
  refine ⟨mid ++ [xs[k]], by simp, by simp; omega, by rw [he]; exact h3, ?_, h5.trans (hb.mono hw)⟩
  rw [he, show openB d bs (xs.take k) ++ (mid ++ [xs[k]]) ++ xs.drop (k + 1) = openB d bs (xs.take k) ++ mid ++ (xs[k] :: xs.drop (k + 1)) by simp, List.getElem_cons_drop]
  exact own_of_heap h4 fun q hq => hb.block q (by have := Option.some.inj hq; simp at this; omega)
/-- a hop that stays -/
theorem DelI.keep {lo g cap : Nat} {wB wr w1 : World} {d : Bool} {bs : List S38} {xs : List S54} {k i : Nat} (h : DelI lo g cap wB wr d bs xs k i) (hk : k < xs.length) (hs : shutB d bs xs[k] = false) (hb : Below wr.heap.size wr w1) (hw : wB.heap.size ≤ wr.heap.size) (hg : wB.heap.size ≤ g) :
    DelI lo g cap wB (((w1.setCell ⟨g, i * 3, none⟩ (.int .i64 xs[k].f0)).setCell ⟨g, i * 3 + 1, none⟩ (.int .i64 xs[k].f1)).setCell ⟨g, i * 3 + 2, none⟩ (.int .i64 xs[k].f2)) d bs xs (k + 1) (i + 1) := by
  have hlt := h.lt
  obtain ⟨mid, h1, h2, h3, h4, h5⟩ := h
  have he := openB_snoc d bs xs k hk
  rw [if_neg (by rw [hs]; simp)] at he
  obtain ⟨m0, mr, rfl⟩ : ∃ m0 mr, mid = m0 :: mr := by cases mid with | nil => simp at h1 | cons a b => exact ⟨a, b, rfl⟩
  have ho1 : w1.ownsRow lo 54 3 (.slice (some ⟨g, 0, none⟩) xs.length cap) xs.length (flH (openB d bs (xs.take k) ++ (m0 :: mr) ++ xs.drop k)) := own_of_heap h4 fun q hq => hb.block q (by have := Option.some.inj hq; simp at this; omega)
  have ho2 := (World.ownsRow.stored (World.ownsRow.stored (World.ownsRow.stored ho1 (i * 3) (.int .i64 xs[k].f0)).1 (i * 3 + 1) (.int .i64 xs[k].f1)).1 (i * 3 + 2) (.int .i64 xs[k].f2)).1
  rw [flH_set _ i (by simp only [List.length_append, List.length_cons]; omega)] at ho2
  refine ⟨mr ++ [xs[k]], by simp, by simp at h2 ⊢; omega, by rw [he, List.length_append, h3]; simp, ?_, ?_⟩
  · have e2 : (openB d bs (xs.take k) ++ (m0 :: mr) ++ xs.drop k).set i xs[k] = openB d bs (xs.take k) ++ [xs[k]] ++ (mr ++ xs.drop k) := by
      rw [List.append_assoc, List.set_append_right _ _ (by omega), h3, Nat.sub_self, List.cons_append, List.set_cons_zero]
      simp
    rw [e2] at ho2
    rw [he, show openB d bs (xs.take k) ++ [xs[k]] ++ (mr ++ [xs[k]]) ++ xs.drop (k + 1) = openB d bs (xs.take k) ++ [xs[k]] ++ (mr ++ (xs[k] :: xs.drop (k + 1))) by simp, List.getElem_cons_drop]
    exact ho2
  · exact (((h5.trans (hb.mono hw)).setCell hg _).setCell hg _).setCell hg _
end Go.Proofs.YtfkmpnpliadohaaGreat.R

set_option linter.unusedVariables false
set_option linter.unusedSimpArgs false
/- slices.DeleteFunc of hops, walked. -/
namespace Go.Proofs.YtfkmpnpliadohaaGreat.R
open Go.RowKit Go.Lab Go.Maps Go.Proofs.YtfkmpnpliadohaaGreatW.PrintWords Go.Proofs.YtfkmpnpliadohaaGreatW.PrintLast Go.Proofs.YtfkmpnpliadohaaGreatW.PrintMore PL

theorem zero54 (w : World) : (zeroValue 54).run Tryz.prog w = .ok (.agg #[.int .i64 0, .int .i64 0, .int .i64 0]) w := by kernel_rfl
theorem zero54_size : (Value.agg #[.int .i64 0, .int .i64 0, .int .i64 0]).cells.size = 3 := rfl
theorem zero54_one (n : Nat) : ∀ v ∈ (Builtin.zeroCells (Value.agg #[.int .i64 0, .int .i64 0, .int .i64 0]).cells n).toList, v.oneCell' = true := by
  intro v hv
  have hz : (Value.agg #[.int .i64 0, .int .i64 0, .int .i64 0]).cells = #[.int .i64 0, .int .i64 0, .int .i64 0] := rfl
  rw [hz] at hv
  simp [Builtin.zeroCells] at hv
  obtain ⟨i, _, h⟩ := hv
  rw [← h]
  have : i % 3 < 3 := Nat.mod_lt _ (by decide)
  match i % 3, this with
  | 0, _ => rfl
  | 1, _ => rfl
  | 2, _ => rfl

theorem own_cleared {w3 : World} {lo g i n cap : Nat} {curl Z : List Value} {a b : List S54} (hlo : lo ≤ g) (hin : i ≤ n) (hnc : n ≤ cap) (hcm : cap ≤ maxLen) (hcs : curl.length = cap * 3) (ha : a.length = i) (htk : curl.take (n * 3) = flH (a ++ b))
    (hg : w3.heap[g]? = some (.cells (splice curl (i * 3) Z).toArray 54 (0, 0))) (hZ : Z.length = (n - i) * 3) : w3.ownsRow lo 54 3 (.slice (some ⟨g, 0, none⟩) i cap) i (flH a) := by
  refine ⟨by rw [flH_len, ha], .inr ⟨g, cap, _, rfl, hlo, hg, by omega, hcm, ?_, ?_⟩⟩
  · simp only [splice, List.size_toArray, List.length_append, List.length_take, List.length_drop, hZ, hcs]; omega
  · simp only [splice]
    have h1 : curl.take (i * 3) = flH a := by
      have h2 : (curl.take (n * 3)).take (i * 3) = flH a := by
        rw [htk, flH_append]
        exact List.take_left' (by rw [flH_len, ha])
      rw [List.take_take, Nat.min_eq_left (by omega)] at h2
      exact h2
    rw [h1]
    exact List.take_left' (by rw [flH_len, ha])

set_option maxHeartbeats 8000000 in
set_option maxRecDepth 100000 in
theorem del74_any (d : Bool) (gb gg : Nat) (A : Option Addr) (c : Nat) (bs : List S38) (lo g cap : Nat) (xs : List S54) (wB w : World) (hE : CE wB d gb gg A c bs) (hb : Below wB.heap.size wB w) (hg : wB.heap.size ≤ g) (ho : w.ownsRow lo 54 3 (.slice (some ⟨g, 0, none⟩) xs.length cap) xs.length (flH xs)) (hn : xs.length ≤ 100000) (hX : Kd.C k54 w (some ⟨g, 0, none⟩) xs.length xs) :
    Calls Tryz.prog 74 #[.slice (some ⟨g, 0, none⟩) xs.length cap, .func (.func 76) #[] #[.pointer (some ⟨gb, 0, none⟩), .pointer (some ⟨gg, 0, none⟩)]] w fun r w' => ∃ n, r = .returned (.slice (some ⟨g, 0, none⟩) n cap) ∧ w'.ownsRow lo 54 3 (.slice (some ⟨g, 0, none⟩) n cap) n (flH (openB d bs xs)) ∧ n = (openB d bs xs).length ∧ Below wB.heap.size wB w' := by
  have HE := Aside0.mk hE
  have HB := Aside0.mk hb
  have HO := Aside0.mk ho
  have HI := Aside0.mk (idx79_76 d gb gg A c bs (some ⟨g, 0, none⟩) cap xs w (hE.below hb) hX hn)
  have hcapn : xs.length ≤ cap := by
    rcases ho.2 with ⟨h, _⟩ | ⟨g', cap', cur, h, _, _, h5, _⟩
    · cases h
    · simp only [Value.slice.injEq] at h; omega
  have HCN := Aside0.mk hcapn
  clear hE hb ho hX hcapn
  by_cases hall : xs.any (shutB d bs) = false
  · have h1 := idxB_none _ _ hall
    rw [h1] at HI
    have h2 : openB d bs xs = xs := by
      unfold openB
      rw [List.filter_eq_self]
      intro x hx
      rw [List.any_eq_false] at hall
      have := hall x hx
      simpa using this
    have H2 := Aside0.mk h2
    clear h1 h2 hall
    go_enter Tryz.func74, Tryz.ntmps74
    go_wp2_with (go_at_call 79; refine HI.out.mono ?_; rintro e w1 ⟨rfl, hb1⟩; have HB1 := Aside0.mk hb1; clear hb1)
    go_ret
    refine ⟨_, rfl, ?_, by rw [H2.out], HB.out.trans (HB1.out.mono HB.out.size)⟩
    rw [H2.out]
    exact own_of_heap HO.out fun q hq => HB1.out.block q (by obtain ⟨c, hc⟩ := own_block HO.out hq; exact blk_lt hc)
  · obtain ⟨i0, hi0, hi1⟩ : ∃ i : Nat, idxB (shutB d bs) xs = (i : Int) ∧ i < xs.length := by
      have h1 := idxB_ge (shutB d bs) xs
      have h2 := idxB_bd (shutB d bs) xs
      have h3 : xs.any (shutB d bs) = true := by simpa using hall
      rw [h3, decide_eq_true_eq] at h1
      exact ⟨(idxB (shutB d bs) xs).toNat, by omega, by omega⟩
    have HI0 := Aside0.mk hi0
    rw [hi0] at HI
    have hne : ((i0 : Int) == -1) = false := by rw [beq_eq_false_iff_ne]; omega
    clear hi0 hall
    go_enter Tryz.func74, Tryz.ntmps74
    go_wp2_with (go_at_call 79; refine HI.out.mono ?_; rintro e w1 ⟨rfl, hb1⟩; have HB1 := Aside0.mk hb1; clear hb1)
    have HD := Aside0.mk (DelI.start (wB := wB) (wr := w1) hi1 HI0.out (own_of_heap HO.out fun q hq => HB1.out.block q (by obtain ⟨c, hc⟩ := own_block HO.out hq; exact blk_lt hc)) (HB.out.trans (HB1.out.mono HB.out.size)))
    go_loopw [5, 6] (fun v5 v6 wr => ∃ k i : Nat, k ≤ xs.length ∧ i < k ∧ v5 = .int .i64 i ∧ v6 = .int .i64 k ∧ Aside0 (DelI lo g cap wB wr d bs xs k i)) (fun _ v6 _ => xs.length - (intOf v6).toNat)
    case atStart => exact ⟨i0 + 1, i0, by omega, by omega, rfl, by go_num, HD⟩
    case round =>
      clear HD
      obtain ⟨k, i, hk, hik, rfl, rfl, hD⟩ := hrel
      by_cases hlt : k < xs.length
      · obtain ⟨hc0, hc1, hc2⟩ := hD.out.cells hlt
        have hbz : wB.heap.size ≤ wr.heap.size := by obtain ⟨_, _, _, _, _, h⟩ := hD.out; exact h.size
        have hgl := hD.out.lt
        obtain ⟨q, hq⟩ : ∃ q, shutB d bs xs[k] = q := ⟨_, rfl⟩
        have HQ := Aside0.mk hq
        obtain ⟨hx, hhx⟩ : ∃ hx, xs[k] = hx := ⟨_, rfl⟩
        have HX := Aside0.mk hhx
        rw [hhx] at hc0 hc1 hc2 hq
        have HQ' := Aside0.mk hq
        clear hq hhx
        have hbw : Below wB.heap.size wB wr := by obtain ⟨_, _, _, _, _, h⟩ := hD.out; exact h
        have HAL := Aside0.mk (show Below wr.heap.size wr (wr.alloc (.cells #[.int .i64 hx.f0, .int .i64 hx.f1, .int .i64 hx.f2] 54)) from (Below.refl _ _).alloc (Nat.le_refl _) _)
        have HE1 := Aside0.mk (HE.out.below (hbw.trans (HAL.out.mono hbw.size)))
        have HDD := Aside0.mk hD.out
        obtain ⟨y0, hy0⟩ := hD.out.there hk (i * 3) (by omega)
        obtain ⟨y1, hy1⟩ := hD.out.there hk (i * 3 + 1) (by omega)
        obtain ⟨y2, hy2⟩ := hD.out.there hk (i * 3 + 2) (by omega)
        have fz := hD.out.frozen
        have HY := Aside0.mk (And.intro hy0 (And.intro hy1 (And.intro hy2 fz)))
        have HBZ := Aside0.mk hbz
        clear hbw hD hy0 hy1 hy2 fz hbz
        cases q with
        | true =>
          go_wp2_with (go_at_call 76; refine (c76_any d hx gb gg A c bs _ HE1.out.hb HE1.out.hg HE1.out.hC HE1.out.hn).mono ?_; rintro e w2 ⟨rfl, hb2⟩; rw [HQ'.out]; have HB2 := Aside0.mk hb2; clear hb2)
          go_roundw
          case rel => exact ⟨k + 1, i, by omega, by omega, rfl, by go_num, ⟨HDD.out.drop hlt HQ.out (HAL.out.trans (HB2.out.mono HAL.out.size)) HBZ.out⟩⟩
          case measure => simp [intOf]; omega
        | false =>
          go_wp2_with (go_at_call 76; refine (c76_any d hx gb gg A c bs _ HE1.out.hb HE1.out.hg HE1.out.hC HE1.out.hn).mono ?_; rintro e w2 ⟨rfl, hb2⟩; rw [HQ'.out]; have HB2 := Aside0.mk hb2; have HB3 := Aside0.mk (HAL.out.trans (hb2.mono HAL.out.size)); obtain ⟨z0, z1, z2, _, _, _⟩ := blk_three (blk_keep hb2 (heap_alloc_new wr _)); have t0 := below_cellOf HB3.out HY.out.1; have t1 := below_cellOf HB3.out HY.out.2.1; have t2 := below_cellOf HB3.out HY.out.2.2.1; have u0 := (HB3.out.frozen (p := ⟨g, i * 3, none⟩) hgl).trans (HY.out.2.2.2 _); have u1 := (HB3.out.frozen (p := ⟨g, i * 3 + 1, none⟩) hgl).trans (HY.out.2.2.2 _); have u2 := (HB3.out.frozen (p := ⟨g, i * 3 + 2, none⟩) hgl).trans (HY.out.2.2.2 _); clear hb2)
          go_roundw
          case rel =>
            have hfin := HDD.out.keep hlt HQ.out HB3.out HBZ.out hg
            rw [HX.out] at hfin
            exact ⟨k + 1, i + 1, by omega, by omega, by go_num, by go_num, ⟨hfin⟩⟩
          case measure => simp [intOf]; omega
      · have hke : k = xs.length := by omega
        have hD' := hD.out
        rw [hke] at hD'
        obtain ⟨mid, h1, h2, h3, h4, h5⟩ := hD'
        rw [List.take_of_length_le (Nat.le_refl _), List.drop_length, List.append_nil] at h4
        rw [List.take_of_length_le (Nat.le_refl _)] at h3
        have hin : i < xs.length := by omega
        have hic : ¬ cap = i := by have := HCN.out; omega
        have hic2 : i ≤ cap := by have := HCN.out; omega
        have hic3 : (i : Int) ≤ (xs.length : Int) := by omega
        rcases h4.2 with ⟨hv, _⟩ | ⟨g', cap', cur, hv, hlo, hgg, hnc, hcm, hcs, htk⟩
        · cases hv
        · simp only [Value.slice.injEq, Option.some.injEq, Addr.mk.injEq] at hv
          obtain ⟨⟨rfl, _⟩, _, rfl⟩ := hv
          obtain ⟨curl, hcurl⟩ : ∃ l : List Value, cur = l.toArray := ⟨cur.toList, by simp⟩
          subst hcurl
          simp only [List.size_toArray] at hcs htk
          have HGG := Aside0.mk hgg
          have HFI := Aside0.mk (And.intro h3 (And.intro h5 (And.intro hlo (And.intro hcm (And.intro hcs htk)))))
          have HFIT := Aside0.mk (show i * 3 + (xs.length - i) * 3 ≤ curl.length by omega)
          have HPOS := Aside0.mk (show 0 < xs.length - i by omega)
          have HKE := Aside0.mk hke
          clear h1 h2 h3 h4 h5 hke hgg hlo hcm hcs htk hD
          go_wp2_with (with_reducible refine wpList_clear_rowk rfl (.tmp 38) 50 rfl 54 _ 3 Tryz.underlying50 zero54 zero54_size g (i * 3) (xs.length - i) (cap - i) rfl HPOS.out curl 54 HGG.out HFIT.out (zero54_one _) ?_; intro w3 hg3 hgr3; have HG3 := Aside0.mk (And.intro hg3 hgr3); clear hg3 hgr3)
          go_ret
          obtain ⟨h3, h5, hlo, hcm, hcs, htk⟩ := HFI.out
          refine ⟨i, rfl, ?_, h3.symm, h5.trans ⟨HG3.out.2.os, HG3.out.2.tape, HG3.out.2.output, HG3.out.2.size, fun q hq => HG3.out.2.block q (Nat.lt_of_lt_of_le hq h5.size) (fun e => by have := Option.some.inj e; omega)⟩⟩
          · exact own_cleared (lo := lo) (g := g) (i := i) (n := xs.length) (cap := cap) hlo (by omega) HCN.out hcm hcs h3 htk HG3.out.1 (by rw [Array.length_toList, size_zeroCells, zero54_size])
end Go.Proofs.YtfkmpnpliadohaaGreat.R

set_option linter.unusedVariables false
set_option linter.unusedSimpArgs false
/- laws.openHops. -/
namespace Go.Proofs.YtfkmpnpliadohaaGreat.R
open Go.RowKit Go.Lab Go.Maps Go.Proofs.YtfkmpnpliadohaaGreatW.PrintWords Go.Proofs.YtfkmpnpliadohaaGreatW.PrintLast Go.Proofs.YtfkmpnpliadohaaGreatW.PrintMore PL

theorem R_of_H {w : World} {base : Nat} {v : Value} {xs : List S54} (h : w.ownsRow base 54 3 v xs.length (flH xs)) : Kd.R k54 54 w base (fun _ => True) v xs := by
  refine ⟨fun _ _ => trivial, flH xs, h, by rw [flH_len]; rfl, fun j p hj => ?_⟩
  obtain ⟨hl, rfl⟩ := List.getElem?_eq_some_iff.1 hj
  obtain ⟨e1, e2, e3⟩ := flH_at xs j hl
  have e : List.take 3 (List.drop (j * 3) (flH xs)) = [.int .i64 xs[j].f0, .int .i64 xs[j].f1, .int .i64 xs[j].f2] := by
    apply List.ext_getElem?
    intro i
    rw [List.getElem?_take]
    match i with
    | 0 => rw [if_pos (by omega), List.getElem?_drop]; exact e1
    | 1 => rw [if_pos (by omega), List.getElem?_drop]; exact e2
    | 2 => rw [if_pos (by omega), List.getElem?_drop]; exact e3
    | i + 3 => rw [if_neg (by omega)]; rfl
  show k54.M _ _ _ _ (List.take 3 (List.drop (j * 3) (flH xs)))
  rw [e]
  exact k54_mkM _ _ _ _

set_option maxHeartbeats 2000000 in
theorem del74_all (d : Bool) (gb gg : Nat) (A : Option Addr) (c : Nat) (bs : List S38) (X : Option Addr) (cx : Nat) (xs : List S54) (w : World) (hE : CE w d gb gg A c bs) (hn : xs.length ≤ 100000) (hX : Kd.C k54 w X xs.length xs) (hall : xs.any (shutB d bs) = false) :
    Calls Tryz.prog 74 #[.slice X xs.length cx, .func (.func 76) #[] #[.pointer (some ⟨gb, 0, none⟩), .pointer (some ⟨gg, 0, none⟩)]] w fun r w' => r = .returned (.slice X xs.length cx) ∧ Below w.heap.size w w' := by
  have HI := Aside0.mk (idx79_76 d gb gg A c bs X cx xs w hE hX hn)
  rw [idxB_none _ _ hall] at HI
  clear hE hX hall
  go_enter Tryz.func74, Tryz.ntmps74
  go_wp2_with (go_at_call 79; refine HI.out.mono ?_; rintro e w1 ⟨rfl, hb1⟩; have HB1 := Aside0.mk hb1; clear hb1)
  go_ret
  exact ⟨rfl, HB1.out⟩
theorem openB_all {d : Bool} {bs : List S38} {xs : List S54} (hall : xs.any (shutB d bs) = false) : openB d bs xs = xs := by
  unfold openB
  rw [List.filter_eq_self]
  intro x hx
  rw [List.any_eq_false] at hall
  have := hall x hx
  simpa using this

theorem del74_both (d : Bool) (gb gg : Nat) (A : Option Addr) (c : Nat) (bs : List S38) (v : Value) (xs : List S54) (wB w : World) (hE : CE wB d gb gg A c bs) (hb : Below wB.heap.size wB w) (hn : xs.length ≤ 100000) (hX : Kd.R k54 54 w wB.heap.size (fun _ => True) v xs) :
    Calls Tryz.prog 74 #[v, .func (.func 76) #[] #[.pointer (some ⟨gb, 0, none⟩), .pointer (some ⟨gg, 0, none⟩)]] w fun r w' => ∃ v', r = .returned v' ∧ Kd.R k54 54 w' wB.heap.size (fun _ => True) v' (openB d bs xs) ∧ Below wB.heap.size wB w' := by
  obtain ⟨X, cx, rfl, hl, hC⟩ := Kd.R_reads hX
  by_cases hall : xs.any (shutB d bs) = false
  · refine (del74_all d gb gg A c bs X cx xs w (hE.below hb) hn hC hall).mono ?_
    rintro e w' ⟨rfl, hb1⟩
    refine ⟨_, rfl, ?_, hb.trans (hb1.mono hb.size)⟩
    rw [openB_all hall]
    exact Kd.R_below hX hb1
  · have ho := own_of_R54 hX
    rcases ho.2 with ⟨_, h0⟩ | ⟨g, cap, cur, hv, hg, _⟩
    · exact absurd (by rw [List.eq_nil_of_length_eq_zero h0]; rfl) hall
    · simp only [Value.slice.injEq] at hv
      obtain ⟨rfl, _, rfl⟩ := hv
      refine (del74_any d gb gg A c bs wB.heap.size g cx xs wB w hE hb hg ho hn hC).mono ?_
      rintro e w' ⟨n, rfl, h1, rfl, h3⟩
      exact ⟨_, rfl, R_of_H h1, h3⟩

set_option maxHeartbeats 4000000 in
set_option maxRecDepth 100000 in
theorem openHops_any (k : Nat) (d : Bool) (A1 A2 : Option Addr) (c1 c2 : Nat) (zs : List Int) (es : List S38) (A : Option Addr) (c : Nat) (bs : List S38) (xs : List S54) (w : World)
    (hN : Kd.C (Kd.int .i64) w A1 zs.length zs) (hn1 : zs.length ≤ c1) (hE : Kd.C k38 w A2 es.length es) (hn2 : es.length ≤ c2) (hB : Kd.C k38 w A bs.length bs) (hb : bs.length ≤ 100000) (hx : laws_hops.f k d zs es = some xs) (hxn : xs.length ≤ 100000) :
    Calls Tryz.prog 25 #[.agg #[.bool d, .slice A1 zs.length c1, .slice A2 es.length c2], .slice A bs.length c] w fun e w' => ∃ v, e = .returned v ∧ Kd.R k54 54 w' w.heap.size (fun _ => True) v (openB d bs xs) ∧ Below w.heap.size w w' := by
  obtain ⟨wB, hwB⟩ : ∃ wB, (w.alloc (.cells #[.bool d, .slice A1 zs.length c1, .slice A2 es.length c2] 25)).alloc (.cells #[.slice A bs.length c] 23) = wB := ⟨_, rfl⟩
  have k1 : Below w.heap.size w wB := by rw [← hwB]; exact ((Below.refl _ w).alloc (Nat.le_refl _) _).alloc (by simp) _
  have k2 : wB.heap[w.heap.size]? = some (.cells #[.bool d, .slice A1 zs.length c1, .slice A2 es.length c2] 25 (0, 0)) := by rw [← hwB]; exact blk_alloc (heap_alloc_new w _) _
  have k3 : wB.heap[w.heap.size + 1]? = some (.cells #[.slice A bs.length c] 23 (0, 0)) := by
    rw [← hwB]
    have := heap_alloc_new (w.alloc (.cells #[.bool d, .slice A1 zs.length c1, .slice A2 es.length c2] 25)) (.cells #[.slice A bs.length c] 23)
    simpa using this
  have HC := Aside0.mk (laws_hops.calls k d A1 c1 zs A2 c2 es xs wB (Kd.C_below hN k1) hn1 (Kd.C_below hE k1) hn2 hx)
  have HE := Aside0.mk (show CE wB d (w.heap.size + 1) w.heap.size A c bs from ⟨(blk_cell k3 0).trans rfl, (blk_cell k2 0).trans rfl, Kd.C_below hB k1, hb⟩)
  have HK := Aside0.mk k1
  rw [← hwB] at HC
  have HW := Aside0.mk hwB
  clear hN hE hB hx k1 k2 k3 hwB
  go_enter Tryz.func25, Tryz.ntmps25
  go_wp2_with fail
  refine HC.out.mono ?_
  rw [HW.out]
  rintro e w1 ⟨v, rfl, hR, hb1⟩
  have HR := Aside0.mk hR
  have HB1 := Aside0.mk hb1
  clear hR hb1
  go_wp2_with fail
  refine (del74_both d (w.heap.size + 1) w.heap.size A c bs v xs wB _ HE.out HB1.out hxn HR.out).mono ?_
  rintro e w2 ⟨v', rfl, hR2, hb2⟩
  have HF := Aside0.mk (And.intro (Kd.R_lower hR2 HK.out.size) (HK.out.trans (hb2.mono HK.out.size)))
  clear hR2 hb2
  go_wp2
  go_ret
  exact ⟨_, rfl, HF.out⟩
end Go.Proofs.YtfkmpnpliadohaaGreat.R

set_option linter.unusedVariables false
set_option linter.unusedSimpArgs false
/- The closure of FnDepthFirst, and slices.ContainsFunc of hops. -/
namespace Go.Proofs.YtfkmpnpliadohaaGreat.R
open Go.RowKit Go.Lab Go.Maps Go.Proofs.YtfkmpnpliadohaaGreatW.PrintWords Go.Proofs.YtfkmpnpliadohaaGreatW.PrintLast Go.Proofs.YtfkmpnpliadohaaGreatW.PrintMore PL

/-- whether a hop leads from a node ahead of place i to the one at it -/
def preB (ls : List Int) (i : Nat) (h : S54) : Bool := decide (h.f1 = ls.getD i 0) && decide (h.f0 ∈ ls.take i)
/-- what the closure reads, in one world -/
structure PE (w : World) (gl gi : Nat) (L : Option Addr) (cl : Nat) (ls : List Int) (i : Nat) : Prop where
  hl : w.cell? ⟨gl, 0, none⟩ = some (.slice L ls.length cl)
  hi : w.cell? ⟨gi, 0, none⟩ = some (.int .i64 (i : Int))
  hC : Kd.C (Kd.int .i64) w L ls.length ls
  hlt : i < ls.length
  hcl : ls.length ≤ cl
  hn : ls.length ≤ 100000
theorem PE.below {w w1 : World} {gl gi : Nat} {L : Option Addr} {cl : Nat} {ls : List Int} {i : Nat} (h : PE w gl gi L cl ls i) (hb : Below w.heap.size w w1) : PE w1 gl gi L cl ls i :=
  ⟨below_cellOf hb h.hl, below_cellOf hb h.hi, Kd.C_below h.hC hb, h.hlt, h.hcl, h.hn⟩
theorem C_take {w : World} {L : Option Addr} {ls : List Int} (h : Kd.C (Kd.int .i64) w L ls.length ls) (i : Nat) (hi : i ≤ ls.length) : Kd.C (Kd.int .i64) w L (ls.take i).length (ls.take i) := by
  have h1 : (ls.take i).length = i := by rw [List.length_take]; omega
  refine Kd.C_of_reads (d := (0 : Int)) (h1 := fun _ => rfl) ?_
  have hr := Kd.reads_of_C (d := (0 : Int)) h
  obtain ⟨r1, r2, r3⟩ := hr
  refine ⟨rfl, by omega, fun h0 => ?_⟩
  obtain ⟨ad, e, hc⟩ := r3 (by omega)
  refine ⟨ad, e, fun j hj => ?_⟩
  rw [hc j (by omega)]
  have : (ls.take i).getD j 0 = ls.getD j 0 := by
    rw [List.getD_eq_getElem?_getD, List.getD_eq_getElem?_getD, List.getElem?_take, if_pos (by omega)]
  rw [this]
theorem contains_any (L : Option Addr) (cl : Nat) (ls : List Int) (x : Int) (n : Nat) (hn : n = ls.length) (w : World) (hC : Kd.C (Kd.int .i64) w L ls.length ls) (hcl : ls.length ≤ cl) (hl : ls.length ≤ 100000) :
    Calls Tryz.prog 24 #[.slice L n cl, .int .i64 x] w fun e w' => e = .returned (.bool (decide (x ∈ ls))) ∧ Drawn0 w w' := by
  subst hn
  obtain ⟨k, hk⟩ := (contains_ev ls x hl).rounds
  exact slices_Contains_int_int.calls k L cl ls x _ w hC hcl hk

set_option maxHeartbeats 4000000 in
set_option maxRecDepth 100000 in
theorem c27_any (h : S54) (gl gi : Nat) (L : Option Addr) (cl : Nat) (ls : List Int) (i : Nat) (w : World) (hE : PE w gl gi L cl ls i) :
    Calls Tryz.prog 27 #[.agg #[.int .i64 h.f0, .int .i64 h.f1, .int .i64 h.f2], .pointer (some ⟨gl, 0, none⟩), .pointer (some ⟨gi, 0, none⟩)] w fun r w' => r = .returned (.bool (preB ls i h)) ∧ Below w.heap.size w w' := by
  have hb1 : Below w.heap.size w (w.alloc (.cells #[.int .i64 h.f0, .int .i64 h.f1, .int .i64 h.f2] 54)) := (Below.refl _ _).alloc (Nat.le_refl _) _
  have hE1 := hE.below hb1
  have c1 := hE1.hl
  have c2 := hE1.hi
  obtain ⟨ad, hL, hc3⟩ := C_int_at hE1.hC i hE.hlt
  subst hL
  have b1 : (0 : Int) ≤ (i : Int) := by omega
  have b2 : (i : Int) < (ls.length : Int) := by have := hE.hlt; omega
  have b3 : (i : Int) ≤ (ls.length : Int) := by omega
  have b4 : i ≤ ls.length := by omega
  have b5 : i ≤ cl := by have := hE.hcl; omega
  have hCT : ∀ nq, Calls Tryz.prog 24 #[.slice (some ad) i cl, .int .i64 h.f0] ((w.alloc (.cells #[.int .i64 h.f0, .int .i64 h.f1, .int .i64 h.f2] 54)).drewN nq) fun e w' => e = .returned (.bool (decide (h.f0 ∈ ls.take i))) ∧ Drawn0 ((w.alloc (.cells #[.int .i64 h.f0, .int .i64 h.f1, .int .i64 h.f2] 54)).drewN nq) w' := fun nq =>
    contains_any (some ad) cl (ls.take i) h.f0 i (by rw [List.length_take]; omega) _ (Kd.C_below (C_take hE1.hC i b4) (pw_below_drewN (Below.refl _ _) nq)) (by rw [List.length_take]; omega) (by rw [List.length_take]; have := hE.hn; omega)
  have HCT := Aside0.mk hCT
  have HB := Aside0.mk hb1
  have hpre : preB ls i h = (decide (h.f1 = ls.getD i 0) && decide (h.f0 ∈ ls.take i)) := rfl
  generalize hy : ls.getD i 0 = y at hc3 hpre
  have HP := Aside0.mk hpre
  clear hE hE1 hb1 hCT hy hpre
  by_cases hx : h.f1 = y
  · have hq : (h.f1 == y) = true := by simpa using hx
    have HX := Aside0.mk (decide_eq_true hx)
    clear hx
    go_enter Tryz.func27, Tryz.ntmps27
    go_wp2
    go_quiet ((go_at_call 24; refine (HCT.out _).mono ?_; rintro e w' ⟨rfl, ⟨nd, rfl⟩⟩; (try first | exact ⟨rfl, _, World.drewN_drewN _ _ _⟩ | exact ⟨rfl, _, Eq.trans (World.drewN_drewN _ _ _) (congrArg (World.drewN _) (Nat.add_assoc _ _ _))⟩)))
    go_wp2
    go_ret
    exact ⟨by rw [HP.out, HX.out]; simp, pw_below_drewN HB.out _⟩
  · have hq : (h.f1 == y) = false := by simpa using hx
    have HX := Aside0.mk (decide_eq_false hx)
    clear hx
    go_enter Tryz.func27, Tryz.ntmps27
    go_wp2
    go_quiet (fail)
    go_wp2
    go_ret
    exact ⟨by rw [HP.out, HX.out]; rfl, pw_below_drewN HB.out _⟩

set_option maxHeartbeats 4000000 in
set_option maxRecDepth 100000 in
theorem idx79_27 (gl gi : Nat) (L : Option Addr) (cl : Nat) (ls : List Int) (ix : Nat) (X : Option Addr) (cx : Nat) (xs : List S54) (w : World) (hE : PE w gl gi L cl ls ix) (hX : Kd.C k54 w X xs.length xs) (hn : xs.length ≤ 100000) :
    Calls Tryz.prog 79 #[.slice X xs.length cx, .func (.func 27) #[] #[.pointer (some ⟨gl, 0, none⟩), .pointer (some ⟨gi, 0, none⟩)]] w fun r w' => r = .returned (.int .i64 (idxB (preB ls ix) xs)) ∧ Below w.heap.size w w' := by
  have HE := Aside0.mk hE
  have HC := Aside0.mk hX
  clear hE hX
  go_enter Tryz.func79, Tryz.ntmps79
  go_wp2
  go_loopw [8] (fun i wr => ∃ k : Nat, k ≤ xs.length ∧ i = .int .i64 k ∧ Aside0 ((xs.take k).any (preB ls ix) = false ∧ Below w.heap.size w wr)) (fun i _ => xs.length - (intOf i).toNat)
  case atStart => exact ⟨0, Nat.zero_le _, rfl, ⟨rfl, Below.refl _ _⟩⟩
  case round =>
    obtain ⟨k, hk, rfl, HR⟩ := hrel
    by_cases hlt : k < xs.length
    · obtain ⟨ad, rfl, hc0, hc1, hc2⟩ := at_T54 (Kd.C_below HC.out HR.out.2) (k : Int) (by omega) (by omega)
      rw [Int.toNat_natCast] at hc0 hc1 hc2
      have hrd : rd_T54 xs (k : Int) = xs[k] := by unfold rd_T54; simp [List.getD_eq_getElem?_getD, hlt]
      have HRD := Aside0.mk hrd
      have HTS := Aside0.mk (show xs.take (k + 1) = xs.take k ++ [rd_T54 xs (k : Int)] by rw [hrd]; exact List.take_succ_eq_append_getElem hlt)
      clear hrd
      generalize rd_T54 xs (k : Int) = b at hc0 hc1 hc2 HTS HRD
      obtain ⟨q, hq⟩ : ∃ q, preB ls ix b = q := ⟨_, rfl⟩
      have HQ := Aside0.mk hq
      have HE1 := Aside0.mk (HE.out.below HR.out.2)
      clear hq
      cases q with
      | true =>
        go_wp2_with (go_at_call 27; refine (c27_any b gl gi L cl ls ix _ HE1.out).mono ?_; rintro e w1 ⟨rfl, hb1⟩; rw [HQ.out]; have HB1 := Aside0.mk hb1; clear hb1)
        go_ret
        refine ⟨?_, HR.out.2.trans (HB1.out.mono HR.out.2.size)⟩
        rw [idxB_at (preB ls ix) xs k hlt HR.out.1 (by rw [← HRD.out]; exact HQ.out)]; rfl
      | false =>
        go_wp2_with (go_at_call 27; refine (c27_any b gl gi L cl ls ix _ HE1.out).mono ?_; rintro e w1 ⟨rfl, hb1⟩; rw [HQ.out]; have HB1 := Aside0.mk hb1; clear hb1)
        go_roundw
        case rel => exact ⟨k + 1, by omega, by go_num, ⟨by rw [HTS.out, List.any_append, HR.out.1, List.any_cons, HQ.out]; rfl, HR.out.2.trans (HB1.out.mono HR.out.2.size)⟩⟩
        case measure => simp [intOf]; omega
    · have hke : k = xs.length := by omega
      have HF := Aside0.mk (show idxB (preB ls ix) xs = -1 from idxB_none _ _ (by have := HR.out.1; rw [hke, List.take_length] at this; exact this))
      have HK := Aside0.mk hke
      clear hke
      go_wp2
      go_ret
      exact ⟨by rw [HF.out]; rfl, HR.out.2⟩

theorem cf26_any (gl gi : Nat) (L : Option Addr) (cl : Nat) (ls : List Int) (ix : Nat) (X : Option Addr) (cx : Nat) (xs : List S54) (w : World) (hE : PE w gl gi L cl ls ix) (hX : Kd.C k54 w X xs.length xs) (hn : xs.length ≤ 100000) :
    Calls Tryz.prog 26 #[.slice X xs.length cx, .func (.func 27) #[] #[.pointer (some ⟨gl, 0, none⟩), .pointer (some ⟨gi, 0, none⟩)]] w fun r w' => r = .returned (.bool (xs.any (preB ls ix))) ∧ Below w.heap.size w w' := by
  have HA := Aside0.mk (idx79_27 gl gi L cl ls ix X cx xs w hE hX hn)
  have HG := Aside0.mk (idxB_ge (preB ls ix) xs)
  clear hE hX
  obtain ⟨q, hq⟩ : ∃ q, idxB (preB ls ix) xs = q := ⟨_, rfl⟩
  rw [hq] at HA HG
  clear hq
  go_enter Tryz.func26, Tryz.ntmps26
  go_wp2_with (go_at_call 79; refine HA.out.mono ?_; rintro e w1 ⟨rfl, hb1⟩; have HB := Aside0.mk hb1; clear hb1)
  go_ret
  exact ⟨by rw [← HG.out]; rfl, HB.out⟩
end Go.Proofs.YtfkmpnpliadohaaGreat.R

set_option linter.unusedVariables false
set_option linter.unusedSimpArgs false
/- The law FnDepthFirst, walked. -/
namespace Go.Proofs.YtfkmpnpliadohaaGreat.R
open Go.RowKit Go.Lab Go.Maps Go.Proofs.YtfkmpnpliadohaaGreatW.PrintWords Go.Proofs.YtfkmpnpliadohaaGreatW.PrintLast Go.Proofs.YtfkmpnpliadohaaGreatW.PrintMore PL

/-- what the law reads, in one world -/
structure LS (w0 w : World) (gG : Nat) (d : Bool) (A1 A2 A : Option Addr) (c1 c2 c : Nat) (zs : List Int) (es bs : List S38) : Prop where
  hN : Kd.C (Kd.int .i64) w A1 zs.length zs
  hE : Kd.C k38 w A2 es.length es
  hB : Kd.C k38 w A bs.length bs
  n1 : zs.length ≤ c1
  n2 : es.length ≤ c2
  n3 : bs.length ≤ c
  bk : w.heap[gG]? = some (.cells #[.bool d, .slice A1 zs.length c1, .slice A2 es.length c2] 25 (0, 0))
  bel : Below w0.heap.size w0 w
theorem LS.below {w0 w w1 : World} {gG : Nat} {d : Bool} {A1 A2 A : Option Addr} {c1 c2 c : Nat} {zs : List Int} {es bs : List S38} (h : LS w0 w gG d A1 A2 A c1 c2 c zs es bs) (hb : Below w.heap.size w w1) : LS w0 w1 gG d A1 A2 A c1 c2 c zs es bs :=
  ⟨Kd.C_below h.hN hb, Kd.C_below h.hE hb, Kd.C_below h.hB hb, h.n1, h.n2, h.n3, blk_keep hb h.bk, h.bel.trans (hb.mono h.bel.size)⟩
theorem LS.cells {w0 w : World} {gG : Nat} {d : Bool} {A1 A2 A : Option Addr} {c1 c2 c : Nat} {zs : List Int} {es bs : List S38} (h : LS w0 w gG d A1 A2 A c1 c2 c zs es bs) : w.cell? ⟨gG, 0, none⟩ = some (.bool d) ∧ w.cell? ⟨gG, 1, none⟩ = some (.slice A1 zs.length c1) ∧ w.cell? ⟨gG, 2, none⟩ = some (.slice A2 es.length c2) :=
  ⟨(blk_cell h.bk 0).trans rfl, (blk_cell h.bk 1).trans rfl, (blk_cell h.bk 2).trans rfl⟩
theorem LS.start {w : World} {d : Bool} {A1 A2 A : Option Addr} {c1 c2 c : Nat} {zs : List Int} {es bs : List S38} (hN : Kd.C (Kd.int .i64) w A1 zs.length zs) (hE : Kd.C k38 w A2 es.length es) (hB : Kd.C k38 w A bs.length bs) (n1 : zs.length ≤ c1) (n2 : es.length ≤ c2) (n3 : bs.length ≤ c) :
    LS w (w.alloc (.cells #[.bool d, .slice A1 zs.length c1, .slice A2 es.length c2] 25)) w.heap.size d A1 A2 A c1 c2 c zs es bs := by
  have hb : Below w.heap.size w (w.alloc (.cells #[.bool d, .slice A1 zs.length c1, .slice A2 es.length c2] 25)) := (Below.refl _ _).alloc (Nat.le_refl _) _
  exact ⟨Kd.C_below hN hb, Kd.C_below hE hb, Kd.C_below hB hb, n1, n2, n3, heap_alloc_new w _, hb⟩

/-- the law's state in its loop -/
structure LI (w0 w : World) (gG gl gi : Nat) (d : Bool) (A1 A2 A X : Option Addr) (c1 c2 c cx cl : Nat) (zs : List Int) (es bs : List S38) (os : List S54) (ad : Addr) (ls : List Int) (k : Nat) : Prop where
  s : LS w0 w gG d A1 A2 A c1 c2 c zs es bs
  x : Kd.C k54 w X os.length os
  l : Kd.C (Kd.int .i64) w (some ad) ls.length ls
  gl : w.heap[gl]? = some (.cells #[.slice (some ad) ls.length cl] 22 (0, 0))
  gi : w.heap[gi]? = some (.cells #[.int .i64 (k : Int)] 3 (0, 0))
theorem LI.below {w0 w w1 : World} {gG gl gi : Nat} {d : Bool} {A1 A2 A X : Option Addr} {c1 c2 c cx cl : Nat} {zs : List Int} {es bs : List S38} {os : List S54} {ad : Addr} {ls : List Int} {k : Nat} (h : LI w0 w gG gl gi d A1 A2 A X c1 c2 c cx cl zs es bs os ad ls k) (hb : Below w.heap.size w w1) : LI w0 w1 gG gl gi d A1 A2 A X c1 c2 c cx cl zs es bs os ad ls k :=
  ⟨h.s.below hb, Kd.C_below h.x hb, Kd.C_below h.l hb, blk_keep hb h.gl, blk_keep hb h.gi⟩
theorem LI.next {w0 w : World} {gG gl gi : Nat} {d : Bool} {A1 A2 A X : Option Addr} {c1 c2 c cx cl : Nat} {zs : List Int} {es bs : List S38} {os : List S54} {ad : Addr} {ls : List Int} {k k' : Nat} (h : LI w0 w gG gl gi d A1 A2 A X c1 c2 c cx cl zs es bs os ad ls k) : LI w0 (w.alloc (.cells #[.int .i64 (k' : Int)] 3)) gG gl w.heap.size d A1 A2 A X c1 c2 c cx cl zs es bs os ad ls k' := by
  have hb : Below w.heap.size w (w.alloc (.cells #[.int .i64 (k' : Int)] 3)) := (Below.refl _ _).alloc (Nat.le_refl _) _
  have h2 := h.below hb
  exact ⟨h2.s, h2.x, h2.l, h2.gl, heap_alloc_new w _⟩

set_option maxHeartbeats 16000000 in
set_option maxRecDepth 100000 in
theorem dfl_main (d : Bool) (A1 A2 A : Option Addr) (c1 c2 c : Nat) (zs : List Int) (es bs : List S38) (a t : Int) (xs : List S54) (ls all : List Int) (f : Int) (okb : Bool) (k1 k2 k3 k4 k5 : Nat) (w : World)
    (hN : Kd.C (Kd.int .i64) w A1 zs.length zs) (n1 : zs.length ≤ c1) (hE : Kd.C k38 w A2 es.length es) (n2 : es.length ≤ c2) (hB : Kd.C k38 w A bs.length bs) (n3 : bs.length ≤ c)
    (hfit : laws_zzFits1.f d zs es = some true) (hbs : bs.length ≤ 60) (hz : zs.length ≤ 100000) (h1 : laws_sized.f k1 d zs es 30 = some true) (h2 : laws_formed.f k2 d zs es = some true) (ha : a ∈ zs)
    (h3 : laws_hops.f k3 d zs es = some xs) (hxn : xs.length ≤ 100000) (hdf : impl_DepthFirst.f d zs es a t bs = some (ls, f, okb, false)) (hl0 : 0 < ls.length) (hln : ls.length ≤ 10000) (hla : ls.getD 0 0 = a)
    (hpre : ∀ i, 1 ≤ i → i < ls.length → ls.getD i 0 ∉ ls.take i ∧ (openB d bs xs).any (preB ls i) = true)
    (h4 : laws_reached.f k4 (openB d bs xs) a = some all) (hal : all.length ≤ 100000) (h5 : laws_walksOne.f k5 = some true)
    (hfin : (t ∈ all ∧ okb = true ∧ f = t ∧ ls.getD (ls.length - 1) 0 = t) ∨ (t ∉ all ∧ okb = false ∧ ls.length = all.length)) :
    Calls Tryz.prog 6 #[.agg #[.bool d, .slice A1 zs.length c1, .slice A2 es.length c2], .int .i64 a, .int .i64 t, .slice A bs.length c] w fun e w' => e = .returned (.bool true) ∧ Below w.heap.size w w' := by
  have HS0 := Aside0.mk (LS.start (d := d) hN hE hB n1 n2 n3)
  have H1 := Aside0.mk (And.intro hfit (And.intro h1 (And.intro h2 (And.intro h3 (And.intro hdf (And.intro h4 h5))))))
  have HA := Aside0.mk (show decide (a ∈ zs) = true from decide_eq_true ha)
  have HP := Aside0.mk hpre
  have HF := Aside0.mk hfin
  have HLA := Aside0.mk hla
  have HON := Aside0.mk (show (openB d bs xs).length ≤ 100000 from Nat.le_trans (List.length_filter_le _ _) hxn)
  clear hN hE hB hfit h1 h2 h3 hdf h4 h5 ha hpre hfin hla
  obtain ⟨os, hos⟩ : ∃ os, openB d bs xs = os := ⟨_, rfl⟩
  rw [hos] at H1 HP HON
  have HOS := Aside0.mk hos
  clear hos
  go_enter Tryz.func6, Tryz.ntmps6
  go_wp2_with fail
  refine (laws_zzFits1.calls d A1 c1 zs A2 c2 es true _ HS0.out.hN n1 HS0.out.hE n2 H1.out.1).mono ?_
  rintro e w1 ⟨rfl, hb⟩
  have HS1 := Aside0.mk (HS0.out.below hb)
  obtain ⟨q0, q1, q2⟩ := HS1.out.cells
  clear hb HS0
  go_wp2_with fail
  refine (laws_sized.calls k1 d A1 c1 zs A2 c2 es 30 true _ HS1.out.hN n1 HS1.out.hE n2 H1.out.2.1).mono ?_
  rintro e w2 ⟨rfl, hb⟩
  have HS2 := Aside0.mk (HS1.out.below hb)
  obtain ⟨q0, q1, q2⟩ := HS2.out.cells
  clear hb HS1
  go_wp2_with fail
  refine (laws_formed.calls k2 d A1 c1 zs A2 c2 es true _ HS2.out.hN n1 HS2.out.hE n2 H1.out.2.2.1).mono ?_
  rintro e w3 ⟨rfl, hb⟩
  have HS3 := Aside0.mk (HS2.out.below hb)
  obtain ⟨q0, q1, q2⟩ := HS3.out.cells
  clear hb HS2
  go_wp2_with fail
  refine (contains_any A1 c1 zs a zs.length rfl _ HS3.out.hN n1 hz).mono ?_
  rintro e w4 ⟨rfl, hb⟩
  rw [HA.out]
  have HS4 := Aside0.mk (HS3.out.below hb.below)
  obtain ⟨q0, q1, q2⟩ := HS4.out.cells
  clear hb HS3
  go_wp2_with fail
  refine (openHops_any k3 d A1 A2 c1 c2 zs es A c bs xs _ HS4.out.hN n1 HS4.out.hE n2 HS4.out.hB (by omega) H1.out.2.2.2.1 hxn).mono ?_
  rintro e w5 ⟨vo, rfl, hR, hb⟩
  rw [HOS.out] at hR
  have HS5 := Aside0.mk (HS4.out.below hb)
  obtain ⟨q0, q1, q2⟩ := HS5.out.cells
  obtain ⟨X, cx, rfl, hxc, hXC⟩ := Kd.R_reads hR
  have HX5 := Aside0.mk hXC
  clear hb HS4 hR hXC
  go_wp2_with fail
  refine (impl_DepthFirst.calls d A1 c1 zs A2 c2 es a t A c bs ls f okb false _ HS5.out.hN n1 HS5.out.hE n2 HS5.out.hB n3 H1.out.2.2.2.2.1).mono ?_
  rintro e w6 ⟨vl, rfl, hR, hb⟩
  have HS6 := Aside0.mk (HS5.out.below hb)
  have HX6 := Aside0.mk (Kd.C_below HX5.out hb)
  obtain ⟨q0, q1, q2⟩ := HS6.out.cells
  obtain ⟨L, cl, rfl, hlc, hLC⟩ := Kd.R_reads hR
  obtain ⟨ad, hL, hL0⟩ := C_int_at hLC 0 hl0
  subst hL
  rw [HLA.out] at hL0
  have HL6 := Aside0.mk hLC
  have hL1 : (w6.alloc (.cells #[.slice (some ad) ls.length cl] 22)).cell? ad = some (.int .i64 a) := Lib.cell?_alloc_some _ (by simpa [Addr.add] using hL0)
  clear hb HS5 HX5 hR hLC hL0
  have hn0 : ((ls.length : Int) == 0) = false := by rw [beq_eq_false_iff_ne]; omega
  go_wp2
  obtain ⟨W8, hW8⟩ : ∃ W8, (w6.alloc (.cells #[.slice (some ad) ls.length cl] 22)).alloc (.cells #[.int .i64 1] 3) = W8 := ⟨_, rfl⟩
  rw [hW8]
  have hb7 : Below w6.heap.size w6 (w6.alloc (.cells #[.slice (some ad) ls.length cl] 22)) := (Below.refl _ _).alloc (Nat.le_refl _) _
  have hb8 : Below w6.heap.size w6 W8 := by rw [← hW8]; exact hb7.alloc (by simp) _
  have HI := Aside0.mk (show LI w W8 w.heap.size w6.heap.size (w6.heap.size + 1) d A1 A2 A X c1 c2 c cx cl zs es bs os ad ls 1 from ⟨HS6.out.below hb8, Kd.C_below HX6.out hb8, Kd.C_below HL6.out hb8, by rw [← hW8]; exact blk_alloc (heap_alloc_new w6 _) _, by
    rw [← hW8]
    have := heap_alloc_new (w6.alloc (.cells #[.slice (some ad) ls.length cl] 22)) (.cells #[.int .i64 1] 3)
    simpa using this⟩)
  clear hW8 hb7 hb8 HS6 HX6 HL6 hL1 q0 q1 q2
  go_loopg [14] (ls.length - 1) (fun kq v14 wr => ∃ gi k : Nat, v14 = .pointer (some ⟨gi, 0, none⟩) ∧ Aside0 (LI w wr w.heap.size w6.heap.size gi d A1 A2 A X c1 c2 c cx cl zs es bs os ad ls k ∧ 1 ≤ k ∧ k + kq = ls.length))
  case atStart => exact ⟨w6.heap.size + 1, 1, rfl, ⟨HI.out, Nat.le_refl _, by omega⟩⟩
  case round =>
    clear HI
    obtain ⟨gi, k, rfl, hrel⟩ := hrel
    obtain ⟨hI, hk1, hkq⟩ := hrel.out
    have HI := Aside0.mk hI
    have c1' : wr.cell? ⟨w6.heap.size, 0, none⟩ = some (.slice (some ad) ls.length cl) := (blk_cell hI.gl 0).trans rfl
    have c2' : wr.cell? ⟨gi, 0, none⟩ = some (.int .i64 (k : Int)) := (blk_cell hI.gi 0).trans rfl
    have HKQ := Aside0.mk hkq
    clear hrel hkq
    cases gk with
    | zero =>
      have hke : k = ls.length := by have := HKQ.out; omega
      have hge : ls.length ≤ k := by omega
      clear hke hI
      go_wp2_with fail
      refine (laws_reached.calls k4 X cx os a all _ HI.out.x hxc H1.out.2.2.2.2.2.1).mono ?_
      rintro e w11 ⟨va, rfl, hR, hb⟩
      have HI11 := Aside0.mk (HI.out.below hb)
      obtain ⟨Y, cy, rfl, hyc, hYC⟩ := Kd.R_reads hR
      have HY := Aside0.mk hYC
      have e1 : w11.cell? ⟨w6.heap.size, 0, none⟩ = some (.slice (some ad) ls.length cl) := (blk_cell HI11.out.gl 0).trans rfl
      obtain ⟨ad2, he2, hy2⟩ := C_int_at HI11.out.l (ls.length - 1) (by omega)
      obtain rfl := Option.some.inj he2
      clear hb hR hYC he2
      rcases HF.out with ⟨ht, hok, hft, hlast⟩ | ⟨ht, hok, hlen⟩
      · subst hok
        subst hft
        rw [hlast] at hy2
        have HT := Aside0.mk (show decide (f ∈ all) = true from decide_eq_true ht)
        have b1 : (0 : Int) ≤ (ls.length : Int) - 1 := by omega
        have b2 : (ls.length : Int) - 1 < (ls.length : Int) := by omega
        have b3 : ((ls.length : Int) - 1).toNat = ls.length - 1 := by omega
        clear hlast ht
        go_wp2_with fail
        refine (contains_any Y cy all f all.length rfl _ HY.out hyc hal).mono ?_
        rintro e w12 ⟨rfl, hb⟩
        rw [HT.out]
        have HB12 := Aside0.mk hb.below
        have e2 := below_cellOf HB12.out e1
        have e3 := below_cellOf HB12.out hy2
        clear hb e1 hy2
        go_wp2_with (go_at_call 20; refine (laws_walksOne.calls k5 true _ H1.out.2.2.2.2.2.2).mono ?_; rintro e w13 ⟨rfl, hb⟩; have HB13 := Aside0.mk hb; clear hb)
        go_ret
        exact ⟨rfl, HI11.out.s.bel.trans ((HB12.out.trans (HB13.out.mono HB12.out.size)).mono HI11.out.s.bel.size)⟩
      · subst hok
        have HT := Aside0.mk (show decide (t ∈ all) = false from decide_eq_false ht)
        have hle : ((ls.length : Int) == (all.length : Int)) = true := by rw [beq_iff_eq]; omega
        have hle2 : (ls.length == all.length) = true := by rw [beq_iff_eq]; omega
        clear hlen ht hy2
        go_wp2_with fail
        refine (contains_any Y cy all t all.length rfl _ HY.out hyc hal).mono ?_
        rintro e w12 ⟨rfl, hb⟩
        rw [HT.out]
        have HB12 := Aside0.mk hb.below
        have e2 := below_cellOf HB12.out e1
        clear hb e1
        go_wp2_with (go_at_call 20; refine (laws_walksOne.calls k5 true _ H1.out.2.2.2.2.2.2).mono ?_; rintro e w13 ⟨rfl, hb⟩; have HB13 := Aside0.mk hb; clear hb)
        go_ret
        exact ⟨rfl, HI11.out.s.bel.trans ((HB12.out.trans (HB13.out.mono HB12.out.size)).mono HI11.out.s.bel.size)⟩
    | succ kq =>
      have hlt : k < ls.length := by have := HKQ.out; omega
      obtain ⟨ad', he, hy⟩ := C_int_at hI.l k hlt
      obtain rfl := Option.some.inj he
      obtain ⟨hp1, hp2⟩ := HP.out k hk1 hlt
      obtain ⟨y, hyy⟩ : ∃ y, ls.getD k 0 = y := ⟨_, rfl⟩
      rw [hyy] at hy hp1
      have HN := Aside0.mk (show decide (y ∈ ls.take k) = false from decide_eq_false hp1)
      have HQ := Aside0.mk hp2
      have HPE := Aside0.mk (show PE wr w6.heap.size gi (some ad) cl ls k from ⟨c1', c2', hI.l, hlt, hlc, by omega⟩)
      have b1 : (0 : Int) ≤ (k : Int) := by omega
      have b2 : (k : Int) < (ls.length : Int) := by omega
      have b3 : k ≤ cl := by omega
      have b4 : k ≤ ls.length := by omega
      have b5 : (k : Int) ≤ (ls.length : Int) := by omega
      have htl : k = (ls.take k).length := by rw [List.length_take]; omega
      have HTL := Aside0.mk htl
      clear hp1 hp2 hyy hI he htl
      go_wp2_with fail
      go_region_held3 (fun w' => w'.cell? ⟨w6.heap.size, 0, none⟩ = some (.slice (some ad) ls.length cl) ∧ w'.cell? ⟨gi, 0, none⟩ = some (.int .i64 (k : Int)) ∧ w'.cell? (ad.add k) = some (.int .i64 y))
        (first | exact ⟨below_cellOf hbel (by assumption), below_cellOf hbel (by assumption), below_cellOf hbel (by assumption)⟩ | go_keep)
        (first
          | (go_at_call 24; refine (contains_any (some ad) cl (ls.take k) y k HTL.out _ (Kd.C_below (C_take HI.out.l k b4) (by repeat (first | exact Below.refl _ _ | apply below_drew1))) (by rw [← HTL.out]; omega) (by rw [← HTL.out]; omega)).mono ?_; rintro e w9 ⟨rfl, hd9⟩; rw [HN.out]; have hbel := hd9.below; have HB9 := Aside0.mk hbel; have g1 : w9.cell? ⟨w6.heap.size, 0, none⟩ = some (.slice (some ad) ls.length cl) := below_cellOf hbel c1'; have g2 : w9.cell? ⟨gi, 0, none⟩ = some (.int .i64 (k : Int)) := below_cellOf hbel c2'; have g3 : w9.cell? (ad.add k) = some (.int .i64 y) := below_cellOf hbel hy)
          | (go_at_call 26; refine (cf26_any w6.heap.size gi (some ad) cl ls k X cx os _ (HPE.out.below (by first | exact (Below.refl wr.heap.size wr).drew.trans (HB9.out.mono (Nat.le_refl _)))) (Kd.C_below HI.out.x ((Below.refl wr.heap.size wr).drew.trans (HB9.out.mono (Nat.le_refl _)))) HON.out).mono ?_; rintro e w10 ⟨rfl, hbel⟩; rw [HQ.out]; have HB10 := Aside0.mk hbel))
      have HBB := Aside0.mk (show Below wr.heap.size wr w10 from ((Below.refl wr.heap.size wr).drew.trans (HB9.out.mono (Nat.le_refl _))).trans (HB10.out.mono HB9.out.size))
      clear g1 g2 g3
      go_wp2
      go_roundg kq
      case measure => omega
      case rel => exact ⟨w10.heap.size, k + 1, rfl, ⟨(HI.out.below HBB.out).next, by omega, by have := HKQ.out; omega⟩⟩
end Go.Proofs.YtfkmpnpliadohaaGreat.R

set_option linter.unusedVariables false
set_option linter.unusedSimpArgs false
/- The law FnDepthFirst, walked: the short ways. -/
namespace Go.Proofs.YtfkmpnpliadohaaGreat.R
open Go.RowKit Go.Lab Go.Maps Go.Proofs.YtfkmpnpliadohaaGreatW.PrintWords Go.Proofs.YtfkmpnpliadohaaGreatW.PrintLast Go.Proofs.YtfkmpnpliadohaaGreatW.PrintMore PL

set_option maxHeartbeats 8000000 in
set_option maxRecDepth 100000 in
theorem dfl_a1 (d : Bool) (A1 A2 A : Option Addr) (c1 c2 c : Nat) (zs : List Int) (es bs : List S38) (a t : Int) (k1 k2 k5 : Nat) (w : World)
    (hN : Kd.C (Kd.int .i64) w A1 zs.length zs) (n1 : zs.length ≤ c1) (hE : Kd.C k38 w A2 es.length es) (n2 : es.length ≤ c2) (hB : Kd.C k38 w A bs.length bs) (n3 : bs.length ≤ c) (hz : zs.length ≤ 9223372036854775807)
    (hfit : laws_zzFits1.f d zs es = some false) :
    Calls Tryz.prog 6 #[.agg #[.bool d, .slice A1 zs.length c1, .slice A2 es.length c2], .int .i64 a, .int .i64 t, .slice A bs.length c] w fun e w' => e = .returned (.bool true) ∧ Below w.heap.size w w' := by
  have HS0 := Aside0.mk (LS.start (d := d) hN hE hB n1 n2 n3)
  clear hN hE hB
  go_enter Tryz.func6, Tryz.ntmps6
  go_wp2_with fail
  refine (laws_zzFits1.calls d A1 c1 zs A2 c2 es false _ HS0.out.hN n1 HS0.out.hE n2 hfit).mono ?_
  rintro e w1 ⟨rfl, hb⟩
  have HS1 := Aside0.mk (HS0.out.below hb)
  obtain ⟨q0, q1, q2⟩ := HS1.out.cells
  clear hb HS0
  go_wp2
  go_ret
  exact ⟨rfl, HS1.out.bel⟩

set_option maxHeartbeats 8000000 in
set_option maxRecDepth 100000 in
theorem dfl_a2 (d : Bool) (A1 A2 A : Option Addr) (c1 c2 c : Nat) (zs : List Int) (es bs : List S38) (a t : Int) (k1 k2 k5 : Nat) (w : World)
    (hN : Kd.C (Kd.int .i64) w A1 zs.length zs) (n1 : zs.length ≤ c1) (hE : Kd.C k38 w A2 es.length es) (n2 : es.length ≤ c2) (hB : Kd.C k38 w A bs.length bs) (n3 : bs.length ≤ c) (hz : zs.length ≤ 9223372036854775807)
    (hfit : laws_zzFits1.f d zs es = some true) (hbs : 2147483647 < bs.length) :
    Calls Tryz.prog 6 #[.agg #[.bool d, .slice A1 zs.length c1, .slice A2 es.length c2], .int .i64 a, .int .i64 t, .slice A bs.length c] w fun e w' => e = .returned (.bool true) ∧ Below w.heap.size w w' := by
  have HS0 := Aside0.mk (LS.start (d := d) hN hE hB n1 n2 n3)
  clear hN hE hB
  go_enter Tryz.func6, Tryz.ntmps6
  go_wp2_with fail
  refine (laws_zzFits1.calls d A1 c1 zs A2 c2 es true _ HS0.out.hN n1 HS0.out.hE n2 hfit).mono ?_
  rintro e w1 ⟨rfl, hb⟩
  have HS1 := Aside0.mk (HS0.out.below hb)
  obtain ⟨q0, q1, q2⟩ := HS1.out.cells
  have hbi : (2147483647 : Int) < (bs.length : Int) := by omega
  clear hb HS0
  go_wp2
  go_ret
  exact ⟨rfl, HS1.out.bel⟩

set_option maxHeartbeats 8000000 in
set_option maxRecDepth 100000 in
theorem dfl_b1 (d : Bool) (A1 A2 A : Option Addr) (c1 c2 c : Nat) (zs : List Int) (es bs : List S38) (a t : Int) (k1 k2 k5 : Nat) (w : World)
    (hN : Kd.C (Kd.int .i64) w A1 zs.length zs) (n1 : zs.length ≤ c1) (hE : Kd.C k38 w A2 es.length es) (n2 : es.length ≤ c2) (hB : Kd.C k38 w A bs.length bs) (n3 : bs.length ≤ c) (hz : zs.length ≤ 9223372036854775807)
    (hfit : laws_zzFits1.f d zs es = some true) (hbs : bs.length ≤ 2147483647) (h1 : laws_sized.f k1 d zs es 30 = some false) (h5 : laws_walksOne.f k5 = some true) :
    Calls Tryz.prog 6 #[.agg #[.bool d, .slice A1 zs.length c1, .slice A2 es.length c2], .int .i64 a, .int .i64 t, .slice A bs.length c] w fun e w' => e = .returned (.bool true) ∧ Below w.heap.size w w' := by
  have HS0 := Aside0.mk (LS.start (d := d) hN hE hB n1 n2 n3)
  clear hN hE hB
  go_enter Tryz.func6, Tryz.ntmps6
  go_wp2_with fail
  refine (laws_zzFits1.calls d A1 c1 zs A2 c2 es true _ HS0.out.hN n1 HS0.out.hE n2 hfit).mono ?_
  rintro e w1 ⟨rfl, hb⟩
  have HS1 := Aside0.mk (HS0.out.below hb)
  obtain ⟨q0, q1, q2⟩ := HS1.out.cells
  clear hb HS0
  go_wp2_with fail
  refine (laws_sized.calls k1 d A1 c1 zs A2 c2 es 30 false _ HS1.out.hN n1 HS1.out.hE n2 h1).mono ?_
  rintro e w2 ⟨rfl, hb⟩
  have HS2 := Aside0.mk (HS1.out.below hb)
  obtain ⟨q0, q1, q2⟩ := HS2.out.cells
  clear hb HS1
  go_wp2_with (go_at_call 20; refine (laws_walksOne.calls k5 true _ h5).mono ?_; rintro e w9 ⟨rfl, hb⟩; have HB9 := Aside0.mk hb; clear hb)
  go_ret
  exact ⟨rfl, HS2.out.bel.trans (HB9.out.mono HS2.out.bel.size)⟩

set_option maxHeartbeats 8000000 in
set_option maxRecDepth 100000 in
theorem dfl_b2 (d : Bool) (A1 A2 A : Option Addr) (c1 c2 c : Nat) (zs : List Int) (es bs : List S38) (a t : Int) (k1 k2 k5 : Nat) (w : World)
    (hN : Kd.C (Kd.int .i64) w A1 zs.length zs) (n1 : zs.length ≤ c1) (hE : Kd.C k38 w A2 es.length es) (n2 : es.length ≤ c2) (hB : Kd.C k38 w A bs.length bs) (n3 : bs.length ≤ c) (hz : zs.length ≤ 9223372036854775807)
    (hfit : laws_zzFits1.f d zs es = some true) (hbs : bs.length ≤ 2147483647) (h1 : laws_sized.f k1 d zs es 30 = some true) (h5 : laws_walksOne.f k5 = some true) (hb6 : 60 < bs.length) :
    Calls Tryz.prog 6 #[.agg #[.bool d, .slice A1 zs.length c1, .slice A2 es.length c2], .int .i64 a, .int .i64 t, .slice A bs.length c] w fun e w' => e = .returned (.bool true) ∧ Below w.heap.size w w' := by
  have HS0 := Aside0.mk (LS.start (d := d) hN hE hB n1 n2 n3)
  clear hN hE hB
  go_enter Tryz.func6, Tryz.ntmps6
  go_wp2_with fail
  refine (laws_zzFits1.calls d A1 c1 zs A2 c2 es true _ HS0.out.hN n1 HS0.out.hE n2 hfit).mono ?_
  rintro e w1 ⟨rfl, hb⟩
  have HS1 := Aside0.mk (HS0.out.below hb)
  obtain ⟨q0, q1, q2⟩ := HS1.out.cells
  clear hb HS0
  go_wp2_with fail
  refine (laws_sized.calls k1 d A1 c1 zs A2 c2 es 30 true _ HS1.out.hN n1 HS1.out.hE n2 h1).mono ?_
  rintro e w2 ⟨rfl, hb⟩
  have HS2 := Aside0.mk (HS1.out.below hb)
  obtain ⟨q0, q1, q2⟩ := HS2.out.cells
  have hbi : (60 : Int) < (bs.length : Int) := by omega
  clear hb HS1
  go_wp2_with (go_at_call 20; refine (laws_walksOne.calls k5 true _ h5).mono ?_; rintro e w9 ⟨rfl, hb⟩; have HB9 := Aside0.mk hb; clear hb)
  go_ret
  exact ⟨rfl, HS2.out.bel.trans (HB9.out.mono HS2.out.bel.size)⟩

set_option maxHeartbeats 8000000 in
set_option maxRecDepth 100000 in
theorem dfl_b3 (d : Bool) (A1 A2 A : Option Addr) (c1 c2 c : Nat) (zs : List Int) (es bs : List S38) (a t : Int) (k1 k2 k5 : Nat) (w : World)
    (hN : Kd.C (Kd.int .i64) w A1 zs.length zs) (n1 : zs.length ≤ c1) (hE : Kd.C k38 w A2 es.length es) (n2 : es.length ≤ c2) (hB : Kd.C k38 w A bs.length bs) (n3 : bs.length ≤ c) (hz : zs.length ≤ 9223372036854775807)
    (hfit : laws_zzFits1.f d zs es = some true) (hbs : bs.length ≤ 2147483647) (h1 : laws_sized.f k1 d zs es 30 = some true) (h5 : laws_walksOne.f k5 = some true) (hb6 : bs.length ≤ 60) (h2 : laws_formed.f k2 d zs es = some false) :
    Calls Tryz.prog 6 #[.agg #[.bool d, .slice A1 zs.length c1, .slice A2 es.length c2], .int .i64 a, .int .i64 t, .slice A bs.length c] w fun e w' => e = .returned (.bool true) ∧ Below w.heap.size w w' := by
  have HS0 := Aside0.mk (LS.start (d := d) hN hE hB n1 n2 n3)
  clear hN hE hB
  go_enter Tryz.func6, Tryz.ntmps6
  go_wp2_with fail
  refine (laws_zzFits1.calls d A1 c1 zs A2 c2 es true _ HS0.out.hN n1 HS0.out.hE n2 hfit).mono ?_
  rintro e w1 ⟨rfl, hb⟩
  have HS1 := Aside0.mk (HS0.out.below hb)
  obtain ⟨q0, q1, q2⟩ := HS1.out.cells
  clear hb HS0
  go_wp2_with fail
  refine (laws_sized.calls k1 d A1 c1 zs A2 c2 es 30 true _ HS1.out.hN n1 HS1.out.hE n2 h1).mono ?_
  rintro e w2 ⟨rfl, hb⟩
  have HS2 := Aside0.mk (HS1.out.below hb)
  obtain ⟨q0, q1, q2⟩ := HS2.out.cells
  clear hb HS1
  go_wp2_with fail
  refine (laws_formed.calls k2 d A1 c1 zs A2 c2 es false _ HS2.out.hN n1 HS2.out.hE n2 h2).mono ?_
  rintro e w3 ⟨rfl, hb⟩
  have HS3 := Aside0.mk (HS2.out.below hb)
  obtain ⟨q0, q1, q2⟩ := HS3.out.cells
  clear hb HS2
  go_wp2_with (go_at_call 20; refine (laws_walksOne.calls k5 true _ h5).mono ?_; rintro e w9 ⟨rfl, hb⟩; have HB9 := Aside0.mk hb; clear hb)
  go_ret
  exact ⟨rfl, HS3.out.bel.trans (HB9.out.mono HS3.out.bel.size)⟩

set_option maxHeartbeats 8000000 in
set_option maxRecDepth 100000 in
theorem dfl_b4 (d : Bool) (A1 A2 A : Option Addr) (c1 c2 c : Nat) (zs : List Int) (es bs : List S38) (a t : Int) (k1 k2 k5 : Nat) (w : World)
    (hN : Kd.C (Kd.int .i64) w A1 zs.length zs) (n1 : zs.length ≤ c1) (hE : Kd.C k38 w A2 es.length es) (n2 : es.length ≤ c2) (hB : Kd.C k38 w A bs.length bs) (n3 : bs.length ≤ c) (hz : zs.length ≤ 9223372036854775807)
    (hfit : laws_zzFits1.f d zs es = some true) (hbs : bs.length ≤ 2147483647) (h1 : laws_sized.f k1 d zs es 30 = some true) (h5 : laws_walksOne.f k5 = some true) (hb6 : bs.length ≤ 60) (h2 : laws_formed.f k2 d zs es = some true) (hz2 : zs.length ≤ 100000) (ha : decide (a ∈ zs) = false) :
    Calls Tryz.prog 6 #[.agg #[.bool d, .slice A1 zs.length c1, .slice A2 es.length c2], .int .i64 a, .int .i64 t, .slice A bs.length c] w fun e w' => e = .returned (.bool true) ∧ Below w.heap.size w w' := by
  have HS0 := Aside0.mk (LS.start (d := d) hN hE hB n1 n2 n3)
  clear hN hE hB
  go_enter Tryz.func6, Tryz.ntmps6
  go_wp2_with fail
  refine (laws_zzFits1.calls d A1 c1 zs A2 c2 es true _ HS0.out.hN n1 HS0.out.hE n2 hfit).mono ?_
  rintro e w1 ⟨rfl, hb⟩
  have HS1 := Aside0.mk (HS0.out.below hb)
  obtain ⟨q0, q1, q2⟩ := HS1.out.cells
  clear hb HS0
  go_wp2_with fail
  refine (laws_sized.calls k1 d A1 c1 zs A2 c2 es 30 true _ HS1.out.hN n1 HS1.out.hE n2 h1).mono ?_
  rintro e w2 ⟨rfl, hb⟩
  have HS2 := Aside0.mk (HS1.out.below hb)
  obtain ⟨q0, q1, q2⟩ := HS2.out.cells
  clear hb HS1
  go_wp2_with fail
  refine (laws_formed.calls k2 d A1 c1 zs A2 c2 es true _ HS2.out.hN n1 HS2.out.hE n2 h2).mono ?_
  rintro e w3 ⟨rfl, hb⟩
  have HS3 := Aside0.mk (HS2.out.below hb)
  obtain ⟨q0, q1, q2⟩ := HS3.out.cells
  clear hb HS2
  go_wp2_with fail
  refine (contains_any A1 c1 zs a zs.length rfl _ HS3.out.hN n1 hz2).mono ?_
  rintro e w4 ⟨rfl, hb⟩
  rw [ha]
  have HS4 := Aside0.mk (HS3.out.below hb.below)
  obtain ⟨q0, q1, q2⟩ := HS4.out.cells
  clear hb HS3
  go_wp2_with (go_at_call 20; refine (laws_walksOne.calls k5 true _ h5).mono ?_; rintro e w9 ⟨rfl, hb⟩; have HB9 := Aside0.mk hb; clear hb)
  go_ret
  exact ⟨rfl, HS4.out.bel.trans (HB9.out.mono HS4.out.bel.size)⟩

end Go.Proofs.YtfkmpnpliadohaaGreat.R
