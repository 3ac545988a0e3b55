import Derived.Test.YtfkmpnpliadohaaGreatET0
import Derived.WalkSpells
import Derived.WalkLawsBesides
import Derived.Lib.Hide
import Derived.Lib.SliceRun
/- Numbers ascending. -/
namespace Go.Lab
/-- numbers ascending -/
def srt (xs : List Int) : List Int := xs.mergeSort fun x y => decide (x ≤ y)
theorem srt_length (xs : List Int) : (srt xs).length = xs.length := List.length_mergeSort _
theorem srt_perm (xs : List Int) : (srt xs).Perm xs := List.mergeSort_perm _ _
theorem srt_le (xs : List Int) : (srt xs).Pairwise (· ≤ ·) := by
  have h := List.pairwise_mergeSort (le := fun x y : Int => decide (x ≤ y)) (fun a b c h1 h2 => by simp at *; omega) (fun a b => by simp; omega) xs
  exact h.imp (fun h => by simpa using h)
theorem mem_srt (xs : List Int) (x : Int) : x ∈ srt xs ↔ x ∈ xs := (srt_perm xs).mem_iff
theorem srt_lt {xs : List Int} (h : xs.Nodup) : (srt xs).Pairwise (· < ·) := by
  have h1 : (srt xs).Nodup := (srt_perm xs).nodup_iff.2 h
  have h2 := srt_le xs
  rw [List.pairwise_iff_getElem] at h2 ⊢
  intro i j hi hj hij
  have h3 := h2 i j hi hj hij
  have h4 : (srt xs)[i] ≠ (srt xs)[j] := fun e => by
    have := (List.pairwise_iff_getElem.1 h1) i j hi hj hij
    exact this e
  omega
theorem srt_nodup {xs : List Int} (h : (srt xs).Pairwise (· < ·)) : xs.Nodup := by
  refine (srt_perm xs).nodup_iff.1 (h.imp (fun h => ?_))
  omega
end Go.Lab

set_option linter.unusedVariables false
set_option linter.unusedSimpArgs false
namespace Go.Proofs.YtfkmpnpliadohaaGreat.Q
open Go.RowKit Go.Lab Go.Proofs.YtfkmpnpliadohaaGreatW.PrintWords Go.Proofs.YtfkmpnpliadohaaGreatW.PrintLast Go.Proofs.YtfkmpnpliadohaaGreatW.PrintMore

theorem Tryz.info2 : (Tryz.prog.info? 2).map (fun i => (i.zero, i.size, i.bytes)) = some (some (.int .i64 0), 1, 8) := by kernel_rfl
theorem Tryz.info3 : (Tryz.prog.info? 3).map (fun i => (i.zero, i.size, i.bytes)) = some (some (.int .i64 0), 1, 8) := by kernel_rfl

/-- cells of a read slice of ints -/
theorem C_int_cells {w : World} {A : Option Addr} {n : Nat} {xs : List Int} {k : IntKind} (h : Kd.C (Kd.int k) w A n xs) {ad : Addr} (hA : A = some ad) :
    ∀ j u, (nums k xs)[j]? = some u → w.cell? (ad.add j) = some u := by
  intro j u hu
  obtain ⟨hl, _, hc⟩ := h
  have hj : j < xs.length := by
    rcases Nat.lt_or_ge j xs.length with h | h
    · exact h
    · rw [List.getElem?_eq_none (by rw [nums_length]; exact h)] at hu; cases hu
  obtain ⟨ad', e, hc⟩ := hc (by omega)
  rw [hA] at e; cases e
  obtain ⟨c, _, hr, hcell⟩ := hc j _ (List.getElem?_eq_getElem hj)
  have hr' : c = [.int k xs[j]] := hr
  subst hr'
  have := hcell 0 (.int k xs[j]) rfl
  simp only [nums, List.getElem?_map, List.getElem?_eq_getElem hj, Option.map_some, Option.some.injEq] at hu
  subst hu
  have hs : (Kd.int k).sz = 1 := rfl
  rw [hs] at this
  simpa using this

theorem C_int_at {w : World} {A : Option Addr} {n : Nat} {xs : List Int} {k : IntKind} (h : Kd.C (Kd.int k) w A n xs) (i : Nat) (hi : i < n) : ∃ ad, A = some ad ∧ w.cell? (ad.add i) = some (.int k (xs.getD i 0)) := by
  obtain ⟨ad, e, hc⟩ := Kd.at_int h i (by omega) (by omega)
  exact ⟨ad, e, by simpa [rd] using hc⟩

theorem Below.up {B : Nat} {w W w' : World} (h : Below B w W) (k : Below W.heap.size W w') (hB : B ≤ w.heap.size) : Below B w w' := h.trans (k.mono (Nat.le_trans hB h.size))

theorem own_of_heap {w w1 : World} {base : Nat} {e : TypeId} {size n : Nat} {v : Value} {xs : List Value} (h : w.ownsRow base e size v n xs) (hk : ∀ k, v.ownBlock = some k → w1.heap[k]? = w.heap[k]?) : w1.ownsRow base e size v n xs := own_move h hk

theorem own_block {w : World} {base : Nat} {e : TypeId} {size n : Nat} {v : Value} {xs : List Value} (h : w.ownsRow base e size v n xs) {k : Nat} (hk : v.ownBlock = some k) : ∃ cells, w.heap[k]? = some (.cells cells e (0, 0)) := own_typed h k hk

theorem blk_type {w : World} {k : Nat} {c c' : Array Value} {e e' : TypeId} (h : w.heap[k]? = some (.cells c e (0,0))) (h' : w.heap[k]? = some (.cells c' e' (0,0))) : e = e' := by
  rw [h] at h'
  injection h' with h'
  injection h' with _ h'

set_option maxHeartbeats 1000000 in
theorem cloneI_some (A : Addr) (c : Nat) (xs : List Int) (w : World) (h : Kd.C (Kd.int .i64) w (some A) xs.length xs) (hb : xs.length * 8 ≤ 140737488355328) :
    Calls Tryz.prog 105 #[.slice (some A) xs.length c] w fun e w' => ∃ v', e = .returned v' ∧ w'.ownsRow w.heap.size 3 1 v' xs.length (nums .i64 xs) ∧ Below w.heap.size w w' := by
  have q22 : ∀ (w : World) (a : Option Addr) (n c n' c' : Nat), (binOp .eql 22 (.slice a n c) (.slice none n' c')).run Tryz.prog w = .ok (.bool a.isNone) w := fun w a n c n' c' => Lib.run_eql_slice_nil w _ _ a n c n' c' Tryz.underlying22
  have hcells := C_int_cells h rfl
  have HC := Aside0.mk hcells
  clear hcells
  have h1 : ∀ u ∈ nums .i64 xs, u.oneCell' = true := by intro u hu; obtain ⟨x, _, rfl⟩ := List.mem_map.1 hu; rfl
  have H1 := Aside0.mk h1
  clear h1
  have hn : xs.length ≤ maxLen := by unfold maxLen; omega
  obtain ⟨i0, hi, hz0, hz1, hz2⟩ := info_parts Tryz.info3
  have HL := Aside0.mk (nums_length .i64 xs)
  have HI := Aside0.mk (And.intro hi (And.intro hz0 (And.intro hz1 hz2)))
  clear hi hz0 hz1 hz2 h
  go_enter Tryz.func105, Tryz.ntmps105
  go_wp2_with (at_builtin; refine wpList_append_own _ rfl _ _ 22 rfl w.heap.size 3 i0 (.int .i64 0) 1 8 Tryz.underlying22 HI.out.1 HI.out.2.1 HI.out.2.2.1 HI.out.2.2.2 rfl (by decide) _ _ _ rfl (World.ownsRow_made w #[] 0 (Nat.le_refl _) (Nat.zero_le _) (by simp)) A xs.length c (nums .i64 xs) rfl ?qc1 ?qc2 ?qc3 ?qc4 ?qc5 ?qc6 ?_)
  case qc1 => rw [HL.out]; omega
  case qc2 =>
    intro j u hj
    exact Lib.cell?_alloc_some _ (HC.out j u hj)
  case qc3 => exact H1.out
  case qc4 => rw [Nat.zero_add]; exact hn
  case qc5 => rw [Nat.zero_add]; exact hb
  case qc6 => simp
  intro v' w1 hown hgrow hnil
  go_wp2
  go_ret
  refine ⟨v', rfl, by simpa using hown, ?_⟩
  exact ((Below.refl _ w).alloc (Nat.le_refl _) _).grown hgrow (by simp) (by intro k hk; simp [Value.ownBlock] at hk; omega)

set_option maxHeartbeats 400000 in
theorem cloneI_none (n c : Nat) (w : World) : Calls Tryz.prog 105 #[.slice none n c] w fun e w' => e = .returned (.slice none 0 0) ∧ w = w' := by
  have q22 : ∀ (w : World) (a : Option Addr) (n c n' c' : Nat), (binOp .eql 22 (.slice a n c) (.slice none n' c')).run Tryz.prog w = .ok (.bool a.isNone) w := fun w a n c n' c' => Lib.run_eql_slice_nil w _ _ a n c n' c' Tryz.underlying22
  go_enter Tryz.func105, Tryz.ntmps105
  go_wp2
  go_ret
  exact ⟨rfl, rfl⟩

/-- slices.Clone at int, of a slice that is read -/
theorem cloneI_any (A : Option Addr) (c : Nat) (xs : List Int) (w : World) (h : Kd.C (Kd.int .i64) w A xs.length xs) (hb : xs.length ≤ 100000) :
    Calls Tryz.prog 105 #[.slice A xs.length c] w fun e w' => ∃ v', e = .returned v' ∧ w'.ownsRow w.heap.size 3 1 v' xs.length (nums .i64 xs) ∧ Below w.heap.size w w' := by
  cases A with
  | none =>
    refine (cloneI_none _ _ w).mono ?_
    rintro e w' ⟨rfl, rfl⟩
    have h0 : xs.length = 0 := by
      rcases Nat.eq_zero_or_pos xs.length with h0 | h0
      · exact h0
      · obtain ⟨ad, e, _⟩ := h.2.2 h0; cases e
    have hx : xs = [] := List.eq_nil_of_length_eq_zero h0
    subst hx
    exact ⟨_, rfl, World.ownsRow_nil _ _ _ _, Below.refl _ _⟩
  | some ad => exact cloneI_some ad c xs w h (by omega)
end Go.Proofs.YtfkmpnpliadohaaGreat.Q

set_option linter.unusedVariables false
set_option linter.unusedSimpArgs false
/- The contract of slices.Clone at int, in the printed contracts' form. -/
namespace Go.Proofs.YtfkmpnpliadohaaGreat.Q
open Go.RowKit Go.Lab Go.Proofs.YtfkmpnpliadohaaGreatW.PrintWords Go.Proofs.YtfkmpnpliadohaaGreatW.PrintLast Go.Proofs.YtfkmpnpliadohaaGreatW.PrintMore

theorem R_of_ints {w : World} {base : Nat} {e : TypeId} {v : Value} {xs : List Int} (h : w.ownsRow base e 1 v xs.length (nums .i64 xs)) : Kd.R (Kd.int .i64) e w base (fun _ => True) v xs := by
  refine ⟨fun _ _ => trivial, nums .i64 xs, h, by rw [nums_length]; exact (Nat.mul_one _).symm, fun j p hj => ?_⟩
  show List.take 1 (List.drop (j * 1) (nums .i64 xs)) = [.int .i64 p]
  obtain ⟨hl, rfl⟩ := List.getElem?_eq_some_iff.1 hj
  rw [Nat.mul_one, List.drop_eq_getElem_cons (by rw [nums_length]; exact hl)]
  simp [nums]

end Go.Proofs.YtfkmpnpliadohaaGreat.Q
namespace Go.Proofs.YtfkmpnpliadohaaGreat.PL
open Go.RowKit Go.Lab Go.Proofs.YtfkmpnpliadohaaGreatW.PrintWords Go.Proofs.YtfkmpnpliadohaaGreatW.PrintLast Go.Proofs.YtfkmpnpliadohaaGreatW.PrintMore Go.Proofs.YtfkmpnpliadohaaGreat.Q
def slices_Clone_int_int.f (l0 : List Int) : Option (List Int) := if l0.length ≤ 100000 then some l0 else none
theorem slices_Clone_int_int.calls (A0 : Option Addr) (c0 : Nat) (l0 : List Int) (r : List Int) (w : World) (hr0 : Kd.C (Kd.int .i64) w A0 l0.length l0) (hc0 : l0.length ≤ c0) (h : slices_Clone_int_int.f l0 = some r) :
    Calls Tryz.prog 105 #[.slice A0 l0.length c0] w fun e w' => ∃ v0_ : Value, e = .returned (v0_) ∧ Kd.R (Kd.int .i64) 3 w' w.heap.size (fun _ => True) v0_ r ∧ Below w.heap.size w w' := by
  unfold slices_Clone_int_int.f at h
  split at h
  · injection h with h
    subst h
    refine (cloneI_any A0 c0 l0 w hr0 (by assumption)).mono ?_
    rintro e w' ⟨v, rfl, ho, hb⟩
    exact ⟨v, rfl, R_of_ints ho, hb⟩
  · cases h
end Go.Proofs.YtfkmpnpliadohaaGreat.PL

set_option linter.unusedVariables false
set_option linter.unusedSimpArgs false
namespace Go.Proofs.YtfkmpnpliadohaaGreat.Q
open Go.RowKit Go.Lab Go.Proofs.YtfkmpnpliadohaaGreatW.PrintWords Go.Proofs.YtfkmpnpliadohaaGreatW.PrintLast Go.Proofs.YtfkmpnpliadohaaGreatW.PrintMore PL

/-- they lie in no block in common -/
def ApartS (a b : Value) : Prop := ∀ k, a.ownBlock = some k → b.ownBlock ≠ some k
theorem ApartS.symm {a b : Value} (h : ApartS a b) : ApartS b a := fun k hb ha => h k ha hb

/-- a row of one-cell elements, one element stored -/
theorem own_put1 {w : World} {base g cap n : Nat} {e : TypeId} {xs : List Value} (h : w.ownsRow base e 1 (.slice (some ⟨g, 0, none⟩) n cap) n xs) (i : Nat) (v : Value) :
    (w.setCell ⟨g, i, none⟩ v).ownsRow base e 1 (.slice (some ⟨g, 0, none⟩) n cap) n (xs.set i v) := by
  rcases h.2 with ⟨hn, _⟩ | ⟨g', cap', cur, hv, hb1, hg, hc1, hc2, hcs, htk⟩
  · cases hn
  · injection hv with e1 _ e3
    injection e1 with e1
    injection e1 with e1
    subst e1 e3
    refine ⟨by simpa using h.1, .inr ⟨g, cap, cur.setIfInBounds i v, rfl, hb1, blk_set hg _ _, hc1, hc2, by simpa using hcs, ?_⟩⟩
    rw [Array.toList_setIfInBounds, List.take_set, htk]

/-- a table: rows of one-cell values, no two in one block -/
structure Tb (w : World) (base : Nat) (eo ei : TypeId) (T : List (List Value)) (rs : List Value) (v : Value) : Prop where
  o : w.ownsRow base eo 1 v rs.length rs
  l : rs.length = T.length
  row : ∀ i (h : i < rs.length), w.ownsRow base ei 1 rs[i] (T.getD i []).length (T.getD i [])
  sep : ∀ i j (h : i < rs.length) (h' : j < rs.length), i ≠ j → ApartS rs[i] rs[j]

theorem Tb.nil (w : World) (base : Nat) (eo ei : TypeId) : Tb w base eo ei [] [] (.slice none 0 0) :=
  ⟨World.ownsRow_nil _ _ _ _, rfl, fun i h => by simp at h, fun i j h => by simp at h⟩

theorem Tb.move {w w1 : World} {base : Nat} {eo ei : TypeId} {T : List (List Value)} {rs : List Value} {v : Value} (h : Tb w base eo ei T rs v)
    (hm : ∀ (k : Nat) (c : Array Value) (t : TypeId), w.heap[k]? = some (Obj.cells c t (0, 0)) → t = eo ∨ t = ei → w1.heap[k]? = w.heap[k]?) : Tb w1 base eo ei T rs v := by
  refine ⟨own_of_heap h.o (fun k hk => ?_), h.l, fun i hi => own_of_heap (h.row i hi) (fun k hk => ?_), h.sep⟩
  · obtain ⟨c, hc⟩ := own_block h.o hk; exact hm k c eo hc (.inl rfl)
  · obtain ⟨c, hc⟩ := own_block (h.row i hi) hk; exact hm k c ei hc (.inr rfl)

theorem Tb.below {w w1 : World} {base : Nat} {eo ei : TypeId} {T : List (List Value)} {rs : List Value} {v : Value} (h : Tb w base eo ei T rs v) (hb : Below w.heap.size w w1) : Tb w1 base eo ei T rs v :=
  h.move (fun k _ _ hk _ => hb.block k (blk_lt hk))

theorem Tb.push {w w1 : World} {base : Nat} {eo ei : TypeId} {T : List (List Value)} {rs : List Value} {v v' r : Value} {row : List Value} (h : Tb w base eo ei T rs v) (hne : eo ≠ ei)
    (hr : w.ownsRow base ei 1 r row.length row) (hf : ∀ i (hi : i < rs.length), ApartS rs[i] r) (hown : w1.ownsRow base eo 1 v' (rs.length + 1) (rs ++ [r])) (hg : w.grownBy w1 v.ownBlock) : Tb w1 base eo ei (T ++ [row]) (rs ++ [r]) v' := by
  have hk : ∀ {x : Value} {n : Nat} {xs : List Value}, w.ownsRow base ei 1 x n xs → w1.ownsRow base ei 1 x n xs := by
    intro x n xs hx
    refine own_of_heap hx (fun k hk => ?_)
    obtain ⟨c, hc⟩ := own_block hx hk
    refine hg.block k (blk_lt hc) (fun e => ?_)
    obtain ⟨c', hc'⟩ := own_block h.o e.symm
    exact hne (blk_type hc' hc)
  refine ⟨by rw [List.length_append]; exact hown, by rw [List.length_append, List.length_append, h.l]; rfl, fun i hi => ?_, fun i j hi hj hij => ?_⟩
  · rw [List.length_append] at hi
    by_cases h1 : i < rs.length
    · rw [List.getElem_append_left h1, List.getD_eq_getElem?_getD, List.getElem?_append_left (by rw [← h.l]; exact h1), ← List.getD_eq_getElem?_getD]
      exact hk (h.row i h1)
    · have h2 : i = rs.length := by simp at hi; omega
      subst h2
      rw [List.getElem_append_right (Nat.le_refl _), List.getD_eq_getElem?_getD, List.getElem?_append_right (by rw [h.l]; exact Nat.le_refl _)]
      simp only [Nat.sub_self, List.getElem_cons_zero, h.l, List.getElem?_cons_zero, Option.getD_some]
      exact hk hr
  · rw [List.length_append] at hi hj
    by_cases h1 : i < rs.length <;> by_cases h2 : j < rs.length
    · rw [List.getElem_append_left h1, List.getElem_append_left h2]; exact h.sep i j h1 h2 hij
    · rw [List.getElem_append_left h1, List.getElem_append_right (by omega)]
      simpa using hf i h1
    · rw [List.getElem_append_right (by omega), List.getElem_append_left h2]
      simpa using (hf j h2).symm
    · simp at hi hj; omega

theorem Tb.put {w : World} {base : Nat} {eo ei : TypeId} {T : List (List Value)} {rs : List Value} {v : Value} (h : Tb w base eo ei T rs v) (hne : eo ≠ ei) (i : Nat) (hi : i < rs.length) {g n c : Nat} (hr : rs[i] = .slice (some ⟨g, 0, none⟩) n c) (j : Nat) (x : Value) :
    Tb (w.setCell ⟨g, j, none⟩ x) base eo ei (T.set i ((T.getD i []).set j x)) rs v := by
  have hrow := h.row i hi
  rw [hr] at hrow
  have hn : n = (T.getD i []).length := by
    obtain ⟨A, c', he⟩ := own_slice hrow
    injection he with _ e2 _
  subst hn
  obtain ⟨cg, hcg⟩ := own_block hrow (k := g) rfl
  refine ⟨own_of_heap h.o (fun k hk => ?_), by rw [List.length_set]; exact h.l, fun m hm => ?_, h.sep⟩
  · obtain ⟨c, hc⟩ := own_block h.o hk
    exact Below.heap_setCell _ _ _ _ (by rintro rfl; exact hne (blk_type hc hcg))
  · rw [List.getD_eq_getElem?_getD, List.getElem?_set]
    by_cases hmi : i = m
    · subst hmi
      rw [if_pos rfl, if_pos (by rw [← h.l]; exact hi), Option.getD_some, hr, List.length_set]
      exact own_put1 hrow j x
    · rw [if_neg hmi, ← List.getD_eq_getElem?_getD]
      refine own_of_heap (h.row m hm) (fun k hk => Below.heap_setCell _ _ _ _ ?_)
      intro e
      exact h.sep i m hi hm hmi k (by rw [hr, e]; rfl) hk

/-- the cell of a row -/
theorem Tb.cell {w : World} {base : Nat} {eo ei : TypeId} {T : List (List Value)} {rs : List Value} {v : Value} (h : Tb w base eo ei T rs v) (i : Nat) (hi : i < rs.length) :
    ∃ g cap, v = .slice (some ⟨g, 0, none⟩) rs.length cap ∧ w.cell? ⟨g, i, none⟩ = some rs[i] := by
  obtain ⟨g, cap, hv, hgb, hgl⟩ := h.o.form (by omega)
  refine ⟨g, cap, hv, ?_⟩
  subst hv
  have h1 := h.o.cells (g := g) rfl i rs[i] (List.getElem?_eq_getElem hi)
  rw [add_plain] at h1
  exact h1

theorem Tb.rowCell {w : World} {base : Nat} {eo ei : TypeId} {T : List (List Value)} {rs : List Value} {v : Value} (h : Tb w base eo ei T rs v) (i : Nat) (hi : i < rs.length) (j : Nat) (hj : j < (T.getD i []).length) :
    ∃ g cap, rs[i] = .slice (some ⟨g, 0, none⟩) (T.getD i []).length cap ∧ base ≤ g ∧ g < w.heap.size ∧ w.heap[g]?.isSome ∧ w.cell? ⟨g, j, none⟩ = some (T.getD i [])[j] ∧ w.frozen? ⟨g, j, none⟩ = false := by
  have hr := h.row i hi
  obtain ⟨g, cap, hv, hgb, hgl⟩ := hr.form (by omega)
  refine ⟨g, cap, hv, hgb, hgl, by rw [Array.getElem?_eq_getElem hgl]; rfl, ?_, ?_⟩
  · have h1 := hr.cells (g := g) (by rw [hv]; rfl) j (T.getD i [])[j] (List.getElem?_eq_getElem hj)
    rw [add_plain] at h1
    exact h1
  · obtain ⟨c, hc⟩ := own_block hr (k := g) (by rw [hv]; rfl)
    exact blk_frozen hc _
end Go.Proofs.YtfkmpnpliadohaaGreat.Q

set_option linter.unusedVariables false
set_option linter.unusedSimpArgs false
namespace Go.Proofs.YtfkmpnpliadohaaGreat.Q
open Go.RowKit Go.Lab Go.Proofs.YtfkmpnpliadohaaGreatW.PrintWords Go.Proofs.YtfkmpnpliadohaaGreatW.PrintLast Go.Proofs.YtfkmpnpliadohaaGreatW.PrintMore PL

def nilT : Array Value := #[.slice none 0 0, .slice none 0 0, .slice none 0 0]

/-- tableOf's table in the making -/
structure Ts (w wr : World) (tb : Nat) (gv : Array Value) (vn : Value) (ids : List Int) (TA TW : List (List Value)) (ra rw : List Value) (va vw : Value) : Prop where
  blk : wr.heap[tb]? = some (.cells #[vn, va, vw] 33 (0, 0))
  g : wr.heap[w.heap.size]? = some (.cells gv 25 (0, 0))
  res : wr.heap[w.heap.size + 1]? = some (.cells nilT 33 (0, 0))
  hb : w.heap.size + 1 < tb
  n : wr.ownsRow w.heap.size 3 1 vn ids.length (nums .i64 ids)
  A : Tb wr w.heap.size 35 4 TA ra va
  W : Tb wr w.heap.size 22 3 TW rw vw
  sn : ∀ i (h : i < rw.length), ApartS vn rw[i]
  bel : Below w.heap.size w wr

section
variable {w wr w1 : World} {tb : Nat} {gv : Array Value} {vn : Value} {ids : List Int} {TA TW : List (List Value)} {ra rw : List Value} {va vw : Value}

theorem Ts.below (h : Ts w wr tb gv vn ids TA TW ra rw va vw) (hb : Below wr.heap.size wr w1) : Ts w w1 tb gv vn ids TA TW ra rw va vw :=
  ⟨(hb.block _ (blk_lt h.blk)).trans h.blk, (hb.block _ (blk_lt h.g)).trans h.g, (hb.block _ (blk_lt h.res)).trans h.res, h.hb, pw_own_below h.n hb, h.A.below hb, h.W.below hb, h.sn, h.bel.trans (hb.mono h.bel.size)⟩

theorem Ts.setA (h : Ts w wr tb gv vn ids TA TW ra rw va vw) (i : Nat) (hi : i < ra.length) {g n c : Nat} (hr : ra[i] = .slice (some ⟨g, 0, none⟩) n c) (j : Nat) (x : Value) : Ts w (wr.setCell ⟨g, j, none⟩ x) tb gv vn ids (TA.set i ((TA.getD i []).set j x)) TW ra rw va vw := by
  have hrow := h.A.row i hi
  rw [hr] at hrow
  obtain ⟨cg, hcg⟩ := own_block hrow (k := g) rfl
  have hgb := own_base hrow g rfl
  have hs : ∀ {k : Nat} {c : Array Value} {t : TypeId}, wr.heap[k]? = some (.cells c t (0,0)) → t ≠ 4 → (wr.setCell ⟨g, j, none⟩ x).heap[k]? = wr.heap[k]? := by
    intro k c t hk ht
    exact Below.heap_setCell _ _ _ _ (by rintro rfl; exact ht (blk_type hk hcg))
  refine ⟨(hs h.blk (by decide)).trans h.blk, (hs h.g (by decide)).trans h.g, (hs h.res (by decide)).trans h.res, h.hb, ?_, h.A.put (by decide) i hi hr j x, ?_, h.sn, h.bel.setCell hgb _⟩
  · refine own_of_heap h.n (fun k hk => ?_)
    obtain ⟨c, hc⟩ := own_block h.n hk; exact hs hc (by decide)
  · exact h.W.move (fun k c t hk ht => hs hk (by rcases ht with rfl | rfl <;> decide))

end
end Go.Proofs.YtfkmpnpliadohaaGreat.Q
