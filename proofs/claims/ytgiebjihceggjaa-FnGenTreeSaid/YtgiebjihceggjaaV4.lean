import Derived.Test.YtgiebjihceggjaaM
import Derived.Test.YtgiebjihceggjaaG
import Derived.Test.YtgiebjihceggjaaN
set_option linter.unusedVariables false
set_option linter.unusedSimpArgs false
namespace Go.Proofs.Ytgiebjihceggjaa
open Go.RowKit Go.Proofs.YtgiebjihceggjaaW.PrintWords Go.Proofs.YtgiebjihceggjaaW.PrintLast Go.Proofs.YtgiebjihceggjaaW.PrintMore PFnGenTree

theorem cpt_nodup (xs : List Int) : ((cpt (srt xs)).length = xs.length) ↔ xs.Nodup := by
  have h := compact_len (srt xs) (srt_le xs)
  rw [srt_length] at h
  constructor
  · intro h1
    have h2 : (Go.Lib.compactUpTo (srt xs).toArray xs.length).length = xs.length := by
      unfold cpt at h1; rwa [srt_length] at h1
    exact srt_nodup (h.2.1 h2)
  · intro h1
    have h2 := h.2.2 (srt_lt h1)
    unfold cpt; rwa [srt_length]

set_option maxHeartbeats 2000000 in
set_option maxRecDepth 100000 in
theorem twice_any (A : Option Addr) (c : Nat) (xs : List Int) (w : World) (h : Kd.C (Kd.int .i64) w A xs.length xs) (hb : xs.length ≤ 1000) :
    Calls Try.prog 8 #[.slice A xs.length c] w fun e w' => e = .returned (.bool (!decide xs.Nodup)) ∧ Below w.heap.size w w' := by
  have HC := Aside0.mk h
  have hbn : ((((cpt (srt xs)).length : Nat) : Int) != (xs.length : Int)) = !decide xs.Nodup := by
    have hd := cpt_nodup xs
    by_cases hn : xs.Nodup
    · rw [decide_eq_true hn]; simp [hd.2 hn]
    · rw [decide_eq_false hn]
      have : (cpt (srt xs)).length ≠ xs.length := fun e => hn (hd.1 e)
      simp; omega
  have HBN := Aside0.mk hbn
  clear h hbn
  go_enter Try.func8, Try.ntmps8
  go_wp2_with (first
    | (go_at_call 17; refine (cloneI_any A c xs _ HC.out (by omega)).mono ?_; rintro e w1 ⟨v, rfl, hown, hbel⟩; obtain ⟨V, C, rfl⟩ := own_slice hown; have H1 := Aside0.mk (And.intro hown hbel); clear hown hbel)
    | (go_at_call 18; refine (sort_own w.heap.size _ xs _ H1.out.1 (by omega)).mono ?_; rintro e w2 ⟨rfl, hown, hgr⟩; have H2 := Aside0.mk (And.intro hown (H1.out.2.grown hgr H1.out.2.size (fun k hk => own_base H1.out.1 k hk))); clear hown hgr)
    | (go_at_call 19; refine (compact_own w.heap.size _ (srt xs) _ (by have := H2.out.1; rw [srt_length]; exact this) (by rw [srt_length]; omega)).mono ?_; rintro e w3 ⟨A2, m2, c2, rfl, rfl, hown, hob2, hgr⟩; have H3 := Aside0.mk (H2.out.2.grown hgr H2.out.2.size (fun k hk => own_base H2.out.1 k hk)); clear hown hob2 hgr))
  rw [HBN.out]
  go_ret
  exact ⟨rfl, H3.out⟩
end Go.Proofs.Ytgiebjihceggjaa

namespace Go.Proofs.Ytgiebjihceggjaa
open Go.RowKit Go.Proofs.YtgiebjihceggjaaW.PrintWords Go.Proofs.YtgiebjihceggjaaW.PrintLast Go.Proofs.YtgiebjihceggjaaW.PrintMore PFnGenTree

theorem idsOf_l0 (l : List Int) (hl : l.length ≤ 1000) : ∀ (d k i : Nat), l.length - i ≤ d → d < k → i ≤ l.length →
    impl_idsOf.l0 k (l.take i) l (l.length : Int) (i : Int) = some l := by
  intro d
  induction d with
  | zero =>
    intro k i hd hk hi
    obtain ⟨k, rfl⟩ : ∃ m, k = m + 1 := ⟨k - 1, by omega⟩
    simp only [impl_idsOf.l0]
    rw [if_neg (by omega), List.take_of_length_le (by omega)]
  | succ d ih =>
    intro k i hd hk hi
    obtain ⟨k, rfl⟩ : ∃ m, k = m + 1 := ⟨k - 1, by omega⟩
    simp only [impl_idsOf.l0]
    by_cases hlt : i < l.length
    · have w2 : wrap64 ((i : Int) + 1) = ((i + 1 : Nat) : Int) := by unfold wrap64; omega
      have r2 : rd l (i : Int) = l[i] := by unfold rd; rw [Int.toNat_natCast, List.getD_eq_getElem?_getD, List.getElem?_eq_getElem hlt]; rfl
      rw [if_pos (by omega), if_pos (by omega), if_pos (by omega), if_pos (by rw [List.length_take]; omega), r2, w2, ← List.take_succ_eq_append_getElem hlt]
      exact ih k (i + 1) (by omega) (by omega) (by omega)
    · rw [if_neg (by omega), List.take_of_length_le (by omega)]

theorem idsOf_f (l : List Int) (hl : l.length ≤ 1000) : impl_idsOf.f (l.length + 1) l = some l := by
  unfold impl_idsOf.f
  exact idsOf_l0 l hl l.length (l.length + 1) 0 (by omega) (by omega) (Nat.zero_le _)

theorem reps_int {w : World} {k : IntKind} {base : Nat} {ok : Nat → Prop} {xs : List Int} {inner : List Value} (h : Reps ((Kd.int k).M w base ok) 1 xs inner) : inner = nums k xs := by
  apply List.ext_getElem?
  intro j
  by_cases hj : j < xs.length
  · have hx : List.take 1 (List.drop (j * 1) inner) = [.int k xs[j]] := h.2 j _ (List.getElem?_eq_getElem hj)
    have h1 := congrArg (fun l => l[0]?) hx
    simp only [List.getElem?_take, List.getElem?_drop, Nat.mul_one, Nat.add_zero] at h1
    rw [if_pos (by omega)] at h1
    rw [h1]
    simp [nums, hj]
  · rw [List.getElem?_eq_none (by have := h.1; omega), List.getElem?_eq_none (by rw [nums_length]; omega)]

theorem own_of_R {w : World} {base : Nat} {e : TypeId} {ok : Nat → Prop} {v : Value} {xs : List Int} (h : Kd.R (Kd.int .i64) e w base ok v xs) : w.ownsRow base e 1 v xs.length (nums .i64 xs) := by
  obtain ⟨_, inner, ho, hr⟩ := h
  rw [reps_int hr] at ho
  exact ho

theorem R_of_nums {w : World} {base : Nat} {e : TypeId} {v : Value} {xs : List Int} (h : w.ownsRow base e 1 v xs.length (nums .i64 xs)) : Kd.R (Kd.int .i64) e w base (fun _ => True) v xs := by
  refine ⟨fun _ _ => trivial, nums .i64 xs, h, by rw [nums_length]; exact (Nat.mul_one _).symm, fun j p hj => ?_⟩
  show List.take 1 (List.drop (j * 1) (nums .i64 xs)) = [.int .i64 p]
  obtain ⟨hl, rfl⟩ := List.getElem?_eq_some_iff.1 hj
  rw [Nat.mul_one, List.drop_eq_getElem_cons (by rw [nums_length]; exact hl)]
  simp [nums]

theorem R_of_flE {w : World} {base : Nat} {v : Value} {es : List S30} (h : w.ownsRow base 30 3 v es.length (flE es)) : Kd.R k30 30 w base (fun _ => True) v es := by
  refine ⟨fun _ _ => trivial, flE es, h, by rw [flE_length]; rfl, fun j p hj => ?_⟩
  obtain ⟨hl, rfl⟩ := List.getElem?_eq_some_iff.1 hj
  have e : List.take 3 (List.drop (j * 3) (flE es)) = enc30 es[j] := by
    apply List.ext_getElem?
    intro i
    rw [List.getElem?_take]
    by_cases hi : i < 3
    · rw [if_pos hi, List.getElem?_drop, flE_get es j hl i hi]
    · rw [if_neg hi, List.getElem?_eq_none (by simp [enc30]; omega)]
  show k30.M _ _ _ _ (List.take 3 (List.drop (j * 3) (flE es)))
  rw [e]
  exact k30_mkM _ _ _ _

/-- the nodes that Tree adds by themselves -/
def ndT (xs : List Int) : List Int := if xs.length = 1 then xs else []

theorem treeE_short (n : Nat) (xs : List Int) (h : xs.length ≤ 1) : treeE n xs = [] := by
  unfold treeE
  rw [show xs.length - 1 = 0 by omega]; rfl

theorem getD_inj {xs : List Int} (h : xs.Nodup) {i j : Nat} (hi : i < xs.length) (hj : j < xs.length) (he : xs.getD i 0 = xs.getD j 0) : i = j := by
  rw [List.getD_eq_getElem?_getD, List.getD_eq_getElem?_getD, List.getElem?_eq_getElem hi, List.getElem?_eq_getElem hj] at he
  simp only [Option.getD_some] at he
  rcases Nat.lt_trichotomy i j with h1 | h1 | h1
  · exact absurd he ((List.pairwise_iff_getElem.1 h) i j hi hj h1)
  · exact h1
  · exact absurd he.symm ((List.pairwise_iff_getElem.1 h) j i hj hi h1)

theorem orE_eq {d : Bool} {e f : Int × Int} (h : orE d e = orE d f) : (e.1 = f.1 ∧ e.2 = f.2) ∨ (e.1 = f.2 ∧ e.2 = f.1) := by
  unfold orE at h
  split at h <;> split at h
  all_goals
    injection h with h1 h2 h3
    omega

theorem tree_apart (d : Bool) (n : Nat) (xs : List Int) (h : xs.Nodup) : ((treeE n xs).map (orE d)).Pairwise (· ≠ ·) := by
  rw [List.pairwise_iff_getElem]
  intro i j hi hj hij he
  rw [List.length_map, treeE_length] at hi hj
  simp only [List.getElem_map] at he
  have hdi : i / n ≤ i := Nat.div_le_self _ _
  have hdj : j / n ≤ j := Nat.div_le_self _ _
  have h1 := orE_eq he
  simp only [treeE, List.getElem_map, List.getElem_range] at h1
  rcases h1 with ⟨_, h2⟩ | ⟨h1, h2⟩
  · have := getD_inj h (by omega) (by omega) h2
    omega
  · have a1 := getD_inj h (by omega) (by omega) h1
    have a2 := getD_inj h (by omega) (by omega) h2
    omega

/-- gen.Tree over a builder with nothing in it -/
theorem tree_any (base bp b2 : Nat) (d : Bool) (n : Int) (A : Option Addr) (c : Nat) (xs : List Int) (w : World) (h : Bld w base bp d (.slice none 0 0) [] (.slice none 0 0) [])
    (hi : w.ownsRow b2 2 1 (.slice A xs.length c) xs.length (nums .i64 xs)) (hb : xs.length ≤ 1000) (hn : 1 < xs.length → 1 ≤ n ∧ n < xs.length) (hnd : xs.Nodup) (hw : ∀ x ∈ xs, (Lit.int .i64 x).wf = true) :
    Calls Try.prog 9 #[.iface 35 (.pointer (some ⟨bp, 0, none⟩)), .int .i64 n, .iface 42 (.slice A xs.length c)] w fun e w' => e = .returned (.tuple #[]) ∧ ∃ vn ve, Bld w' base bp d vn (ndT xs) ve (treeE n.toNat xs) ∧ Below base w w' := by
  by_cases h0 : xs.length = 0
  · rw [h0]
    refine (tree0 _ n A c w).mono ?_
    rintro e w' ⟨rfl, rfl⟩
    refine ⟨rfl, .slice none 0 0, .slice none 0 0, ?_, Below.refl _ _⟩
    rw [treeE_short _ _ (by omega)]
    unfold ndT
    rw [if_neg (by omega)]
    exact h
  · by_cases h1 : xs.length = 1
    · obtain ⟨g, cap, hv, hgb, hgl⟩ := hi.form (by omega)
      injection hv with e1 e2 e3
      subst e1 e3
      obtain ⟨ad, had, hc⟩ := ids_cell hi 0 (by omega)
      injection had with had
      subst had
      rw [add_plain] at hc
      have hc' : w.cell? ⟨g, 0, none⟩ = some (.int .i64 (xs.getD 0 0)) := hc
      rw [h1]
      refine (tree1 base bp d n ⟨g, 0, none⟩ c _ w h hc').mono ?_
      rintro e w' ⟨rfl, vn, hb', hbel⟩
      refine ⟨rfl, vn, .slice none 0 0, ?_, hbel⟩
      rw [treeE_short _ _ (by omega)]
      unfold ndT
      rw [if_pos h1]
      have : xs = [xs.getD 0 0] := by
        match xs, h1 with
        | [x], _ => rfl
      rw [this] at hb' ⊢
      exact hb'
    · have hn' := hn (by omega)
      have e : n = ((n.toNat : Nat) : Int) := by omega
      rw [e]
      refine (treeN base bp b2 d n.toNat A c xs w h hi (by omega) hb (by omega) (by omega) hnd hw).mono ?_
      rintro e w' ⟨rfl, ve, hb', hbel⟩
      refine ⟨rfl, .slice none 0 0, ve, ?_, hbel⟩
      unfold ndT
      rw [if_neg h1, Int.toNat_natCast]
      exact hb'
end Go.Proofs.Ytgiebjihceggjaa

namespace Go.Proofs.Ytgiebjihceggjaa
open Go.RowKit Go.Proofs.YtgiebjihceggjaaW.PrintWords Go.Proofs.YtgiebjihceggjaaW.PrintLast Go.Proofs.YtgiebjihceggjaaW.PrintMore PFnGenTree

theorem zcells {w w1 : World} (h : Below (w.alloc (.cells #[.bool false, .slice none 0 0, .slice none 0 0] 25)).heap.size (w.alloc (.cells #[.bool false, .slice none 0 0, .slice none 0 0] 25)) w1) :
    w1.cell? ⟨w.heap.size, 0, none⟩ = some (.bool false) ∧ w1.cell? ⟨w.heap.size, 1, none⟩ = some (.slice none 0 0) ∧ w1.cell? ⟨w.heap.size, 2, none⟩ = some (.slice none 0 0) ∧ w1.frozen? ⟨w.heap.size, 0, none⟩ = false ∧ w1.frozen? ⟨w.heap.size, 1, none⟩ = false ∧ w1.frozen? ⟨w.heap.size, 2, none⟩ = false := by
  have hh : w1.heap[w.heap.size]? = some (.cells #[.bool false, .slice none 0 0, .slice none 0 0] 25 (0, 0)) := (h.block _ (by simp)).trans (heap_alloc_new _ _)
  exact ⟨by rw [blk_cell hh]; rfl, by rw [blk_cell hh]; rfl, by rw [blk_cell hh]; rfl, blk_frozen hh _, blk_frozen hh _, blk_frozen hh _⟩

/-- the result's block through the four calls -/
theorem zkeep {w w1 w2 w3 w4 : World} {o : Obj} (h1 : Below (w.alloc (.cells #[.bool false, .slice none 0 0, .slice none 0 0] 25)).heap.size (w.alloc (.cells #[.bool false, .slice none 0 0, .slice none 0 0] 25)) w1)
    (h2 : Below (w1.alloc o).heap.size (w1.alloc o) w2) (h3 : Below w1.heap.size w2 w3) (h4 : Below w3.heap.size w3 w4) :
    w4.cell? ⟨w.heap.size, 0, none⟩ = some (.bool false) ∧ w4.cell? ⟨w.heap.size, 1, none⟩ = some (.slice none 0 0) ∧ w4.cell? ⟨w.heap.size, 2, none⟩ = some (.slice none 0 0) ∧ w4.frozen? ⟨w.heap.size, 0, none⟩ = false ∧ w4.frozen? ⟨w.heap.size, 1, none⟩ = false ∧ w4.frozen? ⟨w.heap.size, 2, none⟩ = false := by
  have s1 := h1.size
  have s2 := h2.size
  have s3 := h3.size
  simp at s1 s2
  have hh : w1.heap[w.heap.size]? = some (.cells #[.bool false, .slice none 0 0, .slice none 0 0] 25 (0, 0)) := (h1.block _ (by simp)).trans (heap_alloc_new _ _)
  have hh2 : w4.heap[w.heap.size]? = some (.cells #[.bool false, .slice none 0 0, .slice none 0 0] 25 (0, 0)) := by
    rw [h4.block _ (by omega), h3.block _ (by omega), h2.block _ (by simp; omega), Below.heap_alloc _ _ _ (by omega)]
    exact hh
  exact ⟨by rw [blk_cell hh2]; rfl, by rw [blk_cell hh2]; rfl, by rw [blk_cell hh2]; rfl, blk_frozen hh2 _, blk_frozen hh2 _, blk_frozen hh2 _⟩

theorem ndT_le (xs : List Int) (h : xs.length ≤ 1000) : (ndT xs).length ≤ 1000 := by
  unfold ndT
  split
  · exact h
  · simp

theorem gen_end {w w1 w2 w3 w4 : World} {o : Obj} {vN vE x y z : Value} {ns : List Int} {es : List S30} (h0 : Below w.heap.size w (w.alloc (.cells #[.bool false, .slice none 0 0, .slice none 0 0] 25)))
    (h1 : Below (w.alloc (.cells #[.bool false, .slice none 0 0, .slice none 0 0] 25)).heap.size (w.alloc (.cells #[.bool false, .slice none 0 0, .slice none 0 0] 25)) w1)
    (h2 : Below (w1.alloc o).heap.size (w1.alloc o) w2) (h3 : Below w1.heap.size w2 w3) (hN : w4.ownsRow w3.heap.size 3 1 vN ns.length (nums .i64 ns)) (hE : w4.ownsRow w3.heap.size 30 3 vE es.length (flE es)) (h4 : Below w3.heap.size w3 w4) :
    Kd.R (Kd.int .i64) 3 (((w4.setCell ⟨w.heap.size, 0, none⟩ x).setCell ⟨w.heap.size, 1, none⟩ y).setCell ⟨w.heap.size, 2, none⟩ z) w.heap.size (fun _ => True) vN ns ∧
    Kd.R k30 30 (((w4.setCell ⟨w.heap.size, 0, none⟩ x).setCell ⟨w.heap.size, 1, none⟩ y).setCell ⟨w.heap.size, 2, none⟩ z) w.heap.size (fun _ => True) vE es ∧
    Below w.heap.size w (((w4.setCell ⟨w.heap.size, 0, none⟩ x).setCell ⟨w.heap.size, 1, none⟩ y).setCell ⟨w.heap.size, 2, none⟩ z) := by
  have s1 := h1.size
  have s2 := h2.size
  have s3 := h3.size
  simp at s1 s2
  have hb : Below w.heap.size w w4 := by
    have a1 : Below w.heap.size w w1 := h0.trans (h1.mono (by simp))
    have a2 : Below w.heap.size w1 (w1.alloc o) := (Below.refl _ _).alloc (by omega) _
    have a3 := (a1.trans a2).trans (h2.mono (by simp; omega))
    exact (a3.trans (h3.mono (by omega))).trans (h4.mono (by omega))
  have hm : ∀ k, w3.heap.size ≤ k → (((w4.setCell ⟨w.heap.size, 0, none⟩ x).setCell ⟨w.heap.size, 1, none⟩ y).setCell ⟨w.heap.size, 2, none⟩ z).heap[k]? = w4.heap[k]? := by
    intro k hk
    have hne : k ≠ w.heap.size := by omega
    rw [Below.heap_setCell _ _ _ _ hne, Below.heap_setCell _ _ _ _ hne, Below.heap_setCell _ _ _ _ hne]
  refine ⟨R_of_nums (own_weaken (own_of_heap hN (fun k hk => hm k (own_base hN k hk))) (by omega)), R_of_flE (own_weaken (own_of_heap hE (fun k hk => hm k (own_base hE k hk))) (by omega)), ((hb.setCell (Nat.le_refl _) _).setCell (Nat.le_refl _) _).setCell (Nat.le_refl _) _⟩

def badG : Value := .tuple #[.agg #[.bool false, .slice none 0 0, .slice none 0 0], .bool true]

set_option maxHeartbeats 4000000 in
set_option maxRecDepth 100000 in
theorem genTree_bad (d : Bool) (n : Int) (A : Option Addr) (c : Nat) (xs : List Int) (w : World) (h : Kd.C (Kd.int .i64) w A xs.length xs) (hb : xs.length ≤ 1000)
    (hbad : ¬ xs.Nodup ∨ (1 < xs.length ∧ (n < 1 ∨ (xs.length : Int) ≤ n))) :
    Calls Try.prog 4 #[.bool d, .int .i64 n, .slice A xs.length c] w fun e w' => e = .returned badG ∧ Below w.heap.size w w' := by
  have hb1 : Below w.heap.size w (w.alloc (.cells #[.bool false, .slice none 0 0, .slice none 0 0] 25)) := (Below.refl _ _).alloc (Nat.le_refl _) _
  have HC := Aside0.mk (Kd.C_below h hb1)
  have HB1 := Aside0.mk hb1
  have hways : decide xs.Nodup = false ∨ (decide xs.Nodup = true ∧ decide ((1 : Int) < (xs.length : Int)) = true ∧ decide (n < 1) = true) ∨ (decide xs.Nodup = true ∧ decide ((1 : Int) < (xs.length : Int)) = true ∧ decide (n < 1) = false ∧ decide ((xs.length : Int) ≤ n) = true) := by
    by_cases hn : xs.Nodup
    · right
      have h2 := hbad.resolve_left (fun h => h hn)
      by_cases h3 : n < 1
      · left; exact ⟨decide_eq_true hn, decide_eq_true (by omega), decide_eq_true h3⟩
      · right; exact ⟨decide_eq_true hn, decide_eq_true (by omega), decide_eq_false h3, decide_eq_true (by omega)⟩
    · left; exact decide_eq_false hn
  clear h hb1 hbad
  rcases hways with h1 | ⟨h1, h2, h3⟩ | ⟨h1, h2, h3, h4⟩
  all_goals
    go_enter Try.func4, Try.ntmps4
    go_wp2_with (go_at_call 8; refine (twice_any A c xs _ HC.out hb).mono ?_; rintro e w1 ⟨rfl, hbel⟩; obtain ⟨z0, z1, z2, z3, z4, z5⟩ := zcells hbel; have H1 := Aside0.mk hbel; clear hbel)
    refine bodyPost_ret (v := badG) (by simp [results, Try.results4, go_sem, badG, *]) rfl ⟨rfl, ?_⟩
    exact (((HB1.out.trans (H1.out.mono (by simp))).setCell (Nat.le_refl _) _).setCell (Nat.le_refl _) _).setCell (Nat.le_refl _) _

theorem Bld.mk0 (w : World) (d : Bool) : Bld (w.alloc (.cells #[.bool d, .slice none 0 0, .slice none 0 0, .slice none 0 0] 39)) w.heap.size w.heap.size d (.slice none 0 0) [] (.slice none 0 0) [] :=
  ⟨heap_alloc_new _ _, Nat.le_refl _, World.ownsRow_nil _ _ _ _, World.ownsRow_nil _ _ _ _⟩

set_option maxHeartbeats 4000000 in
set_option maxRecDepth 100000 in
theorem genTree_ok (d : Bool) (n : Int) (A : Option Addr) (c : Nat) (xs : List Int) (w : World) (h : Kd.C (Kd.int .i64) w A xs.length xs) (hc : xs.length ≤ c) (hb : xs.length ≤ 1000)
    (hnd : xs.Nodup) (hn : 1 < xs.length → 1 ≤ n ∧ n < xs.length) (hw : ∀ x ∈ xs, (Lit.int .i64 x).wf = true) :
    Calls Try.prog 4 #[.bool d, .int .i64 n, .slice A xs.length c] w fun e w' => ∃ vN vE, e = .returned (.tuple #[.agg #[.bool d, vN, vE], .bool false]) ∧
      Kd.R (Kd.int .i64) 3 w' w.heap.size (fun _ => True) vN (cpt (srt (ndT xs ++ endsE (treeE n.toNat xs)))) ∧ Kd.R k30 30 w' w.heap.size (fun _ => True) vE (srtE ((treeE n.toNat xs).map (orE d))) ∧ Below w.heap.size w w' := by
  have hb1 : Below w.heap.size w (w.alloc (.cells #[.bool false, .slice none 0 0, .slice none 0 0] 25)) := (Below.refl _ _).alloc (Nat.le_refl _) _
  have HC := Aside0.mk (Kd.C_below h hb1)
  have HB1 := Aside0.mk hb1
  have h1 : decide xs.Nodup = true := decide_eq_true hnd
  have hways : decide ((1 : Int) < (xs.length : Int)) = false ∨ (decide ((1 : Int) < (xs.length : Int)) = true ∧ decide (n < 1) = false ∧ decide ((xs.length : Int) ≤ n) = false) := by
    by_cases h3 : 1 < xs.length
    · have := hn h3
      right; exact ⟨decide_eq_true (by omega), decide_eq_false (by omega), decide_eq_false (by omega)⟩
    · left; exact decide_eq_false (by omega)
  have HP := Aside0.mk (And.intro hnd (And.intro hn (And.intro hw hc)))
  clear h hb1 hnd hn hw hc
  rcases hways with h2 | ⟨h2, h3, h4⟩
  all_goals
    go_enter Try.func4, Try.ntmps4
    go_wp2_with (first
      | (go_at_call 8; refine (twice_any A c xs _ HC.out hb).mono ?_; rintro e w1 ⟨rfl, hbel⟩; have H1 := Aside0.mk hbel; clear hbel)
      | (go_at_call 10; refine (impl_idsOf.calls (xs.length + 1) A c xs xs _ (Kd.C_below (Kd.C_below HC.out H1.out) ((Below.refl _ _).alloc (Nat.le_refl _) _)) HP.out.2.2.2 (idsOf_f xs hb)).mono ?_; rintro e w2 ⟨v2, rfl, hR, hb2⟩; obtain ⟨A2, c2, rfl⟩ := Kd.R_slice hR; have HB0 := Aside0.mk ((Bld.mk0 w1 d).below hb2); have H2 := Aside0.mk (And.intro (own_of_R hR) hb2); clear hR hb2)
      | (go_at_call 9; refine (tree_any w1.heap.size w1.heap.size _ d n A2 c2 xs w2 HB0.out H2.out.1 hb HP.out.2.1 HP.out.1 HP.out.2.2.1).mono ?_; rintro e w3 ⟨rfl, vn, ve, hb3, hbel3⟩; have HB3 := Aside0.mk (And.intro hb3 hbel3); clear hb3 hbel3)
      | (go_at_call 11; refine (graphOf_any _ _ d vn (ndT xs) ve (treeE n.toNat xs) w3 HB3.out.1 (ndT_le xs hb) (by rw [treeE_length]; omega) (tree_apart d _ xs HP.out.1)).mono ?_; rintro e w4 ⟨vN, vE, rfl, hN, hE, hbel4⟩; obtain ⟨VN, CN, rfl⟩ := own_slice hN; obtain ⟨VE, CE, rfl⟩ := own_slice hE; have HB4 := Aside0.mk (And.intro hN (And.intro hE hbel4)); clear hN hE hbel4; obtain ⟨z0, z1, z2, z3, z4, z5⟩ := zkeep H1.out H2.out.2 HB3.out.2 HB4.out.2.2))
    refine bodyPost_ret (v := .tuple #[.agg #[.bool d, .slice VN _ CN, .slice VE _ CE], .bool false]) (by simp [results, Try.results4, go_sem, *]; exact ⟨rfl, rfl⟩) rfl ⟨_, _, rfl, ?_⟩
    exact gen_end HB1.out H1.out H2.out.2 HB3.out.2 HB4.out.1 HB4.out.2.1 HB4.out.2.2
end Go.Proofs.Ytgiebjihceggjaa

/- The contract of impl.GenTree, in the printed contracts' form. -/
namespace Go.Proofs.Ytgiebjihceggjaa
open Go.RowKit Go.Proofs.YtgiebjihceggjaaW.PrintWords Go.Proofs.YtgiebjihceggjaaW.PrintLast Go.Proofs.YtgiebjihceggjaaW.PrintMore
namespace PFnGenTree
def impl_GenTree.f (a0 : Bool) (a1 : Int) (l2 : List Int) : Option (Bool × List Int × List S30 × Bool) :=
  if l2.length ≤ 1000 ∧ (l2.all fun x => (Lit.int .i64 x).wf) = true then
    if ¬ l2.Nodup ∨ (1 < l2.length ∧ (a1 < 1 ∨ (l2.length : Int) ≤ a1)) then some (false, [], [], true)
    else some (a0, cpt (srt (ndT l2 ++ endsE (treeE a1.toNat l2))), srtE ((treeE a1.toNat l2).map (orE a0)), false)
  else none
theorem impl_GenTree.calls (a0 : Bool) (a1 : Int) (A2 : Option Addr) (c2 : Nat) (l2 : List Int) (r1 : Bool) (r2 : List Int) (r3 : List S30) (r4 : Bool) (w : World)
    (hr2 : Kd.C (Kd.int .i64) w A2 l2.length l2) (hc2 : l2.length ≤ c2) (h : impl_GenTree.f a0 a1 l2 = some (r1, r2, r3, r4)) :
    Calls Try.prog 4 #[.bool a0, .int .i64 a1, .slice A2 l2.length c2] w fun e w' => ∃ v1_ v2_ : Value, e = .returned (.tuple #[.agg #[.bool r1, v1_, v2_], .bool r4]) ∧ Kd.R (Kd.int .i64) 3 w' w.heap.size (fun _ => True) v1_ r2 ∧ Kd.R k30 30 w' w.heap.size (fun _ => True) v2_ r3 ∧ Below w.heap.size w w' := by
  unfold impl_GenTree.f at h
  split at h
  · rename_i hc
    split at h
    · rename_i hbad
      injection h with h
      injection h with h1 h
      injection h with h2 h
      injection h with h3 h4
      subst h1 h2 h3 h4
      refine (genTree_bad a0 a1 A2 c2 l2 w hr2 hc.1 hbad).mono ?_
      rintro e w' ⟨rfl, hb⟩
      exact ⟨_, _, rfl, Kd.R_nil _ _ _ _ _, Kd.R_nil _ _ _ _ _, hb⟩
    · rename_i hgood
      injection h with h
      injection h with h1 h
      injection h with h2 h
      injection h with h3 h4
      subst h1 h2 h3 h4
      rw [not_or] at hgood
      have hw : ∀ x ∈ l2, (Lit.int .i64 x).wf = true := List.all_eq_true.1 hc.2
      exact genTree_ok a0 a1 A2 c2 l2 w hr2 hc2 hc.1 (Classical.not_not.1 hgood.1) (fun h1 => by have := hgood.2; omega) hw
  · cases h
end PFnGenTree
end Go.Proofs.Ytgiebjihceggjaa
