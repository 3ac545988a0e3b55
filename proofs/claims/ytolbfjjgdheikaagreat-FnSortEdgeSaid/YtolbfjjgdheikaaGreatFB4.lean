import Derived.Test.YtolbfjjgdheikaaGreatFB1
import Derived.WalkSpells
import Derived.WalkLawsBesides
import Derived.Lib.Hide
import Derived.Lib.SliceRun
import Derived.Test.YtolbfjjgdheikaaGreatFT0
import Derived.Deep.RegionHeld3
import Derived.Deep.CutRange
import Derived.Deep.OwnRows
import Derived.BigRegion
import Derived.Test.YtolbfjjgdheikaaGreatFB2
import Derived.BigQuiet
set_option linter.unusedVariables false
set_option linter.unusedSimpArgs false
namespace Go.Proofs.YtolbfjjgdheikaaGreat.Q
open Go.RowKit Go.Lab Go.Proofs.YtolbfjjgdheikaaGreatW.PrintWords Go.Proofs.YtolbfjjgdheikaaGreatW.PrintLast Go.Proofs.YtolbfjjgdheikaaGreatW.PrintMore

theorem Tryz.info2 : (Tryz.prog.info? 2).map (fun i => (i.zero, i.size, i.bytes)) = some (some (.int .i64 0), 1, 8) := by kernel_rfl
theorem Tryz.info3 : (Tryz.prog.info? 3).map (fun i => (i.zero, i.size, i.bytes)) = some (some (.int .i64 0), 1, 8) := by kernel_rfl

/-- cells of a read slice of ints -/
theorem C_int_cells {w : World} {A : Option Addr} {n : Nat} {xs : List Int} {k : IntKind} (h : Kd.C (Kd.int k) w A n xs) {ad : Addr} (hA : A = some ad) :
    ∀ j u, (nums k xs)[j]? = some u → w.cell? (ad.add j) = some u := by
  intro j u hu
  obtain ⟨hl, _, hc⟩ := h
  have hj : j < xs.length := by
    rcases Nat.lt_or_ge j xs.length with h | h
    · exact h
    · rw [List.getElem?_eq_none (by rw [nums_length]; exact h)] at hu; cases hu
  obtain ⟨ad', e, hc⟩ := hc (by omega)
  rw [hA] at e; cases e
  obtain ⟨c, _, hr, hcell⟩ := hc j _ (List.getElem?_eq_getElem hj)
  have hr' : c = [.int k xs[j]] := hr
  subst hr'
  have := hcell 0 (.int k xs[j]) rfl
  simp only [nums, List.getElem?_map, List.getElem?_eq_getElem hj, Option.map_some, Option.some.injEq] at hu
  subst hu
  have hs : (Kd.int k).sz = 1 := rfl
  rw [hs] at this
  simpa using this

theorem C_int_at {w : World} {A : Option Addr} {n : Nat} {xs : List Int} {k : IntKind} (h : Kd.C (Kd.int k) w A n xs) (i : Nat) (hi : i < n) : ∃ ad, A = some ad ∧ w.cell? (ad.add i) = some (.int k (xs.getD i 0)) := by
  obtain ⟨ad, e, hc⟩ := Kd.at_int h i (by omega) (by omega)
  exact ⟨ad, e, by simpa [rd] using hc⟩

theorem Below.up {B : Nat} {w W w' : World} (h : Below B w W) (k : Below W.heap.size W w') (hB : B ≤ w.heap.size) : Below B w w' := h.trans (k.mono (Nat.le_trans hB h.size))

theorem own_of_heap {w w1 : World} {base : Nat} {e : TypeId} {size n : Nat} {v : Value} {xs : List Value} (h : w.ownsRow base e size v n xs) (hk : ∀ k, v.ownBlock = some k → w1.heap[k]? = w.heap[k]?) : w1.ownsRow base e size v n xs := own_move h hk

theorem own_block {w : World} {base : Nat} {e : TypeId} {size n : Nat} {v : Value} {xs : List Value} (h : w.ownsRow base e size v n xs) {k : Nat} (hk : v.ownBlock = some k) : ∃ cells, w.heap[k]? = some (.cells cells e (0, 0)) := own_typed h k hk

theorem blk_type {w : World} {k : Nat} {c c' : Array Value} {e e' : TypeId} (h : w.heap[k]? = some (.cells c e (0,0))) (h' : w.heap[k]? = some (.cells c' e' (0,0))) : e = e' := by
  rw [h] at h'
  injection h' with h'
  injection h' with _ h'

end Go.Proofs.YtolbfjjgdheikaaGreat.Q


/- The contract of slices.Clone at int, in the printed contracts' form. -/
namespace Go.Proofs.YtolbfjjgdheikaaGreat.Q
open Go.RowKit Go.Lab Go.Proofs.YtolbfjjgdheikaaGreatW.PrintWords Go.Proofs.YtolbfjjgdheikaaGreatW.PrintLast Go.Proofs.YtolbfjjgdheikaaGreatW.PrintMore

end Go.Proofs.YtolbfjjgdheikaaGreat.Q
namespace Go.Proofs.YtolbfjjgdheikaaGreat.PL
open Go.RowKit Go.Lab Go.Proofs.YtolbfjjgdheikaaGreatW.PrintWords Go.Proofs.YtolbfjjgdheikaaGreatW.PrintLast Go.Proofs.YtolbfjjgdheikaaGreatW.PrintMore Go.Proofs.YtolbfjjgdheikaaGreat.Q
end Go.Proofs.YtolbfjjgdheikaaGreat.PL


namespace Go.Proofs.YtolbfjjgdheikaaGreat.Q
open Go.RowKit Go.Lab Go.Proofs.YtolbfjjgdheikaaGreatW.PrintWords Go.Proofs.YtolbfjjgdheikaaGreatW.PrintLast Go.Proofs.YtolbfjjgdheikaaGreatW.PrintMore PL

theorem news1 (w : World) (x : Value) (t : TypeId) : ∀ j u, [x][j]? = some u → (w.alloc (.cells #[x] t)).cell? ((⟨w.heap.size, 0, none⟩ : Addr).add j) = some u := by
  intro j u hu
  rw [add_plain, blk_cell (heap_alloc_new w (.cells #[x] t))]
  match j, hu with
  | 0, hu => exact hu
  | j + 1, hu => simp at hu

theorem news1' (w : World) (x : Value) (t : TypeId) (B : Nat) (hB : w.heap.size = B) : ∀ j u, [x][j]? = some u → (w.alloc (.cells #[x] t)).drew.cell? ((⟨B, 0, none⟩ : Addr).add j) = some u := by
  subst hB
  exact news1 w x t

end Go.Proofs.YtolbfjjgdheikaaGreat.Q


/- The iterator over the ends of arcs. -/
namespace Go.Proofs.YtolbfjjgdheikaaGreat.R
open Go.RowKit Go.Lab Go.Maps Go.Proofs.YtolbfjjgdheikaaGreatW.PrintWords Go.Proofs.YtolbfjjgdheikaaGreatW.PrintLast Go.Proofs.YtolbfjjgdheikaaGreatW.PrintMore PL

def en.T5 : Bool × List (List Nat × List Nat) := (true, [([], []), ([], []), ([1], [1]), ([2], [2]), ([3], [3]), ([], []), ([5], [5]), ([4, 6], [4, 6]), ([7], [7]), ([8], [8]), ([9], [9]), ([0, 10], [0, 10]), ([11, 11, 0, 1, 2, 3, 4, 5, 6, 7, 8, 9, 10, 11], [0, 11])])
def en.B5 : List Nat := [0, 0, 2, 6, 14, 0, 32, 126, 254, 510, 1022, 2047, 4095]
theorem en.tab5 : rtab .any (opsOf Tryz.f190 5) = en.T5 := by kernel_rfl
theorem en.bits5 : waitsOk en.T5.2 en.B5 = true := by kernel_rfl

/-- the nodes at which arcs end -/
def endsN (ids : List Int) (l : List (Int × Nat)) : List Int := l.map fun a => ids.getD a.1.toNat 0
theorem endsN_length (ids : List Int) (l : List (Int × Nat)) : (endsN ids l).length = l.length := by simp [endsN]
theorem endsN_get (ids : List Int) (l : List (Int × Nat)) (k : Nat) (h : k < l.length) : (endsN ids l)[k]'(by rw [endsN_length]; exact h) = ids.getD l[k].1.toNat 0 := by simp [endsN]
theorem nodes_step (r : List Int) (k : Nat) (hk : k < r.length) : nodeVs (r.take (k + 1)) = nodeVs (r.take k) ++ [nodeV r[k]] := by
  rw [List.take_succ_eq_append_getElem hk]; unfold nodeVs; rw [List.map_append]; rfl

set_option maxHeartbeats 8000000 in
set_option maxRecDepth 100000 in
theorem ends_any (base bp bl : Nat) (p : Pl) (v : Value) (l : List (Int × Nat)) (w : World) (h : PlOk w base bp p) (hv : w.ownsRow bl 208 2 v l.length (fl l)) (hn : p.ids.length ≤ 1000) (hl : l.length ≤ 1000) (ha : ∀ a ∈ l, 0 ≤ a.1 ∧ a.1 < p.ids.length) :
    Calls Tryz.prog 190 #[.pointer (some ⟨bp, 0, none⟩), v] w fun e w' => ∃ b, e = .returned (.iface 255 (.pointer (some ⟨b, 0, none⟩))) ∧ OIt w.heap.size w'.heap.size w' b (endsN p.ids l) 0 ∧ Below w.heap.size w w' := by
  obtain ⟨Ai, ci, hcell, hC, hbl⟩ := h.idsC
  have HC := Aside0.mk hC
  have HV := Aside0.mk hv
  have HA := Aside0.mk ha
  obtain ⟨VA, vc, rfl⟩ := own_slice hv
  obtain ⟨i0, hi, hz0, hz1, hz2⟩ := info_parts Tryz.info72
  have HI := Aside0.mk (And.intro hi (And.intro hz0 (And.intro hz1 hz2)))
  have hmk := make_nodes l.length hl
  have hel := endsN_length p.ids l
  clear h hC hv ha hi hz0 hz1 hz2
  generalize p.ids = ids at *
  go_enter Tryz.func190, Tryz.ntmps190
  go_wp2
  go_loopw [5, 13] (fun v i wr => ∃ V C k, v = .slice V k C ∧ k ≤ l.length ∧ i = .int .i64 k ∧ Aside0 (wr.ownsRow w.heap.size 72 1 (.slice V k C) k (nodeVs ((endsN ids l).take k)) ∧ Below w.heap.size w wr)) (fun _ i _ => l.length - (intOf i).toNat)
  case atStart => exact ⟨_, l.length, 0, rfl, Nat.zero_le _, rfl, ⟨World.ownsRow_made w _ l.length (Nat.le_refl _) (by unfold maxLen; omega) (by rw [size_madeCells, Nat.mul_one]), (Below.refl _ _).alloc (Nat.le_refl _) _⟩⟩
  case round =>
    obtain ⟨V, C, k, rfl, hk, rfl, HR⟩ := hrel
    have hbw := HR.out.2.size
    by_cases hlt : k < l.length
    · obtain ⟨g, cap, hve, hgl, hcap, hc0, hc1⟩ := fl_cells HV.out k hlt
      injection hve with e1 _ e3
      subst e1 e3
      have hak := HA.out _ (List.getElem_mem hlt)
      have hn0 : 0 < ids.length := by omega
      have hlt2 : l[k].1.toNat < ids.length := by omega
      obtain ⟨ad, rfl, hcx⟩ := C_int_at (Kd.C_below HC.out HR.out.2) l[k].1.toNat hlt2
      have HS := Aside0.mk (nodes_step (endsN ids l) k (by omega))
      rw [endsN_get ids l k hlt] at HS
      replace hc0 := (HR.out.2.cell (p := ⟨g, k * 2, none⟩) hgl).trans hc0
      replace hc1 := (HR.out.2.cell (p := ⟨g, k * 2 + 1, none⟩) hgl).trans hc1
      have hcb := (HR.out.2.cell (p := ⟨bp, 0, none⟩) hbl).trans hcell
      have hbb : bp < wr.heap.size := by omega
      obtain ⟨q, hq⟩ : ∃ q : Nat, l[k].1 = (q : Int) := ⟨l[k].1.toNat, by omega⟩
      rw [hq] at hlt2 hcx HS hc0
      rw [Int.toNat_natCast] at hlt2 hcx HS
      generalize ids.getD q 0 = x at hcx HS
      generalize l[k].2 = a1 at hc1
      clear hak hq
      have hcb2 : (World.drew (wr.alloc (.cells #[.int .i64 q, .float .f64 a1] 208))).cell? ⟨bp, 0, none⟩ = some (.slice (some ad) ids.length ci) := Lib.cell?_alloc_some _ hcb
      have hca2 : (World.drew (wr.alloc (.cells #[.int .i64 q, .float .f64 a1] 208))).cell? ⟨wr.heap.size, 0, none⟩ = some (.int .i64 q) := (blk_cell (heap_alloc_new _ _) 0).trans rfl
      have hcx2 : (World.drew (wr.alloc (.cells #[.int .i64 q, .float .f64 a1] 208))).cell? (ad.add q) = some (.int .i64 x) := Lib.cell?_alloc_some _ hcx
      have HOW := Aside0.mk (show (World.drew (wr.alloc (.cells #[.int .i64 q, .float .f64 a1] 208))).ownsRow w.heap.size 72 1 (.slice V k C) k (nodeVs ((endsN ids l).take k)) from World.ownsRow.alloc HR.out.1 _)
      have hq0 : (0 : Int) ≤ (q : Int) := by omega
      have hq1 : (q : Int) < (ids.length : Int) := by omega
      go_wp2_with fail
      refine start_ (n := 13) (S := fun w' => w'.cell? ⟨bp, 0, none⟩ = some (.slice (some ad) ids.length ci) ∧ w'.cell? ⟨wr.heap.size, 0, none⟩ = some (.int .i64 q) ∧ w'.cell? (ad.add q) = some (.int .i64 x)) (ds := [10, 11]) #[false, false, false, false, false, false, false, false, false, false, false, false, false] (by kernel_rfl) rfl rfl ⟨hcb2, hca2, hcx2⟩ (fun hHeld => ?_)
      refine with_tabW en.tab5 en.bits5 (fun HT_ HW_ => ?_)
      refine pure_ (i := 0) (N := some 17) (v := ?_) (a' := ?_) #[true, false, false, false, false, false, false, false, false, false, false, false, false] rfl rfl (any_of HT_.out (by kernel_rfl)) (fun _ _ _ h => h) (Or.inl ⟨by rfl, ?_⟩) ?_ ?_
      rotate_left
      · intro w'
        go_simp
        with_reducible rfl
      rotate_left
      · simp only [Act.put, List.setIfInBounds_toArray, List.set_cons_zero, List.set_cons_succ, i64_w, i32_w]
        rfl
      refine pure_ (i := 1) (N := some 18) (v := ?_) (a' := ?_) #[true, true, false, false, false, false, false, false, false, false, false, false, false] rfl rfl (any_of HT_.out (by kernel_rfl)) (fun _ _ _ h => h) (Or.inl ⟨by rfl, ?_⟩) ?_ ?_
      rotate_left
      · intro w'
        go_simp
        with_reducible rfl
      rotate_left
      · simp only [Act.put, List.setIfInBounds_toArray, List.set_cons_zero, List.set_cons_succ, i64_w, i32_w]
        rfl
      refine pure_ (i := 2) (N := some 19) (v := ?_) (a' := ?_) #[true, true, true, false, false, false, false, false, false, false, false, false, false] rfl rfl (any_of HT_.out (by kernel_rfl)) (fun _ _ _ h => h) (Or.inl ⟨by rfl, ?_⟩) ?_ ?_
      rotate_left
      · intro w'
        go_simp
        with_reducible rfl
      rotate_left
      · simp only [Act.put, List.setIfInBounds_toArray, List.set_cons_zero, List.set_cons_succ, i64_w, i32_w]
        rfl
      refine pure_ (i := 3) (N := some 20) (v := ?_) (a' := ?_) #[true, true, true, true, false, false, false, false, false, false, false, false, false] rfl rfl (any_of HT_.out (by kernel_rfl)) (fun _ _ _ h => h) (Or.inl ⟨by rfl, ?_⟩) ?_ ?_
      rotate_left
      · intro w'
        go_simp
        with_reducible rfl
      rotate_left
      · simp only [Act.put, List.setIfInBounds_toArray, List.set_cons_zero, List.set_cons_succ, i64_w, i32_w]
        rfl
      refine pure_ (i := 5) (N := some 22) (v := ?_) (a' := ?_) #[true, true, true, true, false, true, false, false, false, false, false, false, false] rfl rfl (any_of HT_.out (by kernel_rfl)) (fun _ _ _ h => h) (Or.inl ⟨by rfl, ?_⟩) ?_ ?_
      rotate_left
      · intro w'
        go_simp
        with_reducible rfl
      rotate_left
      · simp only [Act.put, List.setIfInBounds_toArray, List.set_cons_zero, List.set_cons_succ, i64_w, i32_w]
        rfl
      refine take_ (i := 4) (N := some 21) (v := ?_) (a' := ?_) #[true, true, true, true, true, true, false, false, false, false, false, false, false] rfl rfl (take_ofW HT_.out HW_.out (by kernel_rfl)) (fun _ _ _ h => h) (Or.inl ⟨by rfl, ?_⟩) hHeld ?_ ?_
      rotate_left
      · rintro w' ⟨s0, s1, s2⟩
        go_simp
        with_reducible rfl
      rotate_left
      · simp only [Act.put, List.setIfInBounds_toArray, List.set_cons_zero, List.set_cons_succ, i64_w, i32_w]
        rfl
      refine take_ (i := 6) (N := some 23) (v := ?_) (a' := ?_) #[true, true, true, true, true, true, true, false, false, false, false, false, false] rfl rfl (take_ofW HT_.out HW_.out (by kernel_rfl)) (fun _ _ _ h => h) (Or.inl ⟨by rfl, ?_⟩) hHeld ?_ ?_
      rotate_left
      · rintro w' ⟨s0, s1, s2⟩
        go_simp
        with_reducible rfl
      rotate_left
      · simp only [Act.put, List.setIfInBounds_toArray, List.set_cons_zero, List.set_cons_succ, i64_w, i32_w]
        rfl
      refine pure_ (i := 7) (N := some 24) (v := ?_) (a' := ?_) #[true, true, true, true, true, true, true, true, false, false, false, false, false] rfl rfl (any_of HT_.out (by kernel_rfl)) (fun _ _ _ h => h) (Or.inl ⟨by rfl, ?_⟩) ?_ ?_
      rotate_left
      · intro w'
        go_simp
        with_reducible rfl
      rotate_left
      · simp only [Act.put, List.setIfInBounds_toArray, List.set_cons_zero, List.set_cons_succ, i64_w, i32_w]
        rfl
      refine take_ (i := 8) (N := some 25) (v := ?_) (a' := ?_) #[true, true, true, true, true, true, true, true, true, false, false, false, false] rfl rfl (take_ofW HT_.out HW_.out (by kernel_rfl)) (fun _ _ _ h => h) (Or.inl ⟨by rfl, ?_⟩) hHeld ?_ ?_
      rotate_left
      · rintro w' ⟨s0, s1, s2⟩
        go_simp
        with_reducible rfl
      rotate_left
      · simp only [Act.put, List.setIfInBounds_toArray, List.set_cons_zero, List.set_cons_succ, i64_w, i32_w]
        rfl
      refine pure_ (i := 9) (N := some 26) (v := ?_) (a' := ?_) #[true, true, true, true, true, true, true, true, true, true, false, false, false] rfl rfl (any_of HT_.out (by kernel_rfl)) (fun _ _ _ h => h) (Or.inl ⟨by rfl, ?_⟩) ?_ ?_
      rotate_left
      · intro w'
        go_simp
        with_reducible rfl
      rotate_left
      · simp only [Act.put, List.setIfInBounds_toArray, List.set_cons_zero, List.set_cons_succ, i64_w, i32_w]
        rfl
      refine last_ (i := 10) (N := some 27) #[true, true, true, true, true, true, true, true, true, true, true, false, false] rfl rfl (one_of HT_.out (by kernel_rfl)) (by decide) (fun K hK => ?_)
      refine value_ (w1 := ?_) (v := ?_) (by rfl) rfl ?_ ?_
      rotate_left 2
      · go_simp
        constructor
        · rfl
        · rfl
      refine hK.out _ _ ?_
      clear hK K
      refine norm_ (a' := ?_) ?_ ?_
      rotate_left
      · show Act.put _ (some 27) _ = _
        simp only [Act.put, List.setIfInBounds_toArray, List.set_cons_zero, List.set_cons_succ, i64_w, i32_w]
        rfl
      refine last_ (i := 11) (N := some 28) #[true, true, true, true, true, true, true, true, true, true, true, true, false] rfl rfl (one_of HT_.out (by kernel_rfl)) (by decide) (fun K hK => ?_)
      refine step_append_lies _ (by rfl) _ _ _ (by rfl) w.heap.size 72 i0 _ 1 16 Tryz.underlying68 HI.out.1 HI.out.2.1 HI.out.2.2.1 HI.out.2.2.2 rfl (by omega) (.slice V k C) k (nodeVs ((endsN ids l).take k)) (by rfl) (by exact World.ownsRow.alloc HOW.out _) ⟨wr.heap.size + 1, 0, none⟩ 1 1 [nodeV x] (by rfl) (by rfl) (by exact Q.news1' _ _ _ _ (by simp)) (by simp [Value.oneCell', nodeV]) (by omega) (by unfold maxLen; omega) (by omega) (by simp; omega) _ rfl ?_
      intro gg cap w4 hown4 hgr4 hat4 hlt4
      have G4 := Aside0.mk (And.intro hown4 hgr4)
      clear hown4 hgr4 hat4 hlt4
      refine hK.out _ _ ?_
      clear hK K
      refine norm_ (a' := ?_) ?_ ?_
      rotate_left
      · show Act.put _ (some 28) _ = _
        simp only [Act.put, List.setIfInBounds_toArray, List.set_cons_zero, List.set_cons_succ, i64_w, i32_w]
        rfl
      refine pure_ (i := 12) (N := some 5) (v := ?_) (a' := ?_) #[true, true, true, true, true, true, true, true, true, true, true, true, true] rfl rfl (any_of HT_.out (by kernel_rfl)) (fun _ _ _ h => h) (Or.inl ⟨by rfl, ?_⟩) ?_ ?_
      rotate_left
      · intro w'
        go_simp
        with_reducible rfl
      rotate_left
      · simp only [Act.put, List.setIfInBounds_toArray, List.set_cons_zero, List.set_cons_succ, i64_w, i32_w]
        rfl
      refine done_ (done_of HT_.out (by kernel_rfl)) ?_
      go_wp2
      go_roundw
      case rel => exact ⟨_, cap, k + 1, rfl, by omega, by go_num, ⟨by rw [HS.out]; exact G4.out.1, ((HR.out.2.alloc hbw _).drew.alloc (by simp; omega) _).grown G4.out.2 (by simp; omega) (fun q hq => own_base HR.out.1 q hq)⟩⟩
      case measure => simp [intOf]; omega
    · obtain rfl : k = l.length := by omega
      have h1 := HR.out
      rw [← hel, List.take_length] at h1
      have H1 := Aside0.mk h1
      clear h1 HR
      go_wp2_with (go_at_call 194; refine (new_any _ _ _ _).mono ?_; rintro e w1 ⟨rfl, rfl⟩)
      go_ret
      have hmd := OIt.made H1.out.1 H1.out.2.size
      rw [hel] at hmd
      exact ⟨wr.heap.size, rfl, by simpa using hmd, H1.out.2.alloc H1.out.2.size _⟩
end Go.Proofs.YtolbfjjgdheikaaGreat.R


/- The iterator over the nodes of two iterators, each once. -/
namespace Go.Proofs.YtolbfjjgdheikaaGreat.R
open Go.RowKit Go.Lab Go.Maps Go.Proofs.YtolbfjjgdheikaaGreatW.PrintWords Go.Proofs.YtolbfjjgdheikaaGreatW.PrintLast Go.Proofs.YtolbfjjgdheikaaGreatW.PrintMore PL

section
variable {lo : Nat} {w w1 : World} {b : Nat} {xs ys : List Int} {i j : Nat} {cur : Value} {la Ba ba lb Bb bb mb n : Nat} {c1 c2 : Int} {D : DataW Unit}

end
end Go.Proofs.YtolbfjjgdheikaaGreat.R



/- What a plain graph of directed edges holds, in the words of its list of edges. -/
namespace Go.Proofs.YtolbfjjgdheikaaGreat.R
open Go.RowKit Go.Lab Go.Proofs.YtolbfjjgdheikaaGreatW.PrintWords Go.Proofs.YtolbfjjgdheikaaGreatW.PrintLast Go.Proofs.YtolbfjjgdheikaaGreatW.PrintMore PL

/-- the weight of the last edge from u to v -/
def arcW (es : List S34) (u v : Int) : Option Int := es.foldl (fun o e => if e.f0 = u ∧ e.f1 = v then some e.f2 else o) none

theorem arcW_snoc (es : List S34) (e : S34) (u v : Int) : arcW (es ++ [e]) u v = if e.f0 = u ∧ e.f1 = v then some e.f2 else arcW es u v := by
  unfold arcW; rw [List.foldl_append]; rfl

theorem keys_get (l : List (Int × Nat)) (i : Nat) (h : i < (keys l).length) : (keys l)[i] = (l[i]'(by simpa [keys] using h)).1 := by simp [keys]

theorem mem_setA {l : List (Int × Nat)} (hs : (keys l).Pairwise (· < ·)) (k : Int) (x : Nat) (a : Int × Nat) : a ∈ setA l k x ↔ a = (k, x) ∨ (a ∈ l ∧ a.1 ≠ k) := by
  unfold setA
  by_cases hm : k ∈ keys l
  · rw [if_pos hm]
    obtain ⟨hr, he⟩ := (rank_mem hs k).1 hm
    have hr' : rank (keys l) k < l.length := by rw [keys_length] at hr; exact hr
    constructor
    · intro h
      obtain ⟨j, hj, rfl⟩ := List.getElem_of_mem h
      rw [List.length_set] at hj
      rw [List.getElem_set]
      split
      · exact .inl rfl
      · rename_i hne
        refine .inr ⟨List.getElem_mem _, fun hk => hne ?_⟩
        have h1 : (keys l)[j]'(by rw [keys_length]; exact hj) = k := by rw [keys_get]; exact hk
        rcases Nat.lt_trichotomy (rank (keys l) k) j with h2 | h2 | h2
        · have := List.pairwise_iff_getElem.1 hs _ _ hr (by rw [keys_length]; exact hj) h2; omega
        · exact h2
        · have := List.pairwise_iff_getElem.1 hs _ _ (by rw [keys_length]; exact hj) hr h2; omega
    · rintro (rfl | ⟨h1, h2⟩)
      · exact List.mem_iff_getElem.2 ⟨rank (keys l) k, by rw [List.length_set]; exact hr', by simp⟩
      · obtain ⟨j, hj, rfl⟩ := List.getElem_of_mem h1
        refine List.mem_iff_getElem.2 ⟨j, by rw [List.length_set]; exact hj, ?_⟩
        rw [List.getElem_set, if_neg]
        rintro rfl
        rw [keys_get] at he
        exact h2 he
  · rw [if_neg hm]
    unfold insAt
    have hne : ∀ a ∈ l, a.1 ≠ k := fun a ha h => hm (List.mem_map.2 ⟨a, ha, h⟩)
    have hl : a ∈ l ↔ a ∈ l.take (rank (keys l) k) ∨ a ∈ l.drop (rank (keys l) k) := by
      rw [← List.mem_append, List.take_append_drop]
    rw [List.mem_append, List.mem_cons]
    constructor
    · rintro (h | h | h)
      · exact .inr ⟨hl.2 (.inl h), hne _ (hl.2 (.inl h))⟩
      · exact .inl h
      · exact .inr ⟨hl.2 (.inr h), hne _ (hl.2 (.inr h))⟩
    · rintro (h | ⟨h, _⟩)
      · exact .inr (.inl h)
      · rcases hl.1 h with h | h
        · exact .inl h
        · exact .inr (.inr h)

/-- what the rows of a plain graph are for a list of edges -/
structure Adj (zs : List Int) (es : List S34) (p : Pl) : Prop where
  ids : p.ids = srt zs
  lo : p.out.length = (srt zs).length
  li : p.inn.length = (srt zs).length
  out : ∀ i, i < (srt zs).length → ∀ a, a ∈ p.out.getD i [] ↔ ∃ k n, k < (srt zs).length ∧ a = ((k : Int), floatOfInt .f64 n) ∧ arcW es ((srt zs).getD i 0) ((srt zs).getD k 0) = some n
  inn : ∀ i, i < (srt zs).length → ∀ a, a ∈ p.inn.getD i [] ↔ ∃ k n, k < (srt zs).length ∧ a = ((k : Int), floatOfInt .f64 n) ∧ arcW es ((srt zs).getD k 0) ((srt zs).getD i 0) = some n

theorem getD_srt_inj {ids : List Int} (h : ids.Pairwise (· < ·)) {i j : Nat} (hi : i < ids.length) (hj : j < ids.length) (he : ids.getD i 0 = ids.getD j 0) : i = j := by
  simp only [List.getD_eq_getElem?_getD, List.getElem?_eq_getElem hi, List.getElem?_eq_getElem hj, Option.getD_some] at he
  rcases Nat.lt_trichotomy i j with h1 | h1 | h1
  · have := List.pairwise_iff_getElem.1 h _ _ hi hj h1; omega
  · exact h1
  · have := List.pairwise_iff_getElem.1 h _ _ hj hi h1; omega

theorem rank_at {ids : List Int} (h : ids.Pairwise (· < ·)) {t : Int} (ht : t ∈ ids) : rank ids t < ids.length ∧ ids.getD (rank ids t) 0 = t := by
  obtain ⟨hr, he⟩ := (rank_mem h t).1 ht
  exact ⟨hr, by simp [List.getD_eq_getElem?_getD, List.getElem?_eq_getElem hr, he]⟩

theorem getD_set_self {α : Type} (L : List α) (i : Nat) (x d : α) (h : i < L.length) : (L.set i x).getD i d = x := by
  simp [List.getD_eq_getElem?_getD, h]
theorem getD_set_other {α : Type} (L : List α) (i j : Nat) (x d : α) (h : i ≠ j) : (L.set i x).getD j d = L.getD j d := by
  simp [List.getD_eq_getElem?_getD, h]

theorem Adj.step {zs : List Int} {es : List S34} {p : Pl} (h : Adj zs es p) (hg : p.Good) (hs : (srt zs).Pairwise (· < ·)) (e : S34) (h0 : e.f0 ∈ srt zs) (h1 : e.f1 ∈ srt zs) : Adj zs (es ++ [e]) (layE true p e) := by
  obtain ⟨a0, b0⟩ := rank_at hs h0
  obtain ⟨a1, b1⟩ := rank_at hs h1
  have hl : layE true p e = (p.outs (rank (srt zs) e.f0) (rank (srt zs) e.f1) (floatOfInt .f64 e.f2)).inns (rank (srt zs) e.f1) (rank (srt zs) e.f0) (floatOfInt .f64 e.f2) := by
    unfold layE Pl.lay; rw [h.ids]; rfl
  rw [hl]
  refine ⟨h.ids, ?_, ?_, ?_, ?_⟩
  · show (p.out.set _ _).length = _; rw [List.length_set]; exact h.lo
  · show (p.inn.set _ _).length = _; rw [List.length_set]; exact h.li
  · intro i hi a
    show a ∈ (p.out.set (rank (srt zs) e.f0) (setA (p.out.getD (rank (srt zs) e.f0) []) (rank (srt zs) e.f1 : Nat) (floatOfInt .f64 e.f2))).getD i [] ↔ _
    by_cases hr : rank (srt zs) e.f0 = i
    · subst hr
      rw [getD_set_self _ _ _ _ (by rw [h.lo]; exact a0), mem_setA (hg.out _).1, b0, h.out _ a0, b0]
      constructor
      · rintro (rfl | ⟨⟨k, n, hk, rfl, hn⟩, hne⟩)
        · exact ⟨_, e.f2, a1, rfl, by rw [arcW_snoc, b1, if_pos ⟨rfl, rfl⟩]⟩
        · refine ⟨k, n, hk, rfl, ?_⟩
          rw [arcW_snoc, if_neg]
          · exact hn
          · rintro ⟨_, hh⟩
            have := getD_srt_inj hs a1 hk (by rw [b1, hh])
            subst this
            exact hne rfl
      · rintro ⟨k, n, hk, rfl, hn⟩
        rw [arcW_snoc] at hn
        by_cases hkk : k = rank (srt zs) e.f1
        · subst hkk
          rw [b1, if_pos ⟨rfl, rfl⟩] at hn
          injection hn with hn
          subst hn
          exact .inl rfl
        · rw [if_neg] at hn
          · refine .inr ⟨⟨k, n, hk, rfl, hn⟩, ?_⟩
            show ¬ (k : Int) = _
            omega
          · rintro ⟨_, hh⟩
            exact hkk (getD_srt_inj hs hk a1 (by rw [b1, hh]))
    · rw [getD_set_other _ _ _ _ _ hr, h.out i hi]
      have hne : ∀ k, arcW (es ++ [e]) ((srt zs).getD i 0) ((srt zs).getD k 0) = arcW es ((srt zs).getD i 0) ((srt zs).getD k 0) := by
        intro k
        rw [arcW_snoc, if_neg]
        rintro ⟨hh, _⟩
        exact hr (getD_srt_inj hs a0 hi (by rw [b0, hh]))
      simp only [hne]
  · intro i hi a
    show a ∈ (p.inn.set (rank (srt zs) e.f1) (setA (p.inn.getD (rank (srt zs) e.f1) []) (rank (srt zs) e.f0 : Nat) (floatOfInt .f64 e.f2))).getD i [] ↔ _
    by_cases hr : rank (srt zs) e.f1 = i
    · subst hr
      rw [getD_set_self _ _ _ _ (by rw [h.li]; exact a1), mem_setA (hg.inn _).1, b1, h.inn _ a1, b1]
      constructor
      · rintro (rfl | ⟨⟨k, n, hk, rfl, hn⟩, hne⟩)
        · exact ⟨_, e.f2, a0, rfl, by rw [arcW_snoc, b0, if_pos ⟨rfl, rfl⟩]⟩
        · refine ⟨k, n, hk, rfl, ?_⟩
          rw [arcW_snoc, if_neg]
          · exact hn
          · rintro ⟨hh, _⟩
            have := getD_srt_inj hs a0 hk (by rw [b0, hh])
            subst this
            exact hne rfl
      · rintro ⟨k, n, hk, rfl, hn⟩
        rw [arcW_snoc] at hn
        by_cases hkk : k = rank (srt zs) e.f0
        · subst hkk
          rw [b0, if_pos ⟨rfl, rfl⟩] at hn
          injection hn with hn
          subst hn
          exact .inl rfl
        · rw [if_neg] at hn
          · refine .inr ⟨⟨k, n, hk, rfl, hn⟩, ?_⟩
            show ¬ (k : Int) = _
            omega
          · rintro ⟨hh, _⟩
            exact hkk (getD_srt_inj hs hk a0 (by rw [b0, hh]))
    · rw [getD_set_other _ _ _ _ _ hr, h.inn i hi]
      have hne : ∀ k, arcW (es ++ [e]) ((srt zs).getD k 0) ((srt zs).getD i 0) = arcW es ((srt zs).getD k 0) ((srt zs).getD i 0) := by
        intro k
        rw [arcW_snoc, if_neg]
        rintro ⟨_, hh⟩
        exact hr (getD_srt_inj hs a1 hi (by rw [b1, hh]))
      simp only [hne]

/-- the nodes to which edges lead from u -/
def outN (zs : List Int) (es : List S34) (u : Int) : List Int := (srt zs).filter fun v => (arcW es u v).isSome
/-- the nodes from which edges lead to u -/
def innN (zs : List Int) (es : List S34) (u : Int) : List Int := (srt zs).filter fun v => (arcW es v u).isSome

theorem int_ext {l1 l2 : List Int} (h1 : l1.Pairwise (· < ·)) (h2 : l2.Pairwise (· < ·)) (hm : ∀ x, x ∈ l1 ↔ x ∈ l2) : l1 = l2 := by
  induction l1 generalizing l2 with
  | nil =>
    cases l2 with
    | nil => rfl
    | cons y r => exact absurd ((hm y).2 (by simp)) (by simp)
  | cons x r ih =>
    cases l2 with
    | nil => exact absurd ((hm x).1 (by simp)) (by simp)
    | cons y s =>
      rw [List.pairwise_cons] at h1 h2
      have e : x = y := by
        have a := (hm x).1 (by simp)
        have b := (hm y).2 (by simp)
        rw [List.mem_cons] at a b
        rcases a with a | a
        · exact a
        · rcases b with b | b
          · exact b.symm
          · have := h2.1 _ a; have := h1.1 _ b; omega
      subst e
      rw [ih h1.2 h2.2]
      intro z
      constructor
      · intro hz
        have := (hm z).1 (by simp [hz])
        rw [List.mem_cons] at this
        rcases this with rfl | h
        · exact absurd (h1.1 _ hz) (by omega)
        · exact h
      · intro hz
        have := (hm z).2 (by simp [hz])
        rw [List.mem_cons] at this
        rcases this with rfl | h
        · exact absurd (h2.1 _ hz) (by omega)
        · exact h

theorem ends_eq {ids : List Int} (hs : ids.Pairwise (· < ·)) {l : List (Int × Nat)} (hl : GoodRow ids.length l) {f : Int → Option Int}
    (hm : ∀ a, a ∈ l ↔ ∃ k n, k < ids.length ∧ a = ((k : Int), floatOfInt .f64 n) ∧ f (ids.getD k 0) = some n) : l.map (fun a => ids.getD a.1.toNat 0) = ids.filter fun v => (f v).isSome := by
  refine int_ext ?_ (hs.filter _) fun v => ?_
  · rw [List.pairwise_map]
    have h1 : l.Pairwise fun a b => a.1 < b.1 := by
      have := hl.1
      unfold keys at this
      rw [List.pairwise_map] at this
      exact this
    refine h1.imp_of_mem ?_
    intro a b ha hb hab
    obtain ⟨ka, _, hka, rfl, _⟩ := (hm a).1 ha
    obtain ⟨kb, _, hkb, rfl, _⟩ := (hm b).1 hb
    have hab : (ka : Int) < (kb : Int) := hab
    show ids.getD ((ka : Int)).toNat 0 < ids.getD ((kb : Int)).toNat 0
    simp only [Int.toNat_natCast, List.getD_eq_getElem?_getD, List.getElem?_eq_getElem hka, List.getElem?_eq_getElem hkb, Option.getD_some]
    exact List.pairwise_iff_getElem.1 hs _ _ hka hkb (by omega)
  · rw [List.mem_map, List.mem_filter]
    constructor
    · rintro ⟨a, ha, rfl⟩
      obtain ⟨k, n, hk, rfl, hn⟩ := (hm a).1 ha
      show ids.getD ((k : Int)).toNat 0 ∈ ids ∧ _
      rw [Int.toNat_natCast]
      refine ⟨?_, by rw [hn]; rfl⟩
      simp only [List.getD_eq_getElem?_getD, List.getElem?_eq_getElem hk, Option.getD_some]
      exact List.getElem_mem _
    · rintro ⟨h1, h2⟩
      obtain ⟨n, hn⟩ := Option.isSome_iff_exists.1 h2
      obtain ⟨a, b⟩ := rank_at hs h1
      exact ⟨((rank ids v : Nat), floatOfInt .f64 n), (hm _).2 ⟨_, n, a, rfl, by rw [b]; exact hn⟩, by show ids.getD ((rank ids v : Nat) : Int).toNat 0 = v; rw [Int.toNat_natCast, b]⟩

theorem Adj.outN {zs : List Int} {es : List S34} {p : Pl} (h : Adj zs es p) (hg : p.Good) (hs : (srt zs).Pairwise (· < ·)) {u : Int} (hu : u ∈ srt zs) :
    (p.out.getD (rank p.ids u) []).map (fun a => p.ids.getD a.1.toNat 0) = outN zs es u := by
  obtain ⟨a, b⟩ := rank_at hs hu
  have hrow := hg.out (rank p.ids u)
  rw [h.ids] at hrow ⊢
  exact ends_eq hs hrow (f := fun v => arcW es u v) fun c => by rw [h.out _ a, b]

theorem Adj.innN {zs : List Int} {es : List S34} {p : Pl} (h : Adj zs es p) (hg : p.Good) (hs : (srt zs).Pairwise (· < ·)) {u : Int} (hu : u ∈ srt zs) :
    (p.inn.getD (rank p.ids u) []).map (fun a => p.ids.getD a.1.toNat 0) = innN zs es u := by
  obtain ⟨a, b⟩ := rank_at hs hu
  have hrow := hg.inn (rank p.ids u)
  rw [h.ids] at hrow ⊢
  exact ends_eq hs hrow (f := fun v => arcW es v u) fun c => by rw [h.inn _ a, b]

theorem Adj.find {zs : List Int} {es : List S34} {p : Pl} (h : Adj zs es p) (hg : p.Good) (hs : (srt zs).Pairwise (· < ·)) {u v : Int} (hu : u ∈ srt zs) (hv : v ∈ srt zs) :
    p.find u v = (arcW es u v).map fun n => (((rank (srt zs) v : Nat) : Int), floatOfInt .f64 n) := by
  obtain ⟨a, b⟩ := rank_at hs hu
  obtain ⟨a', b'⟩ := rank_at hs hv
  have hrow := hg.out (rank p.ids u)
  have hm := h.out _ a
  unfold Pl.find Pl.row
  rw [h.ids] at hrow ⊢
  cases hn : arcW es u v with
  | none =>
    rw [if_neg]
    · rfl
    · rintro ⟨_, _, hk⟩
      obtain ⟨x, hx, hx2⟩ := List.mem_map.1 hk
      obtain ⟨k, n, hk1, rfl, hk2⟩ := (hm x).1 hx
      have : k = rank (srt zs) v := by have h9 : (k : Int) = ((rank (srt zs) v : Nat) : Int) := hx2; omega
      subst this
      rw [b, b', hn] at hk2
      cases hk2
  | some n =>
    have hmem : (((rank (srt zs) v : Nat) : Int), floatOfInt .f64 n) ∈ p.out.getD (rank (srt zs) u) [] := (hm _).2 ⟨_, n, a', rfl, by rw [b, b']; exact hn⟩
    have hk : ((rank (srt zs) v : Nat) : Int) ∈ keys (p.out.getD (rank (srt zs) u) []) := List.mem_map.2 ⟨_, hmem, rfl⟩
    rw [if_pos ⟨hu, hv, hk⟩]
    obtain ⟨hr, he⟩ := (rank_mem hrow.1 _).1 hk
    rw [keys_get] at he
    have hr' : rank (keys (p.out.getD (rank (srt zs) u) [])) ((rank (srt zs) v : Nat) : Int) < (p.out.getD (rank (srt zs) u) []).length := by rw [keys_length] at hr; exact hr
    rw [List.getElem?_eq_getElem hr']
    show _ = some _
    congr 1
    obtain ⟨k, n', hk1, e1, hk2⟩ := (hm _).1 (List.getElem_mem hr')
    rw [e1] at he ⊢
    have : k = rank (srt zs) v := by have h9 : (k : Int) = ((rank (srt zs) v : Nat) : Int) := he; omega
    subst this
    rw [b, b', hn] at hk2
    injection hk2 with hk2
    rw [hk2]
end Go.Proofs.YtolbfjjgdheikaaGreat.R


/- The graph without directions, in the words of the list of edges. -/
namespace Go.Proofs.YtolbfjjgdheikaaGreat.R
open Go.RowKit Go.Lab Go.Proofs.YtolbfjjgdheikaaGreatW.PrintWords Go.Proofs.YtolbfjjgdheikaaGreatW.PrintLast Go.Proofs.YtolbfjjgdheikaaGreatW.PrintMore PL

/-- two lists in one: what the second one has more -/
def both (xs ys : List Int) : List Int := xs ++ ys.filter fun v => !decide (v ∈ xs)
end Go.Proofs.YtolbfjjgdheikaaGreat.R


/- The methods of the iterator of two iterators. -/
namespace Go.Proofs.YtolbfjjgdheikaaGreat.R
open Go.RowKit Go.Lab Go.Maps Go.Proofs.YtolbfjjgdheikaaGreatW.PrintWords Go.Proofs.YtolbfjjgdheikaaGreatW.PrintLast Go.Proofs.YtolbfjjgdheikaaGreatW.PrintMore PL

theorem meth_ONext (a : Addr) (w : World) : (method 363 255 (.pointer (some a)) "Next").run Tryz.prog w = .ok (217, .pointer (some a)) w := by kernel_rfl
theorem meth_ONode (a : Addr) (w : World) : (method 363 255 (.pointer (some a)) "Node").run Tryz.prog w = .ok (218, .pointer (some a)) w := by kernel_rfl
theorem meth_ID (x : Int) (w : World) : (method 363 97 (.int .i64 x) "ID").run Tryz.prog w = .ok (202, .int .i64 x) w := by kernel_rfl

set_option maxHeartbeats 400000 in
theorem nodeID_any (n : Int) (w : World) :
    Calls Tryz.prog 202 #[.int .i64 n] w fun e w' => e = .returned (.int .i64 n) ∧ w = w' := by
  go_enter Tryz.func202, Tryz.ntmps202
  go_wp2
  go_ret
  exact ⟨rfl, rfl⟩

/-- where an iterator stands -/
def posI (w : World) (b : Nat) : Nat := match w.cell? ⟨b, 0, none⟩ with | some (.int _ n) => (n + 1).toNat | _ => 0
theorem OIt.pos {lo B : Nat} {w : World} {b : Nat} {xs : List Int} {k : Nat} (h : OIt lo B w b xs k) : posI w b = k := by
  obtain ⟨A, c, h0, _⟩ := h.cells
  unfold posI
  rw [h0]
  show ((k : Int) - 1 + 1).toNat = k
  omega

/-- what is left of two iterators -/
def rest (xs ys : List Int) (i j : Nat) : List Int := xs.drop i ++ (ys.drop j).filter fun v => !decide (v ∈ xs)
theorem Mid.drewN (lo B : Nat) (w : World) (n : Nat) : Mid lo B w (w.drewN n) := Mid.of_below (Drawn0.below ⟨⟨n, rfl⟩⟩)

theorem nodeI_q (lo B b k : Nat) (xs : List Int) (w : World) (h : OIt lo B w b xs (k + 1)) (hk : k < xs.length) (hl : xs.length ≤ 100000) :
    Calls Tryz.prog 218 #[.pointer (some ⟨b, 0, none⟩)] w fun e w' => e = .returned (.iface 97 (.int .i64 xs[k])) ∧ ∃ n, w' = w.drewN n :=
  (nodeI_any lo B b k xs w h hk hl).mono fun _ _ ⟨h1, h2⟩ => ⟨h1, h2.out⟩
end Go.Proofs.YtolbfjjgdheikaaGreat.R



/- newNodeIteratorPair. -/
namespace Go.Proofs.YtolbfjjgdheikaaGreat.R
open Go.RowKit Go.Lab Go.Maps Go.Proofs.YtolbfjjgdheikaaGreatW.PrintWords Go.Proofs.YtolbfjjgdheikaaGreatW.PrintLast Go.Proofs.YtolbfjjgdheikaaGreatW.PrintMore PL

theorem Below.set (lo : Nat) (w : World) (a : Addr) {v : Value} (h : lo ≤ a.block) : Below lo w (w.setCell a v) :=
  ⟨rfl, rfl, rfl, by simp [World.setCell], fun k hk => Below.heap_setCell _ _ _ _ (by omega)⟩
end Go.Proofs.YtolbfjjgdheikaaGreat.R



/- From, To, Nodes of a directed plain graph, and of one without directions. -/
namespace Go.Proofs.YtolbfjjgdheikaaGreat.R
open Go.RowKit Go.Lab Go.Maps Go.Proofs.YtolbfjjgdheikaaGreatW.PrintWords Go.Proofs.YtolbfjjgdheikaaGreatW.PrintLast Go.Proofs.YtolbfjjgdheikaaGreatW.PrintMore PL

set_option maxHeartbeats 4000000 in
set_option maxRecDepth 100000 in
theorem from_any (base bp : Nat) (p : Pl) (u : Int) (w : World) (h : PlOk w base bp p) (hs : p.ids.Pairwise (· < ·)) (hg : p.Good) (hu : u ∈ p.ids) :
    Calls Tryz.prog 197 #[.agg #[.pointer (some ⟨bp, 0, none⟩)], .int .i64 u] w fun e w' => ∃ b, e = .returned (.iface 255 (.pointer (some ⟨b, 0, none⟩))) ∧ OIt w.heap.size w'.heap.size w' b (endsN p.ids (p.out.getD (rank p.ids u) [])) 0 ∧ Below w.heap.size w w' := by
  have hb1 : Below w.heap.size w (w.alloc (.cells #[.pointer (some ⟨bp, 0, none⟩)] 64)) := (Below.refl _ _).alloc (Nat.le_refl _) _
  have hP1 : PlOk (w.alloc (.cells #[.pointer (some ⟨bp, 0, none⟩)] 64)) base bp p := h.below hb1
  have hd : decide (u ∈ p.ids) = true := decide_eq_true hu
  obtain ⟨hr, _⟩ := (rank_mem hs u).1 hu
  obtain ⟨ro, ri, vi, vn, g, cap, hi', hp, hcb, hce, hfr, hbw, hgw, hbg, hrl⟩ := hP1.open_out (rank p.ids u) hr
  have hn := hg.n
  have HP := Aside0.mk hP1
  have HP2 := Aside0.mk (show PlOk (World.drew (w.alloc (.cells #[.pointer (some ⟨bp, 0, none⟩)] 64))) base bp p from hP1.below ((Below.refl _ _).drew))
  have HROW := Aside0.mk (show (World.drew (w.alloc (.cells #[.pointer (some ⟨bp, 0, none⟩)] 64))).ownsRow base 208 2 ro[rank p.ids u] (p.out.getD (rank p.ids u) []).length (fl (p.out.getD (rank p.ids u) [])) from hp.rows.rowA _ hi')
  obtain ⟨VA, vc, hve⟩ := own_slice HROW.out
  rw [hve] at HROW hce
  have HS := Aside0.mk hs
  have HG := Aside0.mk (hg.out (rank p.ids u))
  have hc1 : (w.alloc (.cells #[.pointer (some ⟨bp, 0, none⟩)] 64)).cell? ⟨w.heap.size, 0, none⟩ = some (.pointer (some ⟨bp, 0, none⟩)) := (blk_cell (heap_alloc_new _ _) 0).trans rfl
  have hx1 : (0 : Int) ≤ ((rank p.ids u : Nat) : Int) := by omega
  have hx2 : ((rank p.ids u : Nat) : Int) < (ro.length : Int) := by omega
  clear h hs hg hu hP1 hp hve
  go_enter Tryz.func197, Tryz.ntmps197
  go_wp2_with (go_at_call 70; refine (pl_index base bp p _ _ HP.out HS.out hn).mono ?_; rintro e w1 ⟨rfl, rfl⟩; rw [hd])
  go_region_held3 (fun w' => w'.cell? ⟨w.heap.size, 0, none⟩ = some (.pointer (some ⟨bp, 0, none⟩)) ∧ w'.cell? ⟨bp, 1, none⟩ = some (.slice (some ⟨g, 0, none⟩) ro.length cap) ∧ w'.cell? ⟨g, rank p.ids u, none⟩ = some (.slice VA (p.out.getD (rank p.ids u) []).length vc))
    (first | (exact ⟨(hbel.cell (p := ⟨w.heap.size, 0, none⟩) (by simp)).trans hc1, (hbel.cell (p := ⟨bp, 1, none⟩) hbw).trans hcb, (hbel.cell (p := ⟨g, rank p.ids u, none⟩) hgw).trans hce⟩) | go_keep)
    (first
      | (go_at_call 190; refine (ends_any base bp base p _ (p.out.getD (rank p.ids u) []) _ HP2.out HROW.out hn (Nat.le_trans HG.out.len hn) HG.out.2).mono ?_; rintro e w2 ⟨b, rfl, hit, hbel⟩; have HIT := Aside0.mk hit; have HBEL := Aside0.mk hbel; clear hit))
  all_goals
    go_wp2
    go_ret
    have hz : w.heap.size ≤ (World.drew (w.alloc (.cells #[.pointer (some ⟨bp, 0, none⟩)] 64))).heap.size := by simp
    exact ⟨b, rfl, HIT.out.wide hz (Nat.le_refl _), (show Below w.heap.size w (World.drew (w.alloc (.cells #[.pointer (some ⟨bp, 0, none⟩)] 64))) from hb1.drew).trans (HBEL.out.mono hz)⟩

end Go.Proofs.YtolbfjjgdheikaaGreat.R


/- Nodes and From of a graph without directions. -/
namespace Go.Proofs.YtolbfjjgdheikaaGreat.R
open Go.RowKit Go.Lab Go.Maps Go.Proofs.YtolbfjjgdheikaaGreatW.PrintWords Go.Proofs.YtolbfjjgdheikaaGreatW.PrintLast Go.Proofs.YtolbfjjgdheikaaGreatW.PrintMore PL

set_option maxHeartbeats 1000000 in
theorem nodes_any (base bp : Nat) (p : Pl) (w : World) (h : PlOk w base bp p) (hn : p.ids.length ≤ 1000) :
    Calls Tryz.prog 201 #[.agg #[.pointer (some ⟨bp, 0, none⟩)]] w fun e w' => ∃ b, e = .returned (.iface 255 (.pointer (some ⟨b, 0, none⟩))) ∧ OIt w.heap.size w'.heap.size w' b p.ids 0 ∧ Below w.heap.size w w' := by
  have hb1 : Below w.heap.size w (w.alloc (.cells #[.pointer (some ⟨bp, 0, none⟩)] 64)) := (Below.refl _ _).alloc (Nat.le_refl _) _
  have HP := Aside0.mk (h.below hb1)
  clear h
  go_enter Tryz.func201, Tryz.ntmps201
  go_wp2_with (go_at_call 193; refine (all_any base bp p _ HP.out hn).mono ?_; rintro e w2 ⟨b, rfl, hit, hbel⟩; have HIT := Aside0.mk hit; have HBEL := Aside0.mk hbel; clear hit hbel)
  go_ret
  exact ⟨b, rfl, HIT.out.wide (by simp) (Nat.le_refl _), hb1.trans (HBEL.out.mono (by simp))⟩

end Go.Proofs.YtolbfjjgdheikaaGreat.R



/- Edge and Weight of a directed plain graph. -/
namespace Go.Proofs.YtolbfjjgdheikaaGreat.R
open Go.RowKit Go.Lab Go.Maps Go.Proofs.YtolbfjjgdheikaaGreatW.PrintWords Go.Proofs.YtolbfjjgdheikaaGreatW.PrintLast Go.Proofs.YtolbfjjgdheikaaGreatW.PrintMore PL

end Go.Proofs.YtolbfjjgdheikaaGreat.R

