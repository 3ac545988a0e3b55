import Derived.Test.YtfkmpnpliadohaaGreatFB4
import Derived.Test.YtfkmpnpliadohaaGreatFB3
set_option linter.unusedVariables false
set_option linter.unusedSimpArgs false
/- The iterator over the ends of arcs. -/
namespace Go.Proofs.YtfkmpnpliadohaaGreat.R
open Go.RowKit Go.Lab Go.Maps Go.Proofs.YtfkmpnpliadohaaGreatW.PrintWords Go.Proofs.YtfkmpnpliadohaaGreatW.PrintLast Go.Proofs.YtfkmpnpliadohaaGreatW.PrintMore PL

def en.T5 : Bool × List (List Nat × List Nat) := (true, [([], []), ([], []), ([1], [1]), ([2], [2]), ([3], [3]), ([], []), ([5], [5]), ([4, 6], [4, 6]), ([7], [7]), ([8], [8]), ([9], [9]), ([0, 10], [0, 10]), ([11, 11, 0, 1, 2, 3, 4, 5, 6, 7, 8, 9, 10, 11], [0, 11])])
def en.B5 : List Nat := [0, 0, 2, 6, 14, 0, 32, 126, 254, 510, 1022, 2047, 4095]
theorem en.tab5 : rtab .any (opsOf Tryz.f275 5) = en.T5 := by kernel_rfl
theorem en.bits5 : waitsOk en.T5.2 en.B5 = true := by kernel_rfl

/-- the nodes at which arcs end -/
def endsN (ids : List Int) (l : List (Int × Nat)) : List Int := l.map fun a => ids.getD a.1.toNat 0
theorem endsN_length (ids : List Int) (l : List (Int × Nat)) : (endsN ids l).length = l.length := by simp [endsN]
theorem endsN_get (ids : List Int) (l : List (Int × Nat)) (k : Nat) (h : k < l.length) : (endsN ids l)[k]'(by rw [endsN_length]; exact h) = ids.getD l[k].1.toNat 0 := by simp [endsN]
theorem nodes_step (r : List Int) (k : Nat) (hk : k < r.length) : nodeVs (r.take (k + 1)) = nodeVs (r.take k) ++ [nodeV r[k]] := by
  rw [List.take_succ_eq_append_getElem hk]; unfold nodeVs; rw [List.map_append]; rfl

set_option maxHeartbeats 8000000 in
set_option maxRecDepth 100000 in
theorem ends_any (base bp bl : Nat) (p : Pl) (v : Value) (l : List (Int × Nat)) (w : World) (h : PlOk w base bp p) (hv : w.ownsRow bl 285 2 v l.length (fl l)) (hn : p.ids.length ≤ 1000) (hl : l.length ≤ 1000) (ha : ∀ a ∈ l, 0 ≤ a.1 ∧ a.1 < p.ids.length) :
    Calls Tryz.prog 275 #[.pointer (some ⟨bp, 0, none⟩), v] w fun e w' => ∃ b, e = .returned (.iface 354 (.pointer (some ⟨b, 0, none⟩))) ∧ OIt w.heap.size w'.heap.size w' b (endsN p.ids l) 0 ∧ Below w.heap.size w w' := by
  obtain ⟨Ai, ci, hcell, hC, hbl⟩ := h.idsC
  have HC := Aside0.mk hC
  have HV := Aside0.mk hv
  have HA := Aside0.mk ha
  obtain ⟨VA, vc, rfl⟩ := own_slice hv
  obtain ⟨i0, hi, hz0, hz1, hz2⟩ := info_parts Tryz.info105
  have HI := Aside0.mk (And.intro hi (And.intro hz0 (And.intro hz1 hz2)))
  have hmk := make_nodes l.length hl
  have hel := endsN_length p.ids l
  clear h hC hv ha hi hz0 hz1 hz2
  generalize p.ids = ids at *
  go_enter Tryz.func275, Tryz.ntmps275
  go_wp2
  go_loopw [5, 13] (fun v i wr => ∃ V C k, v = .slice V k C ∧ k ≤ l.length ∧ i = .int .i64 k ∧ Aside0 (wr.ownsRow w.heap.size 105 1 (.slice V k C) k (nodeVs ((endsN ids l).take k)) ∧ Below w.heap.size w wr)) (fun _ i _ => l.length - (intOf i).toNat)
  case atStart => exact ⟨_, l.length, 0, rfl, Nat.zero_le _, rfl, ⟨World.ownsRow_made w _ l.length (Nat.le_refl _) (by unfold maxLen; omega) (by rw [size_madeCells, Nat.mul_one]), (Below.refl _ _).alloc (Nat.le_refl _) _⟩⟩
  case round =>
    obtain ⟨V, C, k, rfl, hk, rfl, HR⟩ := hrel
    have hbw := HR.out.2.size
    by_cases hlt : k < l.length
    · obtain ⟨g, cap, hve, hgl, hcap, hc0, hc1⟩ := fl_cells HV.out k hlt
      injection hve with e1 _ e3
      subst e1 e3
      have hak := HA.out _ (List.getElem_mem hlt)
      have hn0 : 0 < ids.length := by omega
      have hlt2 : l[k].1.toNat < ids.length := by omega
      obtain ⟨ad, rfl, hcx⟩ := C_int_at (Kd.C_below HC.out HR.out.2) l[k].1.toNat hlt2
      have HS := Aside0.mk (nodes_step (endsN ids l) k (by omega))
      rw [endsN_get ids l k hlt] at HS
      replace hc0 := (HR.out.2.cell (p := ⟨g, k * 2, none⟩) hgl).trans hc0
      replace hc1 := (HR.out.2.cell (p := ⟨g, k * 2 + 1, none⟩) hgl).trans hc1
      have hcb := (HR.out.2.cell (p := ⟨bp, 0, none⟩) hbl).trans hcell
      have hbb : bp < wr.heap.size := by omega
      obtain ⟨q, hq⟩ : ∃ q : Nat, l[k].1 = (q : Int) := ⟨l[k].1.toNat, by omega⟩
      rw [hq] at hlt2 hcx HS hc0
      rw [Int.toNat_natCast] at hlt2 hcx HS
      generalize ids.getD q 0 = x at hcx HS
      generalize l[k].2 = a1 at hc1
      clear hak hq
      have hcb2 : (World.drew (wr.alloc (.cells #[.int .i64 q, .float .f64 a1] 285))).cell? ⟨bp, 0, none⟩ = some (.slice (some ad) ids.length ci) := Lib.cell?_alloc_some _ hcb
      have hca2 : (World.drew (wr.alloc (.cells #[.int .i64 q, .float .f64 a1] 285))).cell? ⟨wr.heap.size, 0, none⟩ = some (.int .i64 q) := (blk_cell (heap_alloc_new _ _) 0).trans rfl
      have hcx2 : (World.drew (wr.alloc (.cells #[.int .i64 q, .float .f64 a1] 285))).cell? (ad.add q) = some (.int .i64 x) := Lib.cell?_alloc_some _ hcx
      have HOW := Aside0.mk (show (World.drew (wr.alloc (.cells #[.int .i64 q, .float .f64 a1] 285))).ownsRow w.heap.size 105 1 (.slice V k C) k (nodeVs ((endsN ids l).take k)) from World.ownsRow.alloc HR.out.1 _)
      have hq0 : (0 : Int) ≤ (q : Int) := by omega
      have hq1 : (q : Int) < (ids.length : Int) := by omega
      go_wp2_with fail
      refine start_ (n := 13) (S := fun w' => w'.cell? ⟨bp, 0, none⟩ = some (.slice (some ad) ids.length ci) ∧ w'.cell? ⟨wr.heap.size, 0, none⟩ = some (.int .i64 q) ∧ w'.cell? (ad.add q) = some (.int .i64 x)) (ds := [10, 11]) #[false, false, false, false, false, false, false, false, false, false, false, false, false] (by kernel_rfl) rfl rfl ⟨hcb2, hca2, hcx2⟩ (fun hHeld => ?_)
      refine with_tabW en.tab5 en.bits5 (fun HT_ HW_ => ?_)
      refine pure_ (i := 0) (N := some 17) (v := ?_) (a' := ?_) #[true, false, false, false, false, false, false, false, false, false, false, false, false] rfl rfl (any_of HT_.out (by kernel_rfl)) (fun _ _ _ h => h) (Or.inl ⟨by rfl, ?_⟩) ?_ ?_
      rotate_left
      · intro w'
        go_simp
        with_reducible rfl
      rotate_left
      · simp only [Act.put, List.setIfInBounds_toArray, List.set_cons_zero, List.set_cons_succ, i64_w, i32_w]
        rfl
      refine pure_ (i := 1) (N := some 18) (v := ?_) (a' := ?_) #[true, true, false, false, false, false, false, false, false, false, false, false, false] rfl rfl (any_of HT_.out (by kernel_rfl)) (fun _ _ _ h => h) (Or.inl ⟨by rfl, ?_⟩) ?_ ?_
      rotate_left
      · intro w'
        go_simp
        with_reducible rfl
      rotate_left
      · simp only [Act.put, List.setIfInBounds_toArray, List.set_cons_zero, List.set_cons_succ, i64_w, i32_w]
        rfl
      refine pure_ (i := 2) (N := some 19) (v := ?_) (a' := ?_) #[true, true, true, false, false, false, false, false, false, false, false, false, false] rfl rfl (any_of HT_.out (by kernel_rfl)) (fun _ _ _ h => h) (Or.inl ⟨by rfl, ?_⟩) ?_ ?_
      rotate_left
      · intro w'
        go_simp
        with_reducible rfl
      rotate_left
      · simp only [Act.put, List.setIfInBounds_toArray, List.set_cons_zero, List.set_cons_succ, i64_w, i32_w]
        rfl
      refine pure_ (i := 3) (N := some 20) (v := ?_) (a' := ?_) #[true, true, true, true, false, false, false, false, false, false, false, false, false] rfl rfl (any_of HT_.out (by kernel_rfl)) (fun _ _ _ h => h) (Or.inl ⟨by rfl, ?_⟩) ?_ ?_
      rotate_left
      · intro w'
        go_simp
        with_reducible rfl
      rotate_left
      · simp only [Act.put, List.setIfInBounds_toArray, List.set_cons_zero, List.set_cons_succ, i64_w, i32_w]
        rfl
      refine pure_ (i := 5) (N := some 22) (v := ?_) (a' := ?_) #[true, true, true, true, false, true, false, false, false, false, false, false, false] rfl rfl (any_of HT_.out (by kernel_rfl)) (fun _ _ _ h => h) (Or.inl ⟨by rfl, ?_⟩) ?_ ?_
      rotate_left
      · intro w'
        go_simp
        with_reducible rfl
      rotate_left
      · simp only [Act.put, List.setIfInBounds_toArray, List.set_cons_zero, List.set_cons_succ, i64_w, i32_w]
        rfl
      refine take_ (i := 4) (N := some 21) (v := ?_) (a' := ?_) #[true, true, true, true, true, true, false, false, false, false, false, false, false] rfl rfl (take_ofW HT_.out HW_.out (by kernel_rfl)) (fun _ _ _ h => h) (Or.inl ⟨by rfl, ?_⟩) hHeld ?_ ?_
      rotate_left
      · rintro w' ⟨s0, s1, s2⟩
        go_simp
        with_reducible rfl
      rotate_left
      · simp only [Act.put, List.setIfInBounds_toArray, List.set_cons_zero, List.set_cons_succ, i64_w, i32_w]
        rfl
      refine take_ (i := 6) (N := some 23) (v := ?_) (a' := ?_) #[true, true, true, true, true, true, true, false, false, false, false, false, false] rfl rfl (take_ofW HT_.out HW_.out (by kernel_rfl)) (fun _ _ _ h => h) (Or.inl ⟨by rfl, ?_⟩) hHeld ?_ ?_
      rotate_left
      · rintro w' ⟨s0, s1, s2⟩
        go_simp
        with_reducible rfl
      rotate_left
      · simp only [Act.put, List.setIfInBounds_toArray, List.set_cons_zero, List.set_cons_succ, i64_w, i32_w]
        rfl
      refine pure_ (i := 7) (N := some 24) (v := ?_) (a' := ?_) #[true, true, true, true, true, true, true, true, false, false, false, false, false] rfl rfl (any_of HT_.out (by kernel_rfl)) (fun _ _ _ h => h) (Or.inl ⟨by rfl, ?_⟩) ?_ ?_
      rotate_left
      · intro w'
        go_simp
        with_reducible rfl
      rotate_left
      · simp only [Act.put, List.setIfInBounds_toArray, List.set_cons_zero, List.set_cons_succ, i64_w, i32_w]
        rfl
      refine take_ (i := 8) (N := some 25) (v := ?_) (a' := ?_) #[true, true, true, true, true, true, true, true, true, false, false, false, false] rfl rfl (take_ofW HT_.out HW_.out (by kernel_rfl)) (fun _ _ _ h => h) (Or.inl ⟨by rfl, ?_⟩) hHeld ?_ ?_
      rotate_left
      · rintro w' ⟨s0, s1, s2⟩
        go_simp
        with_reducible rfl
      rotate_left
      · simp only [Act.put, List.setIfInBounds_toArray, List.set_cons_zero, List.set_cons_succ, i64_w, i32_w]
        rfl
      refine pure_ (i := 9) (N := some 26) (v := ?_) (a' := ?_) #[true, true, true, true, true, true, true, true, true, true, false, false, false] rfl rfl (any_of HT_.out (by kernel_rfl)) (fun _ _ _ h => h) (Or.inl ⟨by rfl, ?_⟩) ?_ ?_
      rotate_left
      · intro w'
        go_simp
        with_reducible rfl
      rotate_left
      · simp only [Act.put, List.setIfInBounds_toArray, List.set_cons_zero, List.set_cons_succ, i64_w, i32_w]
        rfl
      refine last_ (i := 10) (N := some 27) #[true, true, true, true, true, true, true, true, true, true, true, false, false] rfl rfl (one_of HT_.out (by kernel_rfl)) (by decide) (fun K hK => ?_)
      refine value_ (w1 := ?_) (v := ?_) (by rfl) rfl ?_ ?_
      rotate_left 2
      · go_simp
        constructor
        · rfl
        · rfl
      refine hK.out _ _ ?_
      clear hK K
      refine norm_ (a' := ?_) ?_ ?_
      rotate_left
      · show Act.put _ (some 27) _ = _
        simp only [Act.put, List.setIfInBounds_toArray, List.set_cons_zero, List.set_cons_succ, i64_w, i32_w]
        rfl
      refine last_ (i := 11) (N := some 28) #[true, true, true, true, true, true, true, true, true, true, true, true, false] rfl rfl (one_of HT_.out (by kernel_rfl)) (by decide) (fun K hK => ?_)
      refine step_append_lies _ (by rfl) _ _ _ (by rfl) w.heap.size 105 i0 _ 1 16 Tryz.underlying110 HI.out.1 HI.out.2.1 HI.out.2.2.1 HI.out.2.2.2 rfl (by omega) (.slice V k C) k (nodeVs ((endsN ids l).take k)) (by rfl) (by exact World.ownsRow.alloc HOW.out _) ⟨wr.heap.size + 1, 0, none⟩ 1 1 [nodeV x] (by rfl) (by rfl) (by exact Q.news1' _ _ _ _ (by simp)) (by simp [Value.oneCell', nodeV]) (by omega) (by unfold maxLen; omega) (by omega) (by simp; omega) _ rfl ?_
      intro gg cap w4 hown4 hgr4 hat4 hlt4
      have G4 := Aside0.mk (And.intro hown4 hgr4)
      clear hown4 hgr4 hat4 hlt4
      refine hK.out _ _ ?_
      clear hK K
      refine norm_ (a' := ?_) ?_ ?_
      rotate_left
      · show Act.put _ (some 28) _ = _
        simp only [Act.put, List.setIfInBounds_toArray, List.set_cons_zero, List.set_cons_succ, i64_w, i32_w]
        rfl
      refine pure_ (i := 12) (N := some 5) (v := ?_) (a' := ?_) #[true, true, true, true, true, true, true, true, true, true, true, true, true] rfl rfl (any_of HT_.out (by kernel_rfl)) (fun _ _ _ h => h) (Or.inl ⟨by rfl, ?_⟩) ?_ ?_
      rotate_left
      · intro w'
        go_simp
        with_reducible rfl
      rotate_left
      · simp only [Act.put, List.setIfInBounds_toArray, List.set_cons_zero, List.set_cons_succ, i64_w, i32_w]
        rfl
      refine done_ (done_of HT_.out (by kernel_rfl)) ?_
      go_wp2
      go_roundw
      case rel => exact ⟨_, cap, k + 1, rfl, by omega, by go_num, ⟨by rw [HS.out]; exact G4.out.1, ((HR.out.2.alloc hbw _).drew.alloc (by simp; omega) _).grown G4.out.2 (by simp; omega) (fun q hq => own_base HR.out.1 q hq)⟩⟩
      case measure => simp [intOf]; omega
    · obtain rfl : k = l.length := by omega
      have h1 := HR.out
      rw [← hel, List.take_length] at h1
      have H1 := Aside0.mk h1
      clear h1 HR
      go_wp2_with (go_at_call 280; refine (new_any _ _ _ _).mono ?_; rintro e w1 ⟨rfl, rfl⟩)
      go_ret
      have hmd := OIt.made H1.out.1 H1.out.2.size
      rw [hel] at hmd
      exact ⟨wr.heap.size, rfl, by simpa using hmd, H1.out.2.alloc H1.out.2.size _⟩
end Go.Proofs.YtfkmpnpliadohaaGreat.R

set_option linter.unusedVariables false
set_option linter.unusedSimpArgs false
/- From, To, Nodes of a directed plain graph, and of one without directions. -/
namespace Go.Proofs.YtfkmpnpliadohaaGreat.R
open Go.RowKit Go.Lab Go.Maps Go.Proofs.YtfkmpnpliadohaaGreatW.PrintWords Go.Proofs.YtfkmpnpliadohaaGreatW.PrintLast Go.Proofs.YtfkmpnpliadohaaGreatW.PrintMore PL

set_option maxHeartbeats 4000000 in
set_option maxRecDepth 100000 in
theorem from_any (base bp : Nat) (p : Pl) (u : Int) (w : World) (h : PlOk w base bp p) (hs : p.ids.Pairwise (· < ·)) (hg : p.Good) (hu : u ∈ p.ids) :
    Calls Tryz.prog 267 #[.agg #[.pointer (some ⟨bp, 0, none⟩)], .int .i64 u] w fun e w' => ∃ b, e = .returned (.iface 354 (.pointer (some ⟨b, 0, none⟩))) ∧ OIt w.heap.size w'.heap.size w' b (endsN p.ids (p.out.getD (rank p.ids u) [])) 0 ∧ Below w.heap.size w w' := by
  have hb1 : Below w.heap.size w (w.alloc (.cells #[.pointer (some ⟨bp, 0, none⟩)] 75)) := (Below.refl _ _).alloc (Nat.le_refl _) _
  have hP1 : PlOk (w.alloc (.cells #[.pointer (some ⟨bp, 0, none⟩)] 75)) base bp p := h.below hb1
  have hd : decide (u ∈ p.ids) = true := decide_eq_true hu
  obtain ⟨hr, _⟩ := (rank_mem hs u).1 hu
  obtain ⟨ro, ri, vi, vn, g, cap, hi', hp, hcb, hce, hfr, hbw, hgw, hbg, hrl⟩ := hP1.open_out (rank p.ids u) hr
  have hn := hg.n
  have HP := Aside0.mk hP1
  have HP2 := Aside0.mk (show PlOk (World.drew (w.alloc (.cells #[.pointer (some ⟨bp, 0, none⟩)] 75))) base bp p from hP1.below ((Below.refl _ _).drew))
  have HROW := Aside0.mk (show (World.drew (w.alloc (.cells #[.pointer (some ⟨bp, 0, none⟩)] 75))).ownsRow base 285 2 ro[rank p.ids u] (p.out.getD (rank p.ids u) []).length (fl (p.out.getD (rank p.ids u) [])) from hp.rows.rowA _ hi')
  obtain ⟨VA, vc, hve⟩ := own_slice HROW.out
  rw [hve] at HROW hce
  have HS := Aside0.mk hs
  have HG := Aside0.mk (hg.out (rank p.ids u))
  have hc1 : (w.alloc (.cells #[.pointer (some ⟨bp, 0, none⟩)] 75)).cell? ⟨w.heap.size, 0, none⟩ = some (.pointer (some ⟨bp, 0, none⟩)) := (blk_cell (heap_alloc_new _ _) 0).trans rfl
  have hx1 : (0 : Int) ≤ ((rank p.ids u : Nat) : Int) := by omega
  have hx2 : ((rank p.ids u : Nat) : Int) < (ro.length : Int) := by omega
  clear h hs hg hu hP1 hp hve
  go_enter Tryz.func267, Tryz.ntmps267
  go_wp2_with (go_at_call 109; refine (pl_index base bp p _ _ HP.out HS.out hn).mono ?_; rintro e w1 ⟨rfl, rfl⟩; rw [hd])
  go_region_held3 (fun w' => w'.cell? ⟨w.heap.size, 0, none⟩ = some (.pointer (some ⟨bp, 0, none⟩)) ∧ w'.cell? ⟨bp, 1, none⟩ = some (.slice (some ⟨g, 0, none⟩) ro.length cap) ∧ w'.cell? ⟨g, rank p.ids u, none⟩ = some (.slice VA (p.out.getD (rank p.ids u) []).length vc))
    (first | (exact ⟨(hbel.cell (p := ⟨w.heap.size, 0, none⟩) (by simp)).trans hc1, (hbel.cell (p := ⟨bp, 1, none⟩) hbw).trans hcb, (hbel.cell (p := ⟨g, rank p.ids u, none⟩) hgw).trans hce⟩) | go_keep)
    (first
      | (go_at_call 275; refine (ends_any base bp base p _ (p.out.getD (rank p.ids u) []) _ HP2.out HROW.out hn (Nat.le_trans HG.out.len hn) HG.out.2).mono ?_; rintro e w2 ⟨b, rfl, hit, hbel⟩; have HIT := Aside0.mk hit; have HBEL := Aside0.mk hbel; clear hit))
  all_goals
    go_wp2
    go_ret
    have hz : w.heap.size ≤ (World.drew (w.alloc (.cells #[.pointer (some ⟨bp, 0, none⟩)] 75))).heap.size := by simp
    exact ⟨b, rfl, HIT.out.wide hz (Nat.le_refl _), (show Below w.heap.size w (World.drew (w.alloc (.cells #[.pointer (some ⟨bp, 0, none⟩)] 75))) from hb1.drew).trans (HBEL.out.mono hz)⟩

end Go.Proofs.YtfkmpnpliadohaaGreat.R

set_option linter.unusedVariables false
set_option linter.unusedSimpArgs false
/- Nodes and From of a graph without directions. -/
namespace Go.Proofs.YtfkmpnpliadohaaGreat.R
open Go.RowKit Go.Lab Go.Maps Go.Proofs.YtfkmpnpliadohaaGreatW.PrintWords Go.Proofs.YtfkmpnpliadohaaGreatW.PrintLast Go.Proofs.YtfkmpnpliadohaaGreatW.PrintMore PL

theorem PIt.wide {lo lo' B : Nat} {w : World} {b : Nat} {xs ys r : List Int} {cur : Value} (h : PIt lo B w b xs ys r cur) (hl : lo' ≤ lo) : PIt lo' B w b xs ys r cur := by
  obtain ⟨i, j, la, Ba, ba, lb, Bb, bb, mb, n, c1, c2, D, hP, hM, hr, hB⟩ := h.ex
  exact ⟨⟨i, j, la, Ba, ba, lb, Bb, bb, mb, n, c1, c2, D, ⟨hP.blk, hP.ia, hP.ib, hP.ap, Nat.le_trans hl hP.ha, Nat.le_trans hl hP.hb, hP.ma, hP.mb', hP.mlt, hP.map⟩, hM, hr, hB⟩⟩

end Go.Proofs.YtfkmpnpliadohaaGreat.R

set_option linter.unusedVariables false
set_option linter.unusedSimpArgs false
/- Edge and Weight of a directed plain graph. -/
namespace Go.Proofs.YtfkmpnpliadohaaGreat.R
open Go.RowKit Go.Lab Go.Maps Go.Proofs.YtfkmpnpliadohaaGreatW.PrintWords Go.Proofs.YtfkmpnpliadohaaGreatW.PrintLast Go.Proofs.YtfkmpnpliadohaaGreatW.PrintMore PL

/-- the weight told where there is an arc; else any number, and false -/
def WtOk (f : Option (Int × Nat)) (x : Nat) (ok : Bool) : Prop := ok = f.isSome ∧ ∀ a, f = some a → x = a.2

end Go.Proofs.YtfkmpnpliadohaaGreat.R
