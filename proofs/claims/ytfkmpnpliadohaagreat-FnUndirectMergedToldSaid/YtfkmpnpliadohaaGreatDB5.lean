import Derived.Test.YtfkmpnpliadohaaGreatDB3
import Derived.Test.YtfkmpnpliadohaaGreatDB4
import Derived.Laws.FloatArith
import Derived.Laws.Cover2
import Derived.Deep.Cut
set_option linter.unusedVariables false
set_option linter.unusedSimpArgs false
set_option linter.unusedVariables false
set_option linter.unusedSimpArgs false
/- The iterator over the ends of arcs. -/
namespace Go.Proofs.YtfkmpnpliadohaaGreat.R
open Go.RowKit Go.Lab Go.Maps Go.Proofs.YtfkmpnpliadohaaGreatW.PrintWords Go.Proofs.YtfkmpnpliadohaaGreatW.PrintLast Go.Proofs.YtfkmpnpliadohaaGreatW.PrintMore PL

def en.T5 : Bool × List (List Nat × List Nat) := (true, [([], []), ([], []), ([1], [1]), ([2], [2]), ([3], [3]), ([], []), ([5], [5]), ([4, 6], [4, 6]), ([7], [7]), ([8], [8]), ([9], [9]), ([0, 10], [0, 10]), ([11, 11, 0, 1, 2, 3, 4, 5, 6, 7, 8, 9, 10, 11], [0, 11])])
def en.B5 : List Nat := [0, 0, 2, 6, 14, 0, 32, 126, 254, 510, 1022, 2047, 4095]
theorem en.tab5 : rtab .any (opsOf Tryz.f275 5) = en.T5 := by kernel_rfl
theorem en.bits5 : waitsOk en.T5.2 en.B5 = true := by kernel_rfl

/-- the nodes at which arcs end -/
def endsN (ids : List Int) (l : List (Int × Nat)) : List Int := l.map fun a => ids.getD a.1.toNat 0
theorem endsN_length (ids : List Int) (l : List (Int × Nat)) : (endsN ids l).length = l.length := by simp [endsN]
theorem endsN_get (ids : List Int) (l : List (Int × Nat)) (k : Nat) (h : k < l.length) : (endsN ids l)[k]'(by rw [endsN_length]; exact h) = ids.getD l[k].1.toNat 0 := by simp [endsN]
theorem nodes_step (r : List Int) (k : Nat) (hk : k < r.length) : nodeVs (r.take (k + 1)) = nodeVs (r.take k) ++ [nodeV r[k]] := by
  rw [List.take_succ_eq_append_getElem hk]; unfold nodeVs; rw [List.map_append]; rfl

set_option maxHeartbeats 8000000 in
set_option maxRecDepth 100000 in
theorem ends_any (base bp bl : Nat) (p : Pl) (v : Value) (l : List (Int × Nat)) (w : World) (h : PlOk w base bp p) (hv : w.ownsRow bl 285 2 v l.length (fl l)) (hn : p.ids.length ≤ 1000) (hl : l.length ≤ 1000) (ha : ∀ a ∈ l, 0 ≤ a.1 ∧ a.1 < p.ids.length) :
    Calls Tryz.prog 275 #[.pointer (some ⟨bp, 0, none⟩), v] w fun e w' => ∃ b, e = .returned (.iface 354 (.pointer (some ⟨b, 0, none⟩))) ∧ OIt w.heap.size w'.heap.size w' b (endsN p.ids l) 0 ∧ Below w.heap.size w w' := by
  obtain ⟨Ai, ci, hcell, hC, hbl⟩ := h.idsC
  have HC := Aside0.mk hC
  have HV := Aside0.mk hv
  have HA := Aside0.mk ha
  obtain ⟨VA, vc, rfl⟩ := own_slice hv
  obtain ⟨i0, hi, hz0, hz1, hz2⟩ := info_parts Tryz.info105
  have HI := Aside0.mk (And.intro hi (And.intro hz0 (And.intro hz1 hz2)))
  have hmk := make_nodes l.length hl
  have hel := endsN_length p.ids l
  clear h hC hv ha hi hz0 hz1 hz2
  generalize p.ids = ids at *
  go_enter Tryz.func275, Tryz.ntmps275
  go_wp2
  go_loopw [5, 13] (fun v i wr => ∃ V C k, v = .slice V k C ∧ k ≤ l.length ∧ i = .int .i64 k ∧ Aside0 (wr.ownsRow w.heap.size 105 1 (.slice V k C) k (nodeVs ((endsN ids l).take k)) ∧ Below w.heap.size w wr)) (fun _ i _ => l.length - (intOf i).toNat)
  case atStart => exact ⟨_, l.length, 0, rfl, Nat.zero_le _, rfl, ⟨World.ownsRow_made w _ l.length (Nat.le_refl _) (by unfold maxLen; omega) (by rw [size_madeCells, Nat.mul_one]), (Below.refl _ _).alloc (Nat.le_refl _) _⟩⟩
  case round =>
    obtain ⟨V, C, k, rfl, hk, rfl, HR⟩ := hrel
    have hbw := HR.out.2.size
    by_cases hlt : k < l.length
    · obtain ⟨g, cap, hve, hgl, hcap, hc0, hc1⟩ := fl_cells HV.out k hlt
      injection hve with e1 _ e3
      subst e1 e3
      have hak := HA.out _ (List.getElem_mem hlt)
      have hn0 : 0 < ids.length := by omega
      have hlt2 : l[k].1.toNat < ids.length := by omega
      obtain ⟨ad, rfl, hcx⟩ := C_int_at (Kd.C_below HC.out HR.out.2) l[k].1.toNat hlt2
      have HS := Aside0.mk (nodes_step (endsN ids l) k (by omega))
      rw [endsN_get ids l k hlt] at HS
      replace hc0 := (HR.out.2.cell (p := ⟨g, k * 2, none⟩) hgl).trans hc0
      replace hc1 := (HR.out.2.cell (p := ⟨g, k * 2 + 1, none⟩) hgl).trans hc1
      have hcb := (HR.out.2.cell (p := ⟨bp, 0, none⟩) hbl).trans hcell
      have hbb : bp < wr.heap.size := by omega
      obtain ⟨q, hq⟩ : ∃ q : Nat, l[k].1 = (q : Int) := ⟨l[k].1.toNat, by omega⟩
      rw [hq] at hlt2 hcx HS hc0
      rw [Int.toNat_natCast] at hlt2 hcx HS
      generalize ids.getD q 0 = x at hcx HS
      generalize l[k].2 = a1 at hc1
      clear hak hq
      have hcb2 : (World.drew (wr.alloc (.cells #[.int .i64 q, .float .f64 a1] 285))).cell? ⟨bp, 0, none⟩ = some (.slice (some ad) ids.length ci) := Lib.cell?_alloc_some _ hcb
      have hca2 : (World.drew (wr.alloc (.cells #[.int .i64 q, .float .f64 a1] 285))).cell? ⟨wr.heap.size, 0, none⟩ = some (.int .i64 q) := (blk_cell (heap_alloc_new _ _) 0).trans rfl
      have hcx2 : (World.drew (wr.alloc (.cells #[.int .i64 q, .float .f64 a1] 285))).cell? (ad.add q) = some (.int .i64 x) := Lib.cell?_alloc_some _ hcx
      have HOW := Aside0.mk (show (World.drew (wr.alloc (.cells #[.int .i64 q, .float .f64 a1] 285))).ownsRow w.heap.size 105 1 (.slice V k C) k (nodeVs ((endsN ids l).take k)) from World.ownsRow.alloc HR.out.1 _)
      have hq0 : (0 : Int) ≤ (q : Int) := by omega
      have hq1 : (q : Int) < (ids.length : Int) := by omega
      go_wp2_with fail
      refine start_ (n := 13) (S := fun w' => w'.cell? ⟨bp, 0, none⟩ = some (.slice (some ad) ids.length ci) ∧ w'.cell? ⟨wr.heap.size, 0, none⟩ = some (.int .i64 q) ∧ w'.cell? (ad.add q) = some (.int .i64 x)) (ds := [10, 11]) #[false, false, false, false, false, false, false, false, false, false, false, false, false] (by kernel_rfl) rfl rfl ⟨hcb2, hca2, hcx2⟩ (fun hHeld => ?_)
      refine with_tabW en.tab5 en.bits5 (fun HT_ HW_ => ?_)
      refine pure_ (i := 0) (N := some 17) (v := ?_) (a' := ?_) #[true, false, false, false, false, false, false, false, false, false, false, false, false] rfl rfl (any_of HT_.out (by kernel_rfl)) (fun _ _ _ h => h) (Or.inl ⟨by rfl, ?_⟩) ?_ ?_
      rotate_left
      · intro w'
        go_simp
        with_reducible rfl
      rotate_left
      · simp only [Act.put, List.setIfInBounds_toArray, List.set_cons_zero, List.set_cons_succ, i64_w, i32_w]
        rfl
      refine pure_ (i := 1) (N := some 18) (v := ?_) (a' := ?_) #[true, true, false, false, false, false, false, false, false, false, false, false, false] rfl rfl (any_of HT_.out (by kernel_rfl)) (fun _ _ _ h => h) (Or.inl ⟨by rfl, ?_⟩) ?_ ?_
      rotate_left
      · intro w'
        go_simp
        with_reducible rfl
      rotate_left
      · simp only [Act.put, List.setIfInBounds_toArray, List.set_cons_zero, List.set_cons_succ, i64_w, i32_w]
        rfl
      refine pure_ (i := 2) (N := some 19) (v := ?_) (a' := ?_) #[true, true, true, false, false, false, false, false, false, false, false, false, false] rfl rfl (any_of HT_.out (by kernel_rfl)) (fun _ _ _ h => h) (Or.inl ⟨by rfl, ?_⟩) ?_ ?_
      rotate_left
      · intro w'
        go_simp
        with_reducible rfl
      rotate_left
      · simp only [Act.put, List.setIfInBounds_toArray, List.set_cons_zero, List.set_cons_succ, i64_w, i32_w]
        rfl
      refine pure_ (i := 3) (N := some 20) (v := ?_) (a' := ?_) #[true, true, true, true, false, false, false, false, false, false, false, false, false] rfl rfl (any_of HT_.out (by kernel_rfl)) (fun _ _ _ h => h) (Or.inl ⟨by rfl, ?_⟩) ?_ ?_
      rotate_left
      · intro w'
        go_simp
        with_reducible rfl
      rotate_left
      · simp only [Act.put, List.setIfInBounds_toArray, List.set_cons_zero, List.set_cons_succ, i64_w, i32_w]
        rfl
      refine pure_ (i := 5) (N := some 22) (v := ?_) (a' := ?_) #[true, true, true, true, false, true, false, false, false, false, false, false, false] rfl rfl (any_of HT_.out (by kernel_rfl)) (fun _ _ _ h => h) (Or.inl ⟨by rfl, ?_⟩) ?_ ?_
      rotate_left
      · intro w'
        go_simp
        with_reducible rfl
      rotate_left
      · simp only [Act.put, List.setIfInBounds_toArray, List.set_cons_zero, List.set_cons_succ, i64_w, i32_w]
        rfl
      refine take_ (i := 4) (N := some 21) (v := ?_) (a' := ?_) #[true, true, true, true, true, true, false, false, false, false, false, false, false] rfl rfl (take_ofW HT_.out HW_.out (by kernel_rfl)) (fun _ _ _ h => h) (Or.inl ⟨by rfl, ?_⟩) hHeld ?_ ?_
      rotate_left
      · rintro w' ⟨s0, s1, s2⟩
        go_simp
        with_reducible rfl
      rotate_left
      · simp only [Act.put, List.setIfInBounds_toArray, List.set_cons_zero, List.set_cons_succ, i64_w, i32_w]
        rfl
      refine take_ (i := 6) (N := some 23) (v := ?_) (a' := ?_) #[true, true, true, true, true, true, true, false, false, false, false, false, false] rfl rfl (take_ofW HT_.out HW_.out (by kernel_rfl)) (fun _ _ _ h => h) (Or.inl ⟨by rfl, ?_⟩) hHeld ?_ ?_
      rotate_left
      · rintro w' ⟨s0, s1, s2⟩
        go_simp
        with_reducible rfl
      rotate_left
      · simp only [Act.put, List.setIfInBounds_toArray, List.set_cons_zero, List.set_cons_succ, i64_w, i32_w]
        rfl
      refine pure_ (i := 7) (N := some 24) (v := ?_) (a' := ?_) #[true, true, true, true, true, true, true, true, false, false, false, false, false] rfl rfl (any_of HT_.out (by kernel_rfl)) (fun _ _ _ h => h) (Or.inl ⟨by rfl, ?_⟩) ?_ ?_
      rotate_left
      · intro w'
        go_simp
        with_reducible rfl
      rotate_left
      · simp only [Act.put, List.setIfInBounds_toArray, List.set_cons_zero, List.set_cons_succ, i64_w, i32_w]
        rfl
      refine take_ (i := 8) (N := some 25) (v := ?_) (a' := ?_) #[true, true, true, true, true, true, true, true, true, false, false, false, false] rfl rfl (take_ofW HT_.out HW_.out (by kernel_rfl)) (fun _ _ _ h => h) (Or.inl ⟨by rfl, ?_⟩) hHeld ?_ ?_
      rotate_left
      · rintro w' ⟨s0, s1, s2⟩
        go_simp
        with_reducible rfl
      rotate_left
      · simp only [Act.put, List.setIfInBounds_toArray, List.set_cons_zero, List.set_cons_succ, i64_w, i32_w]
        rfl
      refine pure_ (i := 9) (N := some 26) (v := ?_) (a' := ?_) #[true, true, true, true, true, true, true, true, true, true, false, false, false] rfl rfl (any_of HT_.out (by kernel_rfl)) (fun _ _ _ h => h) (Or.inl ⟨by rfl, ?_⟩) ?_ ?_
      rotate_left
      · intro w'
        go_simp
        with_reducible rfl
      rotate_left
      · simp only [Act.put, List.setIfInBounds_toArray, List.set_cons_zero, List.set_cons_succ, i64_w, i32_w]
        rfl
      refine last_ (i := 10) (N := some 27) #[true, true, true, true, true, true, true, true, true, true, true, false, false] rfl rfl (one_of HT_.out (by kernel_rfl)) (by decide) (fun K hK => ?_)
      refine value_ (w1 := ?_) (v := ?_) (by rfl) rfl ?_ ?_
      rotate_left 2
      · go_simp
        constructor
        · rfl
        · rfl
      refine hK.out _ _ ?_
      clear hK K
      refine norm_ (a' := ?_) ?_ ?_
      rotate_left
      · show Act.put _ (some 27) _ = _
        simp only [Act.put, List.setIfInBounds_toArray, List.set_cons_zero, List.set_cons_succ, i64_w, i32_w]
        rfl
      refine last_ (i := 11) (N := some 28) #[true, true, true, true, true, true, true, true, true, true, true, true, false] rfl rfl (one_of HT_.out (by kernel_rfl)) (by decide) (fun K hK => ?_)
      refine step_append_lies _ (by rfl) _ _ _ (by rfl) w.heap.size 105 i0 _ 1 16 Tryz.underlying110 HI.out.1 HI.out.2.1 HI.out.2.2.1 HI.out.2.2.2 rfl (by omega) (.slice V k C) k (nodeVs ((endsN ids l).take k)) (by rfl) (by exact World.ownsRow.alloc HOW.out _) ⟨wr.heap.size + 1, 0, none⟩ 1 1 [nodeV x] (by rfl) (by rfl) (by exact Q.news1' _ _ _ _ (by simp)) (by simp [Value.oneCell', nodeV]) (by omega) (by unfold maxLen; omega) (by omega) (by simp; omega) _ rfl ?_
      intro gg cap w4 hown4 hgr4 hat4 hlt4
      have G4 := Aside0.mk (And.intro hown4 hgr4)
      clear hown4 hgr4 hat4 hlt4
      refine hK.out _ _ ?_
      clear hK K
      refine norm_ (a' := ?_) ?_ ?_
      rotate_left
      · show Act.put _ (some 28) _ = _
        simp only [Act.put, List.setIfInBounds_toArray, List.set_cons_zero, List.set_cons_succ, i64_w, i32_w]
        rfl
      refine pure_ (i := 12) (N := some 5) (v := ?_) (a' := ?_) #[true, true, true, true, true, true, true, true, true, true, true, true, true] rfl rfl (any_of HT_.out (by kernel_rfl)) (fun _ _ _ h => h) (Or.inl ⟨by rfl, ?_⟩) ?_ ?_
      rotate_left
      · intro w'
        go_simp
        with_reducible rfl
      rotate_left
      · simp only [Act.put, List.setIfInBounds_toArray, List.set_cons_zero, List.set_cons_succ, i64_w, i32_w]
        rfl
      refine done_ (done_of HT_.out (by kernel_rfl)) ?_
      go_wp2
      go_roundw
      case rel => exact ⟨_, cap, k + 1, rfl, by omega, by go_num, ⟨by rw [HS.out]; exact G4.out.1, ((HR.out.2.alloc hbw _).drew.alloc (by simp; omega) _).grown G4.out.2 (by simp; omega) (fun q hq => own_base HR.out.1 q hq)⟩⟩
      case measure => simp [intOf]; omega
    · obtain rfl : k = l.length := by omega
      have h1 := HR.out
      rw [← hel, List.take_length] at h1
      have H1 := Aside0.mk h1
      clear h1 HR
      go_wp2_with (go_at_call 280; refine (new_any _ _ _ _).mono ?_; rintro e w1 ⟨rfl, rfl⟩)
      go_ret
      have hmd := OIt.made H1.out.1 H1.out.2.size
      rw [hel] at hmd
      exact ⟨wr.heap.size, rfl, by simpa using hmd, H1.out.2.alloc H1.out.2.size _⟩
end Go.Proofs.YtfkmpnpliadohaaGreat.R

set_option linter.unusedVariables false
set_option linter.unusedSimpArgs false
/- From, To, Nodes of a directed plain graph, and of one without directions. -/
namespace Go.Proofs.YtfkmpnpliadohaaGreat.R
open Go.RowKit Go.Lab Go.Maps Go.Proofs.YtfkmpnpliadohaaGreatW.PrintWords Go.Proofs.YtfkmpnpliadohaaGreatW.PrintLast Go.Proofs.YtfkmpnpliadohaaGreatW.PrintMore PL

set_option maxHeartbeats 4000000 in
set_option maxRecDepth 100000 in
theorem from_any (base bp : Nat) (p : Pl) (u : Int) (w : World) (h : PlOk w base bp p) (hs : p.ids.Pairwise (· < ·)) (hg : p.Good) (hu : u ∈ p.ids) :
    Calls Tryz.prog 267 #[.agg #[.pointer (some ⟨bp, 0, none⟩)], .int .i64 u] w fun e w' => ∃ b, e = .returned (.iface 354 (.pointer (some ⟨b, 0, none⟩))) ∧ OIt w.heap.size w'.heap.size w' b (endsN p.ids (p.out.getD (rank p.ids u) [])) 0 ∧ Below w.heap.size w w' := by
  have hb1 : Below w.heap.size w (w.alloc (.cells #[.pointer (some ⟨bp, 0, none⟩)] 75)) := (Below.refl _ _).alloc (Nat.le_refl _) _
  have hP1 : PlOk (w.alloc (.cells #[.pointer (some ⟨bp, 0, none⟩)] 75)) base bp p := h.below hb1
  have hd : decide (u ∈ p.ids) = true := decide_eq_true hu
  obtain ⟨hr, _⟩ := (rank_mem hs u).1 hu
  obtain ⟨ro, ri, vi, vn, g, cap, hi', hp, hcb, hce, hfr, hbw, hgw, hbg, hrl⟩ := hP1.open_out (rank p.ids u) hr
  have hn := hg.n
  have HP := Aside0.mk hP1
  have HP2 := Aside0.mk (show PlOk (World.drew (w.alloc (.cells #[.pointer (some ⟨bp, 0, none⟩)] 75))) base bp p from hP1.below ((Below.refl _ _).drew))
  have HROW := Aside0.mk (show (World.drew (w.alloc (.cells #[.pointer (some ⟨bp, 0, none⟩)] 75))).ownsRow base 285 2 ro[rank p.ids u] (p.out.getD (rank p.ids u) []).length (fl (p.out.getD (rank p.ids u) [])) from hp.rows.rowA _ hi')
  obtain ⟨VA, vc, hve⟩ := own_slice HROW.out
  rw [hve] at HROW hce
  have HS := Aside0.mk hs
  have HG := Aside0.mk (hg.out (rank p.ids u))
  have hc1 : (w.alloc (.cells #[.pointer (some ⟨bp, 0, none⟩)] 75)).cell? ⟨w.heap.size, 0, none⟩ = some (.pointer (some ⟨bp, 0, none⟩)) := (blk_cell (heap_alloc_new _ _) 0).trans rfl
  have hx1 : (0 : Int) ≤ ((rank p.ids u : Nat) : Int) := by omega
  have hx2 : ((rank p.ids u : Nat) : Int) < (ro.length : Int) := by omega
  clear h hs hg hu hP1 hp hve
  go_enter Tryz.func267, Tryz.ntmps267
  go_wp2_with (go_at_call 109; refine (pl_index base bp p _ _ HP.out HS.out hn).mono ?_; rintro e w1 ⟨rfl, rfl⟩; rw [hd])
  go_region_held3 (fun w' => w'.cell? ⟨w.heap.size, 0, none⟩ = some (.pointer (some ⟨bp, 0, none⟩)) ∧ w'.cell? ⟨bp, 1, none⟩ = some (.slice (some ⟨g, 0, none⟩) ro.length cap) ∧ w'.cell? ⟨g, rank p.ids u, none⟩ = some (.slice VA (p.out.getD (rank p.ids u) []).length vc))
    (first | (exact ⟨(hbel.cell (p := ⟨w.heap.size, 0, none⟩) (by simp)).trans hc1, (hbel.cell (p := ⟨bp, 1, none⟩) hbw).trans hcb, (hbel.cell (p := ⟨g, rank p.ids u, none⟩) hgw).trans hce⟩) | go_keep)
    (first
      | (go_at_call 275; refine (ends_any base bp base p _ (p.out.getD (rank p.ids u) []) _ HP2.out HROW.out hn (Nat.le_trans HG.out.len hn) HG.out.2).mono ?_; rintro e w2 ⟨b, rfl, hit, hbel⟩; have HIT := Aside0.mk hit; have HBEL := Aside0.mk hbel; clear hit))
  all_goals
    go_wp2
    go_ret
    have hz : w.heap.size ≤ (World.drew (w.alloc (.cells #[.pointer (some ⟨bp, 0, none⟩)] 75))).heap.size := by simp
    exact ⟨b, rfl, HIT.out.wide hz (Nat.le_refl _), (show Below w.heap.size w (World.drew (w.alloc (.cells #[.pointer (some ⟨bp, 0, none⟩)] 75))) from hb1.drew).trans (HBEL.out.mono hz)⟩

set_option maxHeartbeats 4000000 in
set_option maxRecDepth 100000 in
theorem to_any (base bp : Nat) (p : Pl) (u : Int) (w : World) (h : PlOk w base bp p) (hs : p.ids.Pairwise (· < ·)) (hg : p.Good) (hu : u ∈ p.ids) :
    Calls Tryz.prog 270 #[.agg #[.pointer (some ⟨bp, 0, none⟩)], .int .i64 u] w fun e w' => ∃ b, e = .returned (.iface 354 (.pointer (some ⟨b, 0, none⟩))) ∧ OIt w.heap.size w'.heap.size w' b (endsN p.ids (p.inn.getD (rank p.ids u) [])) 0 ∧ Below w.heap.size w w' := by
  have hb1 : Below w.heap.size w (w.alloc (.cells #[.pointer (some ⟨bp, 0, none⟩)] 75)) := (Below.refl _ _).alloc (Nat.le_refl _) _
  have hP1 : PlOk (w.alloc (.cells #[.pointer (some ⟨bp, 0, none⟩)] 75)) base bp p := h.below hb1
  have hd : decide (u ∈ p.ids) = true := decide_eq_true hu
  obtain ⟨hr, _⟩ := (rank_mem hs u).1 hu
  obtain ⟨ro, ri, vi, vo, g, cap, hi', hp, hcb, hce, hfr, hbw, hgw, hbg, hrl⟩ := hP1.open_inn (rank p.ids u) hr
  have hn := hg.n
  have HP := Aside0.mk hP1
  have HP2 := Aside0.mk (show PlOk (World.drew (w.alloc (.cells #[.pointer (some ⟨bp, 0, none⟩)] 75))) base bp p from hP1.below ((Below.refl _ _).drew))
  have HROW := Aside0.mk (show (World.drew (w.alloc (.cells #[.pointer (some ⟨bp, 0, none⟩)] 75))).ownsRow base 285 2 ri[rank p.ids u] (p.inn.getD (rank p.ids u) []).length (fl (p.inn.getD (rank p.ids u) [])) from hp.rows.rowB _ hi')
  obtain ⟨VA, vc, hve⟩ := own_slice HROW.out
  rw [hve] at HROW hce
  have HS := Aside0.mk hs
  have HG := Aside0.mk (hg.inn (rank p.ids u))
  have hc1 : (w.alloc (.cells #[.pointer (some ⟨bp, 0, none⟩)] 75)).cell? ⟨w.heap.size, 0, none⟩ = some (.pointer (some ⟨bp, 0, none⟩)) := (blk_cell (heap_alloc_new _ _) 0).trans rfl
  have hx1 : (0 : Int) ≤ ((rank p.ids u : Nat) : Int) := by omega
  have hx2 : ((rank p.ids u : Nat) : Int) < (ri.length : Int) := by omega
  clear h hs hg hu hP1 hp hve
  go_enter Tryz.func270, Tryz.ntmps270
  go_wp2_with (go_at_call 109; refine (pl_index base bp p _ _ HP.out HS.out hn).mono ?_; rintro e w1 ⟨rfl, rfl⟩; rw [hd])
  go_region_held3 (fun w' => w'.cell? ⟨w.heap.size, 0, none⟩ = some (.pointer (some ⟨bp, 0, none⟩)) ∧ w'.cell? ⟨bp, 2, none⟩ = some (.slice (some ⟨g, 0, none⟩) ri.length cap) ∧ w'.cell? ⟨g, rank p.ids u, none⟩ = some (.slice VA (p.inn.getD (rank p.ids u) []).length vc))
    (first | (exact ⟨(hbel.cell (p := ⟨w.heap.size, 0, none⟩) (by simp)).trans hc1, (hbel.cell (p := ⟨bp, 2, none⟩) hbw).trans hcb, (hbel.cell (p := ⟨g, rank p.ids u, none⟩) hgw).trans hce⟩) | go_keep)
    (first
      | (go_at_call 275; refine (ends_any base bp base p _ (p.inn.getD (rank p.ids u) []) _ HP2.out HROW.out hn (Nat.le_trans HG.out.len hn) HG.out.2).mono ?_; rintro e w2 ⟨b, rfl, hit, hbel⟩; have HIT := Aside0.mk hit; have HBEL := Aside0.mk hbel; clear hit))
  all_goals
    go_wp2
    go_ret
    have hz : w.heap.size ≤ (World.drew (w.alloc (.cells #[.pointer (some ⟨bp, 0, none⟩)] 75))).heap.size := by simp
    exact ⟨b, rfl, HIT.out.wide hz (Nat.le_refl _), (show Below w.heap.size w (World.drew (w.alloc (.cells #[.pointer (some ⟨bp, 0, none⟩)] 75))) from hb1.drew).trans (HBEL.out.mono hz)⟩

end Go.Proofs.YtfkmpnpliadohaaGreat.R

set_option linter.unusedVariables false
set_option linter.unusedSimpArgs false
/- Nodes and From of a graph without directions. -/
namespace Go.Proofs.YtfkmpnpliadohaaGreat.R
open Go.RowKit Go.Lab Go.Maps Go.Proofs.YtfkmpnpliadohaaGreatW.PrintWords Go.Proofs.YtfkmpnpliadohaaGreatW.PrintLast Go.Proofs.YtfkmpnpliadohaaGreatW.PrintMore PL

theorem meth_DNodes (a : Addr) (w : World) : (method 487 75 (.agg #[.pointer (some a)]) "Nodes").run Tryz.prog w = .ok (269, .agg #[.pointer (some a)]) w := by kernel_rfl
theorem meth_DFrom (a : Addr) (w : World) : (method 487 75 (.agg #[.pointer (some a)]) "From").run Tryz.prog w = .ok (267, .agg #[.pointer (some a)]) w := by kernel_rfl
theorem meth_DTo (a : Addr) (w : World) : (method 487 75 (.agg #[.pointer (some a)]) "To").run Tryz.prog w = .ok (270, .agg #[.pointer (some a)]) w := by kernel_rfl
theorem meth_DNode (a : Addr) (w : World) : (method 487 75 (.agg #[.pointer (some a)]) "Node").run Tryz.prog w = .ok (268, .agg #[.pointer (some a)]) w := by kernel_rfl
theorem meth_DEdge (a : Addr) (w : World) : (method 487 75 (.agg #[.pointer (some a)]) "Edge").run Tryz.prog w = .ok (266, .agg #[.pointer (some a)]) w := by kernel_rfl
theorem meth_DWeight (a : Addr) (w : World) : (method 487 75 (.agg #[.pointer (some a)]) "Weight").run Tryz.prog w = .ok (271, .agg #[.pointer (some a)]) w := by kernel_rfl
theorem nil_D (a : Addr) (s : String) (h : s = "Nodes" ∨ s = "From" ∨ s = "To" ∨ s = "Node" ∨ s = "Edge" ∨ s = "Weight") (w : World) : (nilAhead 487 75 (.agg #[.pointer (some a)]) s).run Tryz.prog w = .ok (some false) w := by
  rcases h with rfl | rfl | rfl | rfl | rfl | rfl <;> kernel_rfl

set_option maxHeartbeats 1000000 in
theorem nodes_any (base bp : Nat) (p : Pl) (w : World) (h : PlOk w base bp p) (hn : p.ids.length ≤ 1000) :
    Calls Tryz.prog 269 #[.agg #[.pointer (some ⟨bp, 0, none⟩)]] w fun e w' => ∃ b, e = .returned (.iface 354 (.pointer (some ⟨b, 0, none⟩))) ∧ OIt w.heap.size w'.heap.size w' b p.ids 0 ∧ Below w.heap.size w w' := by
  have hb1 : Below w.heap.size w (w.alloc (.cells #[.pointer (some ⟨bp, 0, none⟩)] 75)) := (Below.refl _ _).alloc (Nat.le_refl _) _
  have HP := Aside0.mk (h.below hb1)
  clear h
  go_enter Tryz.func269, Tryz.ntmps269
  go_wp2_with (go_at_call 277; refine (all_any base bp p _ HP.out hn).mono ?_; rintro e w2 ⟨b, rfl, hit, hbel⟩; have HIT := Aside0.mk hit; have HBEL := Aside0.mk hbel; clear hit hbel)
  go_ret
  exact ⟨b, rfl, HIT.out.wide (by simp) (Nat.le_refl _), hb1.trans (HBEL.out.mono (by simp))⟩

/-- the graph without directions, as a value -/
def uwV (bp ab : Nat) (f : Value) : Value := .agg #[.iface 75 (.agg #[.pointer (some ⟨bp, 0, none⟩)]), .float .f64 ab, f]

set_option maxHeartbeats 1000000 in
theorem uwNodes_any (base bp ab : Nat) (c : Nat) (caps : Array Value) (p : Pl) (w : World) (h : PlOk w base bp p) (hn : p.ids.length ≤ 1000) :
    Calls Tryz.prog 286 #[uwV bp ab (.func (.func c) #[] caps)] w fun e w' => ∃ b, e = .returned (.iface 354 (.pointer (some ⟨b, 0, none⟩))) ∧ OIt w.heap.size w'.heap.size w' b p.ids 0 ∧ Below w.heap.size w w' := by
  have hb1 : Below w.heap.size w (w.alloc (.cells #[.iface 75 (.agg #[.pointer (some ⟨bp, 0, none⟩)]), .float .f64 ab, .func (.func c) #[] caps] 86)) := (Below.refl _ _).alloc (Nat.le_refl _) _
  have HP := Aside0.mk (h.below hb1)
  have m1 := meth_DNodes ⟨bp, 0, none⟩
  have m2 := nil_D ⟨bp, 0, none⟩ "Nodes" (by simp)
  clear h
  unfold uwV
  go_enter Tryz.func286, Tryz.ntmps286
  go_wp2_with (go_at_call 269; refine (nodes_any base bp p _ HP.out hn).mono ?_; rintro e w2 ⟨b, rfl, hit, hbel⟩; have HIT := Aside0.mk hit; have HBEL := Aside0.mk hbel; clear hit hbel)
  go_ret
  exact ⟨b, rfl, HIT.out.wide (by simp) (Nat.le_refl _), hb1.trans (HBEL.out.mono (by simp))⟩

theorem PIt.wide {lo lo' B : Nat} {w : World} {b : Nat} {xs ys r : List Int} {cur : Value} (h : PIt lo B w b xs ys r cur) (hl : lo' ≤ lo) : PIt lo' B w b xs ys r cur := by
  obtain ⟨i, j, la, Ba, ba, lb, Bb, bb, mb, n, c1, c2, D, hP, hM, hr, hB⟩ := h.ex
  exact ⟨⟨i, j, la, Ba, ba, lb, Bb, bb, mb, n, c1, c2, D, ⟨hP.blk, hP.ia, hP.ib, hP.ap, Nat.le_trans hl hP.ha, Nat.le_trans hl hP.hb, hP.ma, hP.mb', hP.mlt, hP.map⟩, hM, hr, hB⟩⟩

theorem endsN_mem {ids : List Int} {l : List (Int × Nat)} (h : ∀ a ∈ l, 0 ≤ a.1 ∧ a.1 < ids.length) {x : Int} (hx : x ∈ endsN ids l) : x ∈ ids := by
  unfold endsN at hx
  obtain ⟨a, ha, rfl⟩ := List.mem_map.1 hx
  have := h a ha
  have hl : a.1.toNat < ids.length := by omega
  rw [List.getD_eq_getElem?_getD, List.getElem?_eq_getElem hl]
  exact List.getElem_mem _

set_option maxHeartbeats 8000000 in
set_option maxRecDepth 100000 in
theorem uwFrom_any (base bp ab : Nat) (c : Nat) (caps : Array Value) (p : Pl) (u : Int) (w : World) (h : PlOk w base bp p) (hs : p.ids.Pairwise (· < ·)) (hg : p.Good) (hu : u ∈ p.ids) (hwf : ∀ x ∈ p.ids, (Lit.int .i64 x).wf = true) :
    Calls Tryz.prog 283 #[uwV bp ab (.func (.func c) #[] caps), .int .i64 u] w fun e w' => ∃ b, e = .returned (.iface 359 (.pointer (some ⟨b, 0, none⟩))) ∧
      PIt w.heap.size w'.heap.size w' b (endsN p.ids (p.out.getD (rank p.ids u) [])) (endsN p.ids (p.inn.getD (rank p.ids u) [])) (both (endsN p.ids (p.out.getD (rank p.ids u) [])) (endsN p.ids (p.inn.getD (rank p.ids u) []))) .nilIface ∧ Below w.heap.size w w' := by
  have hb1 : Below w.heap.size w (w.alloc (.cells #[.iface 75 (.agg #[.pointer (some ⟨bp, 0, none⟩)]), .float .f64 ab, .func (.func c) #[] caps] 86)) := (Below.refl _ _).alloc (Nat.le_refl _) _
  have HP := Aside0.mk (h.below hb1)
  have hn := hg.n
  have HS := Aside0.mk hs
  have HG := Aside0.mk hg
  have HU := Aside0.mk hu
  have hd : decide (u ∈ p.ids) = true := decide_eq_true hu
  have m1 := meth_DFrom ⟨bp, 0, none⟩
  have m2 := nil_D ⟨bp, 0, none⟩ "From" (by simp)
  have m3 := meth_DTo ⟨bp, 0, none⟩
  have m4 := nil_D ⟨bp, 0, none⟩ "To" (by simp)
  have m5 := meth_DNode ⟨bp, 0, none⟩
  have m6 := nil_D ⟨bp, 0, none⟩ "Node" (by simp)
  have hxl : (endsN p.ids (p.out.getD (rank p.ids u) [])).length ≤ 1000 := by rw [endsN_length]; exact Nat.le_trans (hg.out _).len hn
  have hyl : (endsN p.ids (p.inn.getD (rank p.ids u) [])).length ≤ 1000 := by rw [endsN_length]; exact Nat.le_trans (hg.inn _).len hn
  have HWX := Aside0.mk (fun x (hx : x ∈ endsN p.ids (p.out.getD (rank p.ids u) [])) => hwf x (endsN_mem (hg.out _).2 hx))
  have HWY := Aside0.mk (fun x (hx : x ∈ endsN p.ids (p.inn.getD (rank p.ids u) [])) => hwf x (endsN_mem (hg.inn _).2 hx))
  clear h hs hg hu hwf
  unfold uwV
  go_enter Tryz.func283, Tryz.ntmps283
  go_wp2_with (go_at_call 268; refine (nodeD_any base bp p u _ HP.out HS.out hn).mono ?_; rintro e w1 ⟨rfl, hbel⟩; rw [hd]; unfold nodeOr nodeV; have HB1 := Aside0.mk hbel; clear hbel)
  have hz : w.heap.size < w1.heap.size := Nat.lt_of_lt_of_le (by simp) HB1.out.size
  have hcb : w1.cell? ⟨w.heap.size, 0, none⟩ = some (.iface 75 (.agg #[.pointer (some ⟨bp, 0, none⟩)])) := (HB1.out.cell (p := ⟨w.heap.size, 0, none⟩) (by simp)).trans ((blk_cell (heap_alloc_new _ _) 0).trans rfl)
  have HP1 := Aside0.mk (show PlOk w1.drew base bp p from (HP.out.below HB1.out).below ((Below.refl _ _).drew))
  have HB0 := Aside0.mk (show Below w.heap.size w w1.drew from ((hb1.trans (HB1.out.mono (by simp)))).drew)
  go_region_held3 (fun w' => w'.cell? ⟨w.heap.size, 0, none⟩ = some (.iface 75 (.agg #[.pointer (some ⟨bp, 0, none⟩)])))
    (first | (exact (hbel.cell (p := ⟨w.heap.size, 0, none⟩) (by assumption)).trans (by assumption)) | go_keep)
    (first
      | (go_at_call 267; refine (from_any base bp p u _ (HP1.out.below HT.out.2) HS.out HG.out HU.out).mono ?_; rintro e w4 ⟨ba, rfl, hia, hbel⟩; have HPB := Aside0.mk (And.intro hia (And.intro (HT.out.1.far fun q _ hq => hbel.block q hq) hbel)))
      | (go_at_call 267; refine (from_any base bp p u _ HP1.out HS.out HG.out HU.out).mono ?_; rintro e w3 ⟨ba, rfl, hia, hbel⟩; have HF := Aside0.mk (And.intro hia hbel); have hz3 := Nat.lt_of_lt_of_le hz hbel.size)
      | (go_at_call 270; refine (to_any base bp p u _ (HP1.out.below HF.out.2) HS.out HG.out HU.out).mono ?_; rintro e w4 ⟨bt, rfl, hit, hbel⟩; have HPA := Aside0.mk (And.intro hit (And.intro (HF.out.1.far fun q _ hq => hbel.block q hq) hbel)))
      | (go_at_call 270; refine (to_any base bp p u _ HP1.out HS.out HG.out HU.out).mono ?_; rintro e w3 ⟨bt, rfl, hit, hbel⟩; have HT := Aside0.mk (And.intro hit hbel); have hz3 := Nat.lt_of_lt_of_le hz hbel.size)
      | (go_at_call 289; refine (newPair_any w1.drew.heap.size _ _ _ _ _ _ _ _ _ HPA.out.2.1 HPA.out.1 (.inl (Nat.le_refl _)) (Nat.le_refl _) HF.out.2.size HPA.out.2.2.size (Nat.le_refl _) hxl hyl HWX.out HWY.out).mono ?_; rintro e w5 ⟨b, rfl, hp, hbel⟩; have HR := Aside0.mk (And.intro hp ((HF.out.2.trans (HPA.out.2.2.mono HF.out.2.size)).trans hbel)))
      | (go_at_call 289; refine (newPair_any w1.drew.heap.size _ _ _ _ _ _ _ _ _ HPB.out.1 HPB.out.2.1 (.inr (Nat.le_refl _)) HT.out.2.size (Nat.le_refl _) (Nat.le_refl _) HPB.out.2.2.size hxl hyl HWX.out HWY.out).mono ?_; rintro e w5 ⟨b, rfl, hp, hbel⟩; have HR := Aside0.mk (And.intro hp ((HT.out.2.trans (HPB.out.2.2.mono HT.out.2.size)).trans hbel))))
  all_goals
    go_wp2
    go_ret
    exact ⟨b, rfl, HR.out.1.wide (Nat.le_of_lt hz), HB0.out.trans (HR.out.2.mono (Nat.le_of_lt hz))⟩
end Go.Proofs.YtfkmpnpliadohaaGreat.R

set_option linter.unusedVariables false
set_option linter.unusedSimpArgs false
/- Edge and Weight of a directed plain graph. -/
namespace Go.Proofs.YtfkmpnpliadohaaGreat.R
open Go.RowKit Go.Lab Go.Maps Go.Proofs.YtfkmpnpliadohaaGreatW.PrintWords Go.Proofs.YtfkmpnpliadohaaGreatW.PrintLast Go.Proofs.YtfkmpnpliadohaaGreatW.PrintMore PL

theorem frombits (b : Int) (w : World) : ∃ z, (callFunc 122 #[.int .u64 b]).run Tryz.prog w = .ok (.value (.float .f64 z)) w := by
  rw [run_callFunc_extern Tryz.func122 (by kernel_rfl) (by kernel_rfl) (by kernel_rfl) (e := Extern.MathFloatBits.float64frombits) (by kernel_rfl)]
  exact ⟨_, rfl⟩

set_option maxHeartbeats 1000000 in
theorem inf_any (w : World) : Calls Tryz.prog 83 #[.int .i64 1] w fun e w' => ∃ z, e = .returned (.float .f64 z) ∧ w = w' := by
  obtain ⟨z, hz⟩ := frombits 9218868437227405312 w
  go_enter Tryz.func83, Tryz.ntmps83
  go_wp2
  go_ret
  exact ⟨z, rfl, rfl⟩

set_option maxHeartbeats 2000000 in
theorem edge_any (base bp : Nat) (p : Pl) (u v : Int) (w : World) (h : PlOk w base bp p) (hs : p.ids.Pairwise (· < ·)) (hg : p.Good) :
    Calls Tryz.prog 274 #[.pointer (some ⟨bp, 0, none⟩), .int .i64 u, .int .i64 v] w fun e w' => ∃ x, e = .returned x ∧ (x = .nilIface ∨ ∃ t y, x = .iface t y) ∧ Below w.heap.size w w' := by
  have HP := Aside0.mk h
  have HS := Aside0.mk hs
  have HG := Aside0.mk hg
  obtain ⟨f, hf⟩ : ∃ f, f = p.find u v := ⟨_, rfl⟩
  have HFF := Aside0.mk hf
  clear h hs hg hf
  cases f with
  | none =>
    go_enter Tryz.func274, Tryz.ntmps274
    go_wp2_with (go_at_call 279; refine (find_any base bp p u v _ HP.out HS.out HG.out).mono ?_; rintro e w1 ⟨rfl, hbel⟩; rw [← HFF.out]; unfold arcV; have HB := Aside0.mk hbel; clear hbel)
    go_ret
    exact ⟨_, rfl, .inl rfl, HB.out.alloc HB.out.size _⟩
  | some a =>
    go_enter Tryz.func274, Tryz.ntmps274
    go_wp2_with (go_at_call 279; refine (find_any base bp p u v _ HP.out HS.out HG.out).mono ?_; rintro e w1 ⟨rfl, hbel⟩; rw [← HFF.out]; unfold arcV; have HB := Aside0.mk hbel; clear hbel)
    go_ret
    exact ⟨_, rfl, .inr ⟨_, _, rfl⟩, HB.out.alloc HB.out.size _⟩

set_option maxHeartbeats 2000000 in
theorem edgeD_any (base bp : Nat) (p : Pl) (u v : Int) (w : World) (h : PlOk w base bp p) (hs : p.ids.Pairwise (· < ·)) (hg : p.Good) :
    Calls Tryz.prog 266 #[.agg #[.pointer (some ⟨bp, 0, none⟩)], .int .i64 u, .int .i64 v] w fun e w' => ∃ x, e = .returned x ∧ (x = .nilIface ∨ ∃ t y, x = .iface t y) ∧ Below w.heap.size w w' := by
  have hb1 : Below w.heap.size w (w.alloc (.cells #[.pointer (some ⟨bp, 0, none⟩)] 75)) := (Below.refl _ _).alloc (Nat.le_refl _) _
  have HP := Aside0.mk (h.below hb1)
  have HS := Aside0.mk hs
  have HG := Aside0.mk hg
  obtain ⟨f, hf⟩ : ∃ f, f = p.has u v := ⟨_, rfl⟩
  have HFF := Aside0.mk hf
  clear h hs hg hf
  cases f
  · go_enter Tryz.func266, Tryz.ntmps266
    go_wp2_with (go_at_call 273; refine (hasFromTo_any base bp p u v _ HP.out HS.out HG.out).mono ?_; rintro e w1 ⟨rfl, hbel⟩; rw [← HFF.out]; have HB := Aside0.mk hbel; clear hbel)
    go_ret
    exact ⟨_, rfl, .inl rfl, hb1.trans (HB.out.mono (by simp))⟩
  · go_enter Tryz.func266, Tryz.ntmps266
    go_wp2_with (first
      | (go_at_call 273; refine (hasFromTo_any base bp p u v _ HP.out HS.out HG.out).mono ?_; rintro e w1 ⟨rfl, hbel⟩; rw [← HFF.out]; have HB := Aside0.mk hbel; have hcb := (hbel.cell (p := ⟨w.heap.size, 0, none⟩) (by simp)).trans ((blk_cell (heap_alloc_new _ _) 0).trans rfl); clear hbel)
      | (go_at_call 274; refine (edge_any base bp p u v _ (HP.out.below HB.out) HS.out HG.out).mono ?_; rintro e w2 ⟨x, rfl, hx, hbel⟩; have HX := Aside0.mk hx; have HB2 := Aside0.mk hbel; clear hbel hx))
    go_ret
    exact ⟨x, rfl, HX.out, (hb1.trans (HB.out.mono (by simp))).trans (HB2.out.mono (Nat.le_trans (by simp) HB.out.size))⟩

/-- the weight told where there is an arc; else any number, and false -/
def WtOk (f : Option (Int × Nat)) (x : Nat) (ok : Bool) : Prop := ok = f.isSome ∧ ∀ a, f = some a → x = a.2

set_option maxHeartbeats 2000000 in
theorem weight_any (base bp : Nat) (p : Pl) (u v : Int) (huv : u ≠ v) (w : World) (h : PlOk w base bp p) (hs : p.ids.Pairwise (· < ·)) (hg : p.Good) :
    Calls Tryz.prog 278 #[.pointer (some ⟨bp, 0, none⟩), .int .i64 u, .int .i64 v] w fun e w' => ∃ x ok, e = .returned (.tuple #[.float .f64 x, .bool ok]) ∧ WtOk (p.find u v) x ok ∧ Below w.heap.size w w' := by
  have HP := Aside0.mk h
  have HS := Aside0.mk hs
  have HG := Aside0.mk hg
  obtain ⟨f, hf⟩ : ∃ f, f = p.find u v := ⟨_, rfl⟩
  have HFF := Aside0.mk hf
  have hq : (u == v) = false := by simpa using huv
  clear h hs hg
  rw [← hf]
  clear hf huv
  cases f with
  | none =>
    go_enter Tryz.func278, Tryz.ntmps278
    go_wp2_with (first
      | (go_at_call 279; refine (find_any base bp p u v _ HP.out HS.out HG.out).mono ?_; rintro e w1 ⟨rfl, hbel⟩; rw [← HFF.out]; unfold arcV; have HB := Aside0.mk hbel; clear hbel)
      | (go_at_call 83; refine (inf_any _).mono ?_; rintro e w2 ⟨z, rfl, rfl⟩))
    go_ret2
    exact ⟨z, false, rfl, ⟨rfl, fun a ha => by cases ha⟩, HB.out.alloc HB.out.size _⟩
  | some a =>
    go_enter Tryz.func278, Tryz.ntmps278
    go_wp2_with (go_at_call 279; refine (find_any base bp p u v _ HP.out HS.out HG.out).mono ?_; rintro e w1 ⟨rfl, hbel⟩; rw [← HFF.out]; unfold arcV; have HB := Aside0.mk hbel; clear hbel)
    go_ret2
    exact ⟨a.2, true, rfl, ⟨rfl, fun b hb => by injection hb with hb; subst hb; rfl⟩, HB.out.alloc HB.out.size _⟩

set_option maxHeartbeats 2000000 in
theorem weightD_any (base bp : Nat) (p : Pl) (u v : Int) (huv : u ≠ v) (w : World) (h : PlOk w base bp p) (hs : p.ids.Pairwise (· < ·)) (hg : p.Good) :
    Calls Tryz.prog 271 #[.agg #[.pointer (some ⟨bp, 0, none⟩)], .int .i64 u, .int .i64 v] w fun e w' => ∃ x ok, e = .returned (.tuple #[.float .f64 x, .bool ok]) ∧ WtOk (p.find u v) x ok ∧ Below w.heap.size w w' := by
  have hb1 : Below w.heap.size w (w.alloc (.cells #[.pointer (some ⟨bp, 0, none⟩)] 75)) := (Below.refl _ _).alloc (Nat.le_refl _) _
  have HP := Aside0.mk (h.below hb1)
  have HS := Aside0.mk hs
  have HG := Aside0.mk hg
  clear h hs hg
  go_enter Tryz.func271, Tryz.ntmps271
  go_wp2_with (go_at_call 278; refine (weight_any base bp p u v huv _ HP.out HS.out HG.out).mono ?_; rintro e w1 ⟨x, ok, rfl, hx, hbel⟩; have HX := Aside0.mk hx; have HB := Aside0.mk hbel; clear hbel hx)
  go_ret2
  exact ⟨x, ok, rfl, HX.out, hb1.trans (HB.out.mono (by simp))⟩
end Go.Proofs.YtfkmpnpliadohaaGreat.R

/- Whole numbers of at most 2^53 as floats of 64 bits: exact sums, orders, and the way back. -/
namespace Go.Proofs.FLN
open Go Ieee

theorem dbl_binade : double.binade = 4503599627370496 := by decide
theorem dbl_inf : double.infRung = 2047 * 4503599627370496 := by decide
theorem dbl_sign : double.signWeight = 9223372036854775808 := by decide
theorem dbl_least : double.leastPlace = -1074 := by decide
theorem dbl_frac : double.fractionBits = 52 := rfl

theorem log2_shift (M j : Nat) (h : M ≠ 0) : (M * 2 ^ j).log2 = M.log2 + j := by
  induction j with
  | zero => simp
  | succ j ih =>
    rw [Nat.pow_succ, ← Nat.mul_assoc, Nat.mul_comm _ 2, Nat.log2_two_mul (Nat.mul_ne_zero h (Nat.ne_of_gt (Nat.two_pow_pos _))), ih]
    omega

theorem cut_exact (way : Toward) (neg : Bool) (q d : Nat) (hq : q ≠ 0) : way.cut neg (q * 2 ^ d) d = q := by
  have hm : min d ((q * 2 ^ d).log2 + 2) = d := by rw [log2_shift q d hq]; omega
  have hp : 0 < 2 ^ d := Nat.two_pow_pos d
  unfold Toward.cut
  simp only [hm, Nat.one_shiftLeft, Nat.mul_mod_left, Nat.mul_div_cancel _ hp]
  cases way <;> simp <;> omega

theorem kept_bounds {M : Nat} (h0 : M ≠ 0) (h : M < 9007199254740992) : M.log2 ≤ 52 ∧ 4503599627370496 ≤ M * 2 ^ (52 - M.log2) ∧ M * 2 ^ (52 - M.log2) < 9007199254740992 := by
  have h1 : M.log2 < 53 := (Nat.log2_lt h0).2 h
  have h2 : 2 ^ M.log2 ≤ M := Nat.log2_self_le h0
  have h3 : M < 2 ^ (M.log2 + 1) := Nat.lt_log2_self
  have e : 2 ^ M.log2 * 2 ^ (52 - M.log2) = 4503599627370496 := by rw [← Nat.pow_add, show M.log2 + (52 - M.log2) = 52 by omega]
  have e2 : 2 ^ (M.log2 + 1) * 2 ^ (52 - M.log2) = 9007199254740992 := by rw [← Nat.pow_add, show M.log2 + 1 + (52 - M.log2) = 53 by omega]
  refine ⟨by omega, ?_, ?_⟩
  · rw [← e]; exact Nat.mul_le_mul_right _ h2
  · rw [← e2]; exact Nat.mul_lt_mul_of_pos_right h3 (Nat.two_pow_pos _)

def rungOf (M : Nat) : Nat := (M.log2 + 1022) * 4503599627370496 + M * 2 ^ (52 - M.log2)

theorem nearest_exact (neg : Bool) (M j : Nat) (hM : M ≠ 0) (hb : M < 9007199254740992) (hj : j ≤ 1074) : double.nearest neg (M * 2 ^ j) (-(j : Int)) = double.word neg (rungOf M) := by
  obtain ⟨hL, hk1, hk2⟩ := kept_bounds hM hb
  have hne : M * 2 ^ j ≠ 0 := Nat.mul_ne_zero hM (Nat.ne_of_gt (Nat.two_pow_pos _))
  unfold Format.nearest
  rw [if_neg hne, log2_shift M j hM, dbl_frac, dbl_least, dbl_binade, dbl_inf]
  have hlast : max (-(j : Int) + ((M.log2 + j : Nat) : Int) - ((52 : Nat) : Int)) (-1074) = (M.log2 : Int) - 52 := by omega
  simp only [hlast]
  have hkept : Toward.even.cut neg ((M * 2 ^ j) <<< (-(j : Int) - ((M.log2 : Int) - 52)).toNat) (((M.log2 : Int) - 52) - -(j : Int)).toNat = M * 2 ^ (52 - M.log2) := by
    by_cases hc : j ≤ 52 - M.log2
    · rw [show (-(j : Int) - ((M.log2 : Int) - 52)).toNat = 52 - M.log2 - j by omega, show (((M.log2 : Int) - 52) - -(j : Int)).toNat = 0 by omega, Nat.shiftLeft_eq, Nat.mul_assoc, ← Nat.pow_add, show j + (52 - M.log2 - j) = 52 - M.log2 by omega]
      have := cut_exact .even neg (M * 2 ^ (52 - M.log2)) 0 (by omega)
      rwa [Nat.pow_zero, Nat.mul_one] at this
    · rw [show (-(j : Int) - ((M.log2 : Int) - 52)).toNat = 0 by omega, show (((M.log2 : Int) - 52) - -(j : Int)).toNat = j - (52 - M.log2) by omega, Nat.shiftLeft_eq, Nat.pow_zero, Nat.mul_one]
      have := cut_exact .even neg (M * 2 ^ (52 - M.log2)) (j - (52 - M.log2)) (by omega)
      rwa [Nat.mul_assoc, ← Nat.pow_add, show 52 - M.log2 + (j - (52 - M.log2)) = j by omega] at this
  rw [hkept, show ((M.log2 : Int) - 52 - -1074).toNat = M.log2 + 1022 by omega]
  unfold rungOf
  rw [Nat.min_eq_left (by omega)]

theorem read_at (neg : Bool) (e K : Nat) (he : 1 ≤ e) (he2 : e < 2046) (hk1 : 4503599627370496 ≤ K) (hk2 : K < 9007199254740992) (R : Nat) (hR : R = e * 4503599627370496 + K) :
    double.read (double.word neg R) = .number neg K ((e : Int) - 1074) := by
  have hl : R < 9223372036854775808 := by omega
  have h1 : double.word neg R % 9223372036854775808 = R := by
    unfold Format.word
    rw [dbl_sign]
    cases neg
    · rw [if_neg (by simp)]; omega
    · rw [if_pos rfl]; omega
  have h2 : (double.word neg R / 9223372036854775808 % 2 == 1) = neg := by
    unfold Format.word
    rw [dbl_sign]
    cases neg
    · rw [if_neg (by simp), Nat.div_eq_of_lt hl]; rfl
    · rw [if_pos rfl, Nat.add_div_left _ (by decide), Nat.div_eq_of_lt hl]; rfl
  unfold Format.read
  rw [dbl_sign, dbl_binade, dbl_inf, dbl_least]
  simp only [h1, h2]
  have e1 : 4503599627370496 + R % 4503599627370496 = K := by omega
  have e2 : R / 4503599627370496 = e + 1 := by omega
  rw [if_neg (by omega), if_pos (by omega), e1, e2]
  congr 1

theorem read_word (neg : Bool) (M : Nat) (hM : M ≠ 0) (hb : M < 9007199254740992) : double.read (double.word neg (rungOf M)) = .number neg (M * 2 ^ (52 - M.log2)) (-((52 - M.log2 : Nat) : Int)) := by
  obtain ⟨hL, hk1, hk2⟩ := kept_bounds hM hb
  have e : ((M.log2 + 1022 : Nat) : Int) - 1074 = -((52 - M.log2 : Nat) : Int) := by omega
  rw [← e]
  exact read_at neg (M.log2 + 1022) _ (by omega) (by omega) hk1 hk2 (rungOf M) rfl

/-- a whole number as a float -/
abbrev fl (n : Int) : Nat := floatOfInt .f64 n

theorem fl_eq (n : Int) : fl n = double.nearest (decide (n < 0)) n.natAbs 0 := rfl

theorem fl_zero : fl 0 = 0 := by decide

theorem nat_exact (neg : Bool) (M : Nat) (hM : M ≠ 0) (hb : M < 9007199254740992) : double.nearest neg M 0 = double.word neg (rungOf M) := by
  have := nearest_exact neg M 0 hM hb (by omega)
  rwa [Nat.pow_zero, Nat.mul_one] at this

/-- what a whole number stands for -/
theorem decode_fl (n : Int) (h : n.natAbs < 9007199254740992) : ∃ s : Nat, s ≤ 1074 ∧ FloatKind.f64.decode (fl n) = .number (decide (n < 0)) (n.natAbs * 2 ^ s) (-(s : Int)) := by
  by_cases h0 : n = 0
  · subst h0
    exact ⟨1074, Nat.le_refl _, by rw [fl_zero]; decide +kernel⟩
  · have hM : n.natAbs ≠ 0 := by omega
    refine ⟨52 - n.natAbs.log2, by omega, ?_⟩
    rw [fl_eq, nat_exact _ _ hM h]
    exact read_word _ _ hM h

theorem signed_at (n : Int) (s S : Nat) (h : s ≤ S) : signed (decide (n < 0)) (n.natAbs * 2 ^ s) (-(s : Int) - -(S : Int)).toNat = n * ((2 ^ S : Nat) : Int) := by
  rw [show (-(s : Int) - -(S : Int)).toNat = S - s by omega]
  unfold signed
  rw [Nat.shiftLeft_eq, Nat.mul_assoc, ← Nat.pow_add, show s + (S - s) = S by omega]
  by_cases hn : n < 0
  · simp only [hn, decide_true, if_true]
    rw [Int.natCast_mul, show ((n.natAbs : Nat) : Int) = -n by omega, Int.neg_mul, Int.neg_neg]
  · simp only [hn, decide_false]
    rw [if_neg (by simp), Int.natCast_mul, show ((n.natAbs : Nat) : Int) = n by omega]

/-- the sum -/
theorem add_fl (a b : Int) (ha : a.natAbs < 9007199254740992) (hb : b.natAbs < 9007199254740992) (hab : (a + b).natAbs < 9007199254740992) : FloatKind.f64.format.add (fl a) (fl b) = some (fl (a + b)) := by
  obtain ⟨s, hs, ea⟩ := decode_fl a ha
  obtain ⟨t, ht, eb⟩ := decode_fl b hb
  have ea' : double.read (fl a) = _ := ea
  have eb' : double.read (fl b) = _ := eb
  show ((double.read (fl a)).sum (double.read (fl b))).map double.write = _
  rw [ea', eb']
  have hbase : min (-(s : Int)) (-(t : Int)) = -((max s t : Nat) : Int) := by omega
  simp only [Datum.sum, hbase, signed_at a s (max s t) (by omega), signed_at b t (max s t) (by omega), ← Int.add_mul]
  generalize hS : max s t = S
  have hS2 : S ≤ 1074 := by omega
  have hp : 0 < ((2 ^ S : Nat) : Int) := by exact_mod_cast Nat.two_pow_pos S
  simp only [Option.map_some]
  congr 1
  by_cases h0 : a + b = 0
  · rw [h0, Int.zero_mul, if_pos rfl, fl_zero]
    have : (decide (a < 0) && decide (b < 0)) = false := by
      by_cases h1 : a < 0
      · have : ¬ b < 0 := by omega
        simp [this]
      · simp [h1]
    rw [this]
    rfl
  · have hne : (a + b) * ((2 ^ S : Nat) : Int) ≠ 0 := Int.mul_ne_zero h0 (by omega)
    rw [if_neg hne]
    have hneg : decide ((a + b) * ((2 ^ S : Nat) : Int) < 0) = decide (a + b < 0) := by
      rw [decide_eq_decide]
      constructor
      · intro h
        rcases Int.lt_or_le (a + b) 0 with h' | h'
        · exact h'
        · exact absurd (Int.mul_nonneg h' (Int.le_of_lt hp)) (by omega)
      · intro h
        exact Int.mul_neg_of_neg_of_pos h hp
    rw [hneg, Int.natAbs_mul, Int.natAbs_natCast]
    have hM : (a + b).natAbs ≠ 0 := by omega
    show double.nearest _ _ _ = _
    rw [nearest_exact _ _ S hM hab hS2, fl_eq, nat_exact _ _ hM hab]

theorem cmp_lt {a b : Int} (h : a < b) : compare a b = .lt := by
  show compareOfLessAndEq a b = _
  unfold compareOfLessAndEq
  rw [if_pos h]
theorem cmp_eq (a : Int) : compare a a = .eq := by
  show compareOfLessAndEq a a = _
  unfold compareOfLessAndEq
  rw [if_neg (by omega), if_pos rfl]
theorem cmp_gt {a b : Int} (h : b < a) : compare a b = .gt := by
  show compareOfLessAndEq a b = _
  unfold compareOfLessAndEq
  rw [if_neg (by omega), if_neg (by omega)]

/-- the order -/
theorem order_fl (a b : Int) (ha : a.natAbs < 9007199254740992) (hb : b.natAbs < 9007199254740992) : FloatKind.f64.format.order (fl a) (fl b) = some (compare a b) := by
  obtain ⟨s, hs, ea⟩ := decode_fl a ha
  obtain ⟨t, ht, eb⟩ := decode_fl b hb
  have ea' : double.read (fl a) = _ := ea
  have eb' : double.read (fl b) = _ := eb
  show (double.read (fl a)).order (double.read (fl b)) = _
  rw [ea', eb']
  have hbase : min (-(s : Int)) (-(t : Int)) = -((max s t : Nat) : Int) := by omega
  simp only [Datum.order, hbase, signed_at a s (max s t) (by omega), signed_at b t (max s t) (by omega)]
  generalize max s t = S
  have hp : 0 < ((2 ^ S : Nat) : Int) := by exact_mod_cast Nat.two_pow_pos S
  congr 1
  rcases Int.lt_trichotomy a b with h | h | h
  · rw [cmp_lt h, cmp_lt (Int.mul_lt_mul_of_pos_right h hp)]
  · rw [h]; rw [cmp_eq _, cmp_eq _]
  · rw [cmp_gt h, cmp_gt (Int.mul_lt_mul_of_pos_right h hp)]

/-- the way back -/
theorem toInt_fl (n : Int) (h : n.natAbs < 9007199254740992) : floatToIntVal .f64 (fl n) .i64 = some n := by
  obtain ⟨s, hs, e⟩ := decode_fl n h
  have ht : (FloatKind.f64.decode (fl n)).toInt .zero = some n := by
    rw [e]
    unfold Datum.toInt Datum.integral
    simp only
    rw [show (-(s : Int)).toNat = 0 by omega, show (- -(s : Int)).toNat = s by omega, Nat.shiftLeft_eq, Nat.pow_zero, Nat.mul_one]
    have hc : Toward.zero.cut (decide (n < 0)) (n.natAbs * 2 ^ s) s = n.natAbs := by
      by_cases h0 : n = 0
      · subst h0
        unfold Toward.cut
        simp
      · exact cut_exact _ _ _ _ (by omega)
    rw [hc]
    have := signed_at n 0 0 (Nat.le_refl _)
    simp only [Nat.pow_zero, Nat.mul_one] at this
    unfold signed at *
    simp only [Nat.shiftLeft_zero] at *
    by_cases hn : n < 0
    · simp only [hn, decide_true, if_true]; congr 1; omega
    · simp only [hn, decide_false]; rw [if_neg (by simp)]; congr 1; omega
  unfold floatToIntVal
  rw [ht]
  have : IntKind.i64.min ≤ n ∧ n ≤ IntKind.i64.max := by
    simp [IntKind.min, IntKind.max, IntKind.bits, IntKind.signed]
    omega
  exact if_pos this

variable {P : Program} (w : World)
theorem run_min_fl (ts : Array TypeId) (t : TypeId) (a b : Int) (ha : a.natAbs < 9007199254740992) (hb : b.natAbs < 9007199254740992) :
    (Builtin.min_ ts t #[.float .f64 (fl a), .float .f64 (fl b)]).run P w = .ok (.float .f64 (fl (min a b))) w := by
  have ho := order_fl a b ha hb
  rcases Int.lt_trichotomy a b with h | h | h
  · rw [cmp_lt h] at ho
    simp [Builtin.min_, Builtin.min2, ho, show min a b = a by omega]
  · subst h
    rw [cmp_eq _] at ho
    simp [Builtin.min_, Builtin.min2, ho]
  · rw [cmp_gt h] at ho
    simp [Builtin.min_, Builtin.min2, ho, show min a b = b by omega]
theorem run_max_fl (ts : Array TypeId) (t : TypeId) (a b : Int) (ha : a.natAbs < 9007199254740992) (hb : b.natAbs < 9007199254740992) :
    (Builtin.max_ ts t #[.float .f64 (fl a), .float .f64 (fl b)]).run P w = .ok (.float .f64 (fl (max a b))) w := by
  have ho := order_fl a b ha hb
  rcases Int.lt_trichotomy a b with h | h | h
  · rw [cmp_lt h] at ho
    simp [Builtin.max_, Builtin.max2, ho, show max a b = b by omega]
  · subst h
    rw [cmp_eq _] at ho
    simp [Builtin.max_, Builtin.max2, ho]
  · rw [cmp_gt h] at ho
    simp [Builtin.max_, Builtin.max2, ho, show max a b = a by omega]
end Go.Proofs.FLN

set_option linter.unusedVariables false
set_option linter.unusedSimpArgs false
/- Two weights in one; Weight of a graph without directions. -/
namespace Go.Proofs.YtfkmpnpliadohaaGreat.R
open Go.RowKit Go.Lab Go.Maps Go.Proofs.YtfkmpnpliadohaaGreatW.PrintWords Go.Proofs.YtfkmpnpliadohaaGreatW.PrintLast Go.Proofs.YtfkmpnpliadohaaGreatW.PrintMore PL

abbrev fI (n : Int) : Nat := floatOfInt .f64 n

theorem run_add_fl (a b : Int) (ha : a.natAbs < 9007199254740992) (hb : b.natAbs < 9007199254740992) (hab : (a + b).natAbs < 9007199254740992) (w : World) :
    (binOp .add 79 (.float .f64 (fI a)) (.float .f64 (fI b))).run Tryz.prog w = .ok (.float .f64 (fI (a + b))) w := by
  have h := FLN.add_fl a b ha hb hab
  have h2 : FloatKind.f64.format.add (fI a) (fI b) = some (fI (a + b)) := h
  simp [binOp, run_underlying Tryz.underlying79, Op.floatArith, h2]

theorem merge_any (hb : Nat) (how a b : Int) (e1 e2 : Value) (w : World) (hc : w.cell? ⟨hb, 0, none⟩ = some (.int .i64 how)) (hhow : 0 ≤ how ∧ how ≤ 2) (ha : -1099511627776 ≤ a ∧ a ≤ 1099511627776) (hb' : -1099511627776 ≤ b ∧ b ≤ 1099511627776) :
    Calls Tryz.prog 50 #[.float .f64 (fI a), .float .f64 (fI b), e1, e2, .pointer (some ⟨hb, 0, none⟩)] w fun e w' => e = .returned (.float .f64 (fI (mrg how a b))) ∧ w = w' := by
  have hadd := run_add_fl a b (by omega) (by omega) (by omega)
  have hmin := fun (w : World) => FLN.run_min_fl (P := Tryz.prog) w #[79, 79] 79 a b (by omega) (by omega)
  have hmax := fun (w : World) => FLN.run_max_fl (P := Tryz.prog) w #[79, 79] 79 a b (by omega) (by omega)
  have h3 : how = 0 ∨ how = 1 ∨ how = 2 := by omega
  clear ha hb' hhow
  rcases h3 with rfl | rfl | rfl
  · go_enter Tryz.func50, Tryz.ntmps50
    go_wp2
    go_ret
    exact ⟨rfl, rfl⟩
  · go_enter Tryz.func50, Tryz.ntmps50
    go_wp2
    go_ret
    exact ⟨rfl, rfl⟩
  · go_enter Tryz.func50, Tryz.ntmps50
    go_wp2
    go_ret
    exact ⟨rfl, rfl⟩

/-- an arc's weight as a whole number -/
structure NumOk (f : Option (Int × Nat)) (o : Option Int) : Prop where
  eq : f.map (·.2) = o.map fI
  le : ∀ n, o = some n → -1099511627776 ≤ n ∧ n ≤ 1099511627776

theorem WtOk.num {f : Option (Int × Nat)} {o : Option Int} (h : NumOk f o) {x : Nat} {ok : Bool} (hw : WtOk f x ok) : ok = o.isSome ∧ ∀ n, o = some n → x = fI n := by
  obtain ⟨h1, h2⟩ := hw
  have he := h.eq
  cases f with
  | none => cases o with
    | none => exact ⟨h1, fun n hn => by cases hn⟩
    | some n => simp at he
  | some a => cases o with
    | none => simp at he
    | some n =>
      simp at he
      refine ⟨h1, fun m hm => ?_⟩
      injection hm with hm
      subst hm
      rw [h2 a rfl, he]

def mV (hb : Nat) : Value := .func (.func 50) #[] #[.pointer (some ⟨hb, 0, none⟩)]

theorem fn_nil (hb : Nat) (w : World) : (binOp .eql 82 (.func (.func 50) #[] #[.pointer (some ⟨hb, 0, none⟩)]) .nilFunc).run Tryz.prog w = .ok (.bool false) w := by kernel_rfl

/-- what stays while the weight is reckoned -/
structure Kc (w wr : World) (base bp hb ab : Nat) (how : Int) (p : Pl) : Prop where
  pl : PlOk wr base bp p
  k0 : wr.cell? ⟨w.heap.size, 0, none⟩ = some (.iface 75 (.agg #[.pointer (some ⟨bp, 0, none⟩)]))
  k1 : wr.cell? ⟨w.heap.size, 1, none⟩ = some (.float .f64 ab)
  k2 : wr.cell? ⟨w.heap.size, 2, none⟩ = some (.func (.func 50) #[] #[.pointer (some ⟨hb, 0, none⟩)])
  c : wr.cell? ⟨hb, 0, none⟩ = some (.int .i64 how)
  bel : Below w.heap.size w wr
  lt : w.heap.size < wr.heap.size

theorem Kc.made {w : World} {base bp hb ab : Nat} {how : Int} {p : Pl} (h : PlOk w base bp p) (hc : w.cell? ⟨hb, 0, none⟩ = some (.int .i64 how)) :
    Kc w (w.alloc (.cells #[Value.iface 75 (.agg #[.pointer (some ⟨bp, 0, none⟩)]), .float .f64 ab, .func (.func 50) #[] #[.pointer (some ⟨hb, 0, none⟩)]] 86)) base bp hb ab how p := by
  have hb1 : Below w.heap.size w (w.alloc (.cells #[Value.iface 75 (.agg #[.pointer (some ⟨bp, 0, none⟩)]), .float .f64 ab, .func (.func 50) #[] #[.pointer (some ⟨hb, 0, none⟩)]] 86)) := (Below.refl _ _).alloc (Nat.le_refl _) _
  exact ⟨h.below hb1, (blk_cell (heap_alloc_new _ _) 0).trans rfl, (blk_cell (heap_alloc_new _ _) 1).trans rfl, (blk_cell (heap_alloc_new _ _) 2).trans rfl, Lib.cell?_alloc_some _ hc, hb1, by simp⟩

theorem Kc.next {w wr w1 : World} {base bp hb ab : Nat} {how : Int} {p : Pl} (h : Kc w wr base bp hb ab how p) (hb1 : Below wr.heap.size wr w1) : Kc w w1 base bp hb ab how p :=
  ⟨h.pl.below hb1, (hb1.cell (p := ⟨w.heap.size, 0, none⟩) h.lt).trans h.k0, (hb1.cell (p := ⟨w.heap.size, 1, none⟩) h.lt).trans h.k1, (hb1.cell (p := ⟨w.heap.size, 2, none⟩) h.lt).trans h.k2,
    (hb1.cell (p := ⟨hb, 0, none⟩) (World.block_lt_of_cell? _ _ h.c)).trans h.c, h.bel.trans (hb1.mono (Nat.le_of_lt h.lt)), Nat.lt_of_lt_of_le h.lt hb1.size⟩

set_option maxHeartbeats 8000000 in
set_option maxRecDepth 100000 in
theorem uwWeight_any (base bp hb : Nat) (absent how : Int) (p : Pl) (u v : Int) (huv : u ≠ v) (o1 o2 : Option Int) (w : World) (h : PlOk w base bp p) (hs : p.ids.Pairwise (· < ·)) (hg : p.Good) (hc : w.cell? ⟨hb, 0, none⟩ = some (.int .i64 how)) (hhow : 0 ≤ how ∧ how ≤ 2)
    (ha : -1099511627776 ≤ absent ∧ absent ≤ 1099511627776) (h1 : NumOk (p.find u v) o1) (h2 : NumOk (p.find v u) o2) :
    Calls Tryz.prog 52 #[uwV bp (fI absent) (mV hb), .int .i64 u, .int .i64 v] w fun e w' => ∃ ok, e = .returned (.tuple #[.float .f64 (fI (mrg how (o1.getD absent) (o2.getD absent))), .bool ok]) ∧ Below w.heap.size w w' := by
  have K0 := Aside0.mk (Kc.made (ab := fI absent) h hc)
  have HS := Aside0.mk hs
  have HG := Aside0.mk hg
  have HH := Aside0.mk hhow
  have H1 := Aside0.mk h1
  have H2 := Aside0.mk h2
  have HL1 := Aside0.mk (show -1099511627776 ≤ o1.getD absent ∧ o1.getD absent ≤ 1099511627776 by
    cases o1 with
    | none => exact ha
    | some n => exact h1.le n rfl)
  have HL2 := Aside0.mk (show -1099511627776 ≤ o2.getD absent ∧ o2.getD absent ≤ 1099511627776 by
    cases o2 with
    | none => exact ha
    | some n => exact h2.le n rfl)
  have m1 := meth_DEdge ⟨bp, 0, none⟩
  have m2 := nil_D ⟨bp, 0, none⟩ "Edge" (by simp)
  have m3 := meth_DWeight ⟨bp, 0, none⟩
  have m4 := nil_D ⟨bp, 0, none⟩ "Weight" (by simp)
  have m5 := fn_nil hb
  have HN := Aside0.mk huv
  clear h hs hg hc hhow ha h1 h2 huv
  unfold uwV mV
  rcases o1 with _ | n1 <;> rcases o2 with _ | n2
  · go_enter Tryz.func52, Tryz.ntmps52
    go_wp2_with (first
      | (go_at_call 266; refine (edgeD_any base bp p v u _ K1.out.pl HS.out HG.out).mono ?_; rintro e w2 ⟨x2, rfl, hx2, hbel⟩; have K2 := Aside0.mk (K1.out.next hbel); have k0 := K2.out.k0; have k1 := K2.out.k1; have k2 := K2.out.k2; clear hbel hx2)
      | (go_at_call 266; refine (edgeD_any base bp p u v _ K0.out.pl HS.out HG.out).mono ?_; rintro e w1 ⟨x1, rfl, hx1, hbel⟩; have K1 := Aside0.mk (K0.out.next hbel); have k0 := K1.out.k0; have k1 := K1.out.k1; have k2 := K1.out.k2; clear hbel hx1)
      | (go_at_call 271; refine (weightD_any base bp p v u HN.out.symm _ K3.out.pl HS.out HG.out).mono ?_; rintro e w4 ⟨y4, ok, rfl, hx, hbel⟩; obtain ⟨hok, hxn⟩ := WtOk.num H2.out hx; simp only [Option.isSome_none] at hok; subst hok; clear hxn; have K4 := Aside0.mk (K3.out.next hbel); have k0 := K4.out.k0; have k1 := K4.out.k1; have k2 := K4.out.k2; clear hbel)
      | (go_at_call 271; refine (weightD_any base bp p u v HN.out _ K2.out.pl HS.out HG.out).mono ?_; rintro e w3 ⟨y3, ok, rfl, hx, hbel⟩; obtain ⟨hok, hxn⟩ := WtOk.num H1.out hx; simp only [Option.isSome_none] at hok; subst hok; clear hxn; have K3 := Aside0.mk (K2.out.next hbel); have k0 := K3.out.k0; have k1 := K3.out.k1; have k2 := K3.out.k2; clear hbel)
      | (go_at_call 50; refine (merge_any hb how absent absent _ _ _ K4.out.c HH.out HL1.out HL2.out).mono ?_; rintro e w5 ⟨rfl, rfl⟩))
    go_ret2
    exact ⟨_, rfl, K4.out.bel⟩
  · go_enter Tryz.func52, Tryz.ntmps52
    go_wp2_with (first
      | (go_at_call 266; refine (edgeD_any base bp p v u _ K1.out.pl HS.out HG.out).mono ?_; rintro e w2 ⟨x2, rfl, hx2, hbel⟩; have K2 := Aside0.mk (K1.out.next hbel); have k0 := K2.out.k0; have k1 := K2.out.k1; have k2 := K2.out.k2; clear hbel hx2)
      | (go_at_call 266; refine (edgeD_any base bp p u v _ K0.out.pl HS.out HG.out).mono ?_; rintro e w1 ⟨x1, rfl, hx1, hbel⟩; have K1 := Aside0.mk (K0.out.next hbel); have k0 := K1.out.k0; have k1 := K1.out.k1; have k2 := K1.out.k2; clear hbel hx1)
      | (go_at_call 271; refine (weightD_any base bp p v u HN.out.symm _ K3.out.pl HS.out HG.out).mono ?_; rintro e w4 ⟨y4, ok, rfl, hx, hbel⟩; obtain ⟨hok, hxn⟩ := WtOk.num H2.out hx; have hxe := hxn _ rfl; simp only [Option.isSome_some] at hok; subst hok hxe; have K4 := Aside0.mk (K3.out.next hbel); have k0 := K4.out.k0; have k1 := K4.out.k1; have k2 := K4.out.k2; clear hbel)
      | (go_at_call 271; refine (weightD_any base bp p u v HN.out _ K2.out.pl HS.out HG.out).mono ?_; rintro e w3 ⟨y3, ok, rfl, hx, hbel⟩; obtain ⟨hok, hxn⟩ := WtOk.num H1.out hx; simp only [Option.isSome_none] at hok; subst hok; clear hxn; have K3 := Aside0.mk (K2.out.next hbel); have k0 := K3.out.k0; have k1 := K3.out.k1; have k2 := K3.out.k2; clear hbel)
      | (go_at_call 50; refine (merge_any hb how absent n2 _ _ _ K4.out.c HH.out HL1.out HL2.out).mono ?_; rintro e w5 ⟨rfl, rfl⟩))
    go_ret2
    exact ⟨_, rfl, K4.out.bel⟩
  · go_enter Tryz.func52, Tryz.ntmps52
    go_wp2_with (first
      | (go_at_call 266; refine (edgeD_any base bp p v u _ K1.out.pl HS.out HG.out).mono ?_; rintro e w2 ⟨x2, rfl, hx2, hbel⟩; have K2 := Aside0.mk (K1.out.next hbel); have k0 := K2.out.k0; have k1 := K2.out.k1; have k2 := K2.out.k2; clear hbel hx2)
      | (go_at_call 266; refine (edgeD_any base bp p u v _ K0.out.pl HS.out HG.out).mono ?_; rintro e w1 ⟨x1, rfl, hx1, hbel⟩; have K1 := Aside0.mk (K0.out.next hbel); have k0 := K1.out.k0; have k1 := K1.out.k1; have k2 := K1.out.k2; clear hbel hx1)
      | (go_at_call 271; refine (weightD_any base bp p v u HN.out.symm _ K3.out.pl HS.out HG.out).mono ?_; rintro e w4 ⟨y4, ok, rfl, hx, hbel⟩; obtain ⟨hok, hxn⟩ := WtOk.num H2.out hx; simp only [Option.isSome_none] at hok; subst hok; clear hxn; have K4 := Aside0.mk (K3.out.next hbel); have k0 := K4.out.k0; have k1 := K4.out.k1; have k2 := K4.out.k2; clear hbel)
      | (go_at_call 271; refine (weightD_any base bp p u v HN.out _ K2.out.pl HS.out HG.out).mono ?_; rintro e w3 ⟨y3, ok, rfl, hx, hbel⟩; obtain ⟨hok, hxn⟩ := WtOk.num H1.out hx; have hxe := hxn _ rfl; simp only [Option.isSome_some] at hok; subst hok hxe; have K3 := Aside0.mk (K2.out.next hbel); have k0 := K3.out.k0; have k1 := K3.out.k1; have k2 := K3.out.k2; clear hbel)
      | (go_at_call 50; refine (merge_any hb how n1 absent _ _ _ K4.out.c HH.out HL1.out HL2.out).mono ?_; rintro e w5 ⟨rfl, rfl⟩))
    go_ret2
    exact ⟨_, rfl, K4.out.bel⟩
  · go_enter Tryz.func52, Tryz.ntmps52
    go_wp2_with (first
      | (go_at_call 266; refine (edgeD_any base bp p v u _ K1.out.pl HS.out HG.out).mono ?_; rintro e w2 ⟨x2, rfl, hx2, hbel⟩; have K2 := Aside0.mk (K1.out.next hbel); have k0 := K2.out.k0; have k1 := K2.out.k1; have k2 := K2.out.k2; clear hbel hx2)
      | (go_at_call 266; refine (edgeD_any base bp p u v _ K0.out.pl HS.out HG.out).mono ?_; rintro e w1 ⟨x1, rfl, hx1, hbel⟩; have K1 := Aside0.mk (K0.out.next hbel); have k0 := K1.out.k0; have k1 := K1.out.k1; have k2 := K1.out.k2; clear hbel hx1)
      | (go_at_call 271; refine (weightD_any base bp p v u HN.out.symm _ K3.out.pl HS.out HG.out).mono ?_; rintro e w4 ⟨y4, ok, rfl, hx, hbel⟩; obtain ⟨hok, hxn⟩ := WtOk.num H2.out hx; have hxe := hxn _ rfl; simp only [Option.isSome_some] at hok; subst hok hxe; have K4 := Aside0.mk (K3.out.next hbel); have k0 := K4.out.k0; have k1 := K4.out.k1; have k2 := K4.out.k2; clear hbel)
      | (go_at_call 271; refine (weightD_any base bp p u v HN.out _ K2.out.pl HS.out HG.out).mono ?_; rintro e w3 ⟨y3, ok, rfl, hx, hbel⟩; obtain ⟨hok, hxn⟩ := WtOk.num H1.out hx; have hxe := hxn _ rfl; simp only [Option.isSome_some] at hok; subst hok hxe; have K3 := Aside0.mk (K2.out.next hbel); have k0 := K3.out.k0; have k1 := K3.out.k1; have k2 := K3.out.k2; clear hbel)
      | (go_at_call 50; refine (merge_any hb how n1 n2 _ _ _ K4.out.c HH.out HL1.out HL2.out).mono ?_; rintro e w5 ⟨rfl, rfl⟩))
    go_ret2
    exact ⟨_, rfl, K4.out.bel⟩
end Go.Proofs.YtfkmpnpliadohaaGreat.R

set_option linter.unusedVariables false
set_option linter.unusedSimpArgs false
/- What impl.seen holds while it runs. -/
namespace Go.Proofs.YtfkmpnpliadohaaGreat.R
open Go.RowKit Go.Lab Go.Maps Go.Proofs.YtfkmpnpliadohaaGreatW.PrintWords Go.Proofs.YtfkmpnpliadohaaGreatW.PrintLast Go.Proofs.YtfkmpnpliadohaaGreatW.PrintMore PL

def enE (e : S38) : List Value := [.int .i64 e.f0, .int .i64 e.f1, .int .i64 e.f2]
def flE (es : List S38) : List Value := es.flatMap enE
theorem flE_append (a b : List S38) : flE (a ++ b) = flE a ++ flE b := by simp [flE]
theorem flE_length : ∀ es : List S38, (flE es).length = es.length * 3
  | [] => rfl
  | e :: es => by
    have ih := flE_length es
    unfold flE at ih ⊢
    rw [List.flatMap_cons, List.length_append, ih]
    simp [enE]; omega
theorem flE_get : ∀ (es : List S38) (i : Nat) (hi : i < es.length) (j : Nat), j < 3 → (flE es)[i * 3 + j]? = (enE es[i])[j]?
  | e :: es, 0, hi, j, hj => by
    unfold flE
    rw [List.flatMap_cons, List.getElem?_append_left (by simp [enE]; omega)]
    simp
  | e :: es, i + 1, hi, j, hj => by
    have ih := flE_get es i (by simpa using hi) j hj
    unfold flE at ih ⊢
    rw [List.flatMap_cons, List.getElem?_append_right (by simp [enE]; omega), show (i + 1) * 3 + j - (enE e).length = i * 3 + j by simp [enE]; omega, ih]
    simp

/-- the state of seen -/
structure Se (w wr : World) (base bp hb g : Nat) (how : Int) (p : Pl) (vN vE : Value) (N : List Int) (E : List S38) : Prop where
  blk : wr.heap[g]? = some (.cells #[.bool false, vN, vE] 25 (0, 0))
  gl : w.heap.size < g
  ownN : wr.ownsRow w.heap.size 3 1 vN N.length (nums .i64 N)
  ownE : wr.ownsRow w.heap.size 38 3 vE E.length (flE E)
  pl : PlOk wr base bp p
  c : wr.cell? ⟨hb, 0, none⟩ = some (.int .i64 how)
  hbl : hb < w.heap.size
  bpl : bp < w.heap.size
  res : wr.heap[w.heap.size]? = some (.cells #[.bool false, .slice none 0 0, .slice none 0 0] 25 (0, 0))
  bel : Below w.heap.size w wr

section
variable {w wr w1 : World} {base bp hb g : Nat} {how : Int} {p : Pl} {vN vE : Value} {N : List Int} {E : List S38}

theorem Se.below (h : Se w wr base bp hb g how p vN vE N E) (hb1 : Below wr.heap.size wr w1) : Se w w1 base bp hb g how p vN vE N E :=
  ⟨(hb1.block _ (blk_lt h.blk)).trans h.blk, h.gl, pw_own_below h.ownN hb1, pw_own_below h.ownE hb1, h.pl.below hb1, (hb1.cell (p := ⟨hb, 0, none⟩) (World.block_lt_of_cell? _ _ h.c)).trans h.c, h.hbl, h.bpl,
    (hb1.block _ (blk_lt h.res)).trans h.res, h.bel.trans (hb1.mono h.bel.size)⟩

theorem Se.push (h : Se w wr base bp hb g how p vN vE N E) (hPl : PlOk w base bp p) {v' : Value} {e : S38} (hown : w1.ownsRow w.heap.size 38 3 v' (E.length + 1) (flE E ++ enE e)) (hg : wr.grownBy w1 vE.ownBlock) :
    Se w (w1.setCell ⟨g, 2, none⟩ v') base bp hb g how p vN v' N (E ++ [e]) := by
  have hgl := h.gl
  have hne : ∀ {k : Nat} {c : Array Value} {t : TypeId}, wr.heap[k]? = some (.cells c t (0,0)) → t ≠ 38 → w1.heap[k]? = wr.heap[k]? := by
    intro k c t hk he
    refine hg.block k (blk_lt hk) (fun hc => ?_)
    obtain ⟨c', hc'⟩ := own_block h.ownE hc.symm
    exact he (blk_type hk hc')
  have hg1 : w1.heap[g]? = some (.cells #[.bool false, vN, vE] 25 (0, 0)) := (hne h.blk (by decide)).trans h.blk
  have hlow : ∀ k, k < w.heap.size → (w1.setCell ⟨g, 2, none⟩ v').heap[k]? = w.heap[k]? := by
    intro k hk
    rw [Below.heap_setCell _ _ _ _ (by simp; omega)]
    have h1 := h.bel.block k hk
    rw [← h1]
    refine hg.block k (Nat.lt_of_lt_of_le hk h.bel.size) (fun hc => ?_)
    have := own_base h.ownE k hc.symm
    omega
  have hbel : Below w.heap.size w (w1.setCell ⟨g, 2, none⟩ v') := (h.bel.grown hg h.bel.size (fun k hk => own_base h.ownE k hk)).setCell (by simp; omega) _
  refine ⟨?_, h.gl, ?_, ?_, hPl.below hbel, ?_, h.hbl, h.bpl, ?_, hbel⟩
  · have := blk_set hg1 2 v'
    simpa using this
  · refine own_of_heap h.ownN (fun k hk => ?_)
    obtain ⟨c, hc⟩ := own_block h.ownN hk
    rw [Below.heap_setCell _ _ _ _ (by rintro rfl; exact absurd (blk_type hc h.blk) (by decide))]
    exact hne hc (by decide)
  · have h3 : w1.ownsRow w.heap.size 38 3 v' (E ++ [e]).length (flE (E ++ [e])) := by
      rw [flE_append]
      have : flE [e] = enE e := by simp [flE]
      rw [this]
      simpa using hown
    refine own_of_heap h3 (fun k hk => ?_)
    obtain ⟨c, hc⟩ := own_block h3 hk
    rw [Below.heap_setCell _ _ _ _ (by rintro rfl; exact absurd (blk_type hc hg1) (by decide))]
  · have := hbel.cell (p := ⟨hb, 0, none⟩) h.hbl
    rw [this]
    exact ((h.bel.cell (p := ⟨hb, 0, none⟩) h.hbl).symm).trans h.c
  · rw [Below.heap_setCell _ _ _ _ (by simp; omega)]
    exact (hne h.res (by decide)).trans h.res

theorem Se.cells (h : Se w wr base bp hb g how p vN vE N E) : wr.cell? ⟨g, 0, none⟩ = some (.bool false) ∧ wr.cell? ⟨g, 1, none⟩ = some vN ∧ wr.cell? ⟨g, 2, none⟩ = some vE ∧ wr.frozen? ⟨g, 2, none⟩ = false ∧ g < wr.heap.size := by
  refine ⟨?_, ?_, ?_, blk_frozen h.blk _, blk_lt h.blk⟩
  all_goals rw [blk_cell h.blk]; rfl
end

set_option maxHeartbeats 2000000 in
theorem oneWay_any (d : Bool) (A1 A2 : Option Addr) (c1 c2 : Nat) (zs : List Int) (es : List S38) (w : World)
    (hN : Kd.C (Kd.int .i64) w A1 zs.length zs) (hE : Kd.C k38 w A2 es.length es) (hn : zs.length ≤ 1000) (he : es.length ≤ 1000000) :
    Calls Tryz.prog 48 #[.agg #[.bool d, .slice A1 zs.length c1, .slice A2 es.length c2]] w fun e w' => ∃ base bp, e = .returned (.tuple #[.agg #[.pointer (some ⟨bp, 0, none⟩)], .bool (readOk zs es && d)]) ∧ Below w.heap.size w w' ∧ (readOk zs es = true → PlOk w' base bp (plOf d zs es)) := by
  have hb1 : Below w.heap.size w ((w.alloc (.cells #[.bool d, .slice A1 zs.length c1, .slice A2 es.length c2] 25)).alloc (.cells #[.pointer none] 75)) := ((Below.refl _ _).alloc (Nat.le_refl _) _).alloc (by simp) _
  have HN := Aside0.mk (Kd.C_below hN hb1)
  have HE := Aside0.mk (Kd.C_below hE hb1)
  have HB := Aside0.mk hb1
  clear hN hE hb1
  obtain ⟨rb, hrb⟩ : ∃ rb, readOk zs es = rb := ⟨_, rfl⟩
  rw [hrb]
  have HRB := Aside0.mk hrb
  clear hrb
  go_enter Tryz.func48, Tryz.ntmps48
  go_wp2_with (go_at_call 103; refine (read_any d A1 A2 c1 c2 zs es _ HN.out HE.out hn he).mono ?_; rintro e w1 ⟨rfl, hbel, hpl⟩; rw [HRB.out] at hpl ⊢; have HR := Aside0.mk (And.intro hbel hpl); have HRO := Aside0.mk hpl; clear hpl)
  have hz : ((w.alloc (.cells #[.bool d, .slice A1 zs.length c1, .slice A2 es.length c2] 25)).alloc (.cells #[.pointer none] 75)).heap.size = w.heap.size + 2 := by simp
  have hk0 : ((w.alloc (.cells #[.bool d, .slice A1 zs.length c1, .slice A2 es.length c2] 25)).alloc (.cells #[.pointer none] 75)).heap[w.heap.size]? = some (.cells #[.bool d, .slice A1 zs.length c1, .slice A2 es.length c2] 25 (0, 0)) :=
    (((Below.refl _ (w.alloc (.cells #[.bool d, .slice A1 zs.length c1, .slice A2 es.length c2] 25))).alloc (Nat.le_refl _) _).block _ (by simp)).trans (heap_alloc_new _ _)
  have hk1 : ((w.alloc (.cells #[.bool d, .slice A1 zs.length c1, .slice A2 es.length c2] 25)).alloc (.cells #[.pointer none] 75)).heap[w.heap.size + 1]? = some (.cells #[.pointer none] 75 (0, 0)) := by
    have := heap_alloc_new (w.alloc (.cells #[.bool d, .slice A1 zs.length c1, .slice A2 es.length c2] 25)) (.cells #[.pointer none] 75)
    simpa using this
  replace hk0 := (hbel.block w.heap.size (by simp; omega)).trans hk0
  replace hk1 := (hbel.block (w.heap.size + 1) (by simp)).trans hk1
  have hc0 : w1.cell? ⟨w.heap.size, 0, none⟩ = some (.bool d) := (blk_cell hk0 0).trans rfl
  have hc1 : w1.cell? ⟨w.heap.size + 1, 0, none⟩ = some (.pointer none) := (blk_cell hk1 0).trans rfl
  have hf1 : w1.frozen? ⟨w.heap.size + 1, 0, none⟩ = false := blk_frozen hk1 0
  have hlt := hbel.size
  rw [hz] at hlt HRO
  have hBB : Below w.heap.size w w1 := HB.out.trans (hbel.mono (by rw [hz]; omega))
  have HX := Aside0.mk (And.intro hBB (And.intro hk1 HRO.out))
  clear hbel hk0 hk1 hz HR HRO hBB
  have hfin : ∀ W : World, W.heap = (w1.setCell ⟨w.heap.size + 1, 0, none⟩ (.pointer (some ⟨w.heap.size + 1 + 1 + 1, 0, none⟩))).heap → W.os = w1.os → W.tape = w1.tape → W.output = w1.output → Below w.heap.size w W ∧ (rb = true → PlOk W (w.heap.size + 2) (w.heap.size + 3) (plOf d zs es)) ∧ W.cell? ⟨w.heap.size + 1, 0, none⟩ = some (.pointer (some ⟨w.heap.size + 1 + 1 + 1, 0, none⟩)) := by
    intro W h1 h2 h3 h4
    have hb2 : Below (w.heap.size + 1) w1 W := ⟨h2, h3, h4, by rw [h1]; simp [World.setCell], fun k hk => by rw [h1]; exact Below.heap_setCell _ _ _ _ (by simp; omega)⟩
    refine ⟨HX.out.1.trans (hb2.mono (by omega)), fun hr => ?_, ?_⟩
    · obtain ⟨ro, ri, vi, vo, vn, hp⟩ := HX.out.2.2 hr
      have hkk : ∀ k, w.heap.size + 2 ≤ k → W.heap[k]? = w1.heap[k]? := fun k hk => by rw [h1]; exact Below.heap_setCell _ _ _ _ (by simp; omega)
      have hoo : ∀ {e : TypeId} {size n : Nat} {v : Value} {xs : List Value}, w1.ownsRow (w.heap.size + 2) e size v n xs → W.ownsRow (w.heap.size + 2) e size v n xs := fun h => own_move h fun k hk => hkk k (own_base h k hk)
      exact ⟨ro, ri, vi, vo, vn, ⟨(hkk _ hp.hb).trans hp.blk, hp.hb, hoo hp.ids, ⟨hoo hp.rows.a, hoo hp.rows.b, hp.rows.la, hp.rows.lb, fun i hi => hoo (hp.rows.rowA i hi), fun i hi => hoo (hp.rows.rowB i hi), hp.rows.sepT, hp.rows.sepA, hp.rows.sepB, hp.rows.sepAB⟩, hp.po, hp.pi⟩⟩
    · have := blk_set HX.out.2.1 0 (.pointer (some ⟨w.heap.size + 1 + 1 + 1, 0, none⟩))
      rw [World.cell?_of_block (w := w1.setCell ⟨w.heap.size + 1, 0, none⟩ (.pointer (some ⟨w.heap.size + 1 + 1 + 1, 0, none⟩))) (by rw [h1]), blk_cell this]
      rfl
  have HFIN := Aside0.mk hfin
  clear hfin
  cases rb <;> cases d
  all_goals
    go_region
  all_goals
    go_wp2
    obtain ⟨hf1, hf2, hf3⟩ := HFIN.out (World.drew (w1.setCell ⟨w.heap.size + 1, 0, none⟩ (.pointer (some ⟨w.heap.size + 1 + 1 + 1, 0, none⟩)))) rfl rfl rfl rfl
    refine bodyPost_ret (v := .tuple #[.agg #[.pointer (some ⟨w.heap.size + 1 + 1 + 1, 0, none⟩)], .bool _]) (by simp [results, Tryz.results48, go_sem, *]) rfl ⟨w.heap.size + 2, w.heap.size + 3, rfl, hf1, by first | exact hf2 | exact hf2 trivial | exact hf2 rfl | trivial | simp⟩
end Go.Proofs.YtfkmpnpliadohaaGreat.R

set_option linter.unusedVariables false
set_option linter.unusedSimpArgs false
/- impl.seen over a graph without directions. -/
namespace Go.Proofs.YtfkmpnpliadohaaGreat.R
open Go.RowKit Go.Lab Go.Maps Go.Proofs.YtfkmpnpliadohaaGreatW.PrintWords Go.Proofs.YtfkmpnpliadohaaGreatW.PrintLast Go.Proofs.YtfkmpnpliadohaaGreatW.PrintMore PL

theorem meth_UNodes (bp ab hb : Nat) (w : World) : (method 487 86 (.agg #[.iface 75 (.agg #[.pointer (some ⟨bp, 0, none⟩)]), .float .f64 ab, .func (.func 50) #[] #[.pointer (some ⟨hb, 0, none⟩)]]) "Nodes").run Tryz.prog w = .ok (286, .agg #[.iface 75 (.agg #[.pointer (some ⟨bp, 0, none⟩)]), .float .f64 ab, .func (.func 50) #[] #[.pointer (some ⟨hb, 0, none⟩)]]) w := by kernel_rfl
theorem meth_UFrom (bp ab hb : Nat) (w : World) : (method 487 86 (.agg #[.iface 75 (.agg #[.pointer (some ⟨bp, 0, none⟩)]), .float .f64 ab, .func (.func 50) #[] #[.pointer (some ⟨hb, 0, none⟩)]]) "From").run Tryz.prog w = .ok (283, .agg #[.iface 75 (.agg #[.pointer (some ⟨bp, 0, none⟩)]), .float .f64 ab, .func (.func 50) #[] #[.pointer (some ⟨hb, 0, none⟩)]]) w := by kernel_rfl
theorem fn_nil2 (bp ab hb : Nat) (w : World) : (binOp .neq 88 (.func (.func 52) #[.agg #[.iface 75 (.agg #[.pointer (some ⟨bp, 0, none⟩)]), .float .f64 ab, .func (.func 50) #[] #[.pointer (some ⟨hb, 0, none⟩)]]] #[]) .nilFunc).run Tryz.prog w = .ok (.bool true) w := by kernel_rfl

theorem srt_id {l : List Int} (h : l.Pairwise (· < ·)) : srt l = l := int_ext (srt_lt (lt_nodup h)) h fun x => mem_srt l x

theorem Tryz.info38 : (Tryz.prog.info? 38).map (fun i => (i.zero, i.size, i.bytes)) = some (some (.agg #[.int .i64 0, .int .i64 0, .int .i64 0]), 3, 24) := by kernel_rfl

theorem run_toInt (n : Int) (h : n.natAbs < 9007199254740992) (w : World) : (Go.convert 79 3 (.float .f64 (fI n))).run Tryz.prog w = .ok (.int .i64 n) w := by
  exact run_convert_float_int w 79 3 .f64 .i64 (fI n) n (by rw [Tryz.underlying79]; rfl) Tryz.underlying3 (FLN.toInt_fl n h)

/-- what seen is handed -/
structure SeenOk (w : World) (base bp hb : Nat) (absent how : Int) (zs : List Int) (es : List S38) (p : Pl) : Prop where
  pl : PlOk w base bp p
  c : w.cell? ⟨hb, 0, none⟩ = some (.int .i64 how)
  how : 0 ≤ how ∧ how ≤ 2
  ab : -1099511627776 ≤ absent ∧ absent ≤ 1099511627776
  zl : zs.length ≤ 1000
  ss : (srt zs).Pairwise (· < ·)
  ok : es.all (goodE zs) = true
  adj : Adj zs es p
  good : p.Good
  wf : ∀ x ∈ zs, (Lit.int .i64 x).wf = true

section
variable {w wr : World} {base bp hb : Nat} {absent how : Int} {zs : List Int} {es : List S38} {p : Pl}

theorem SeenOk.ids (h : SeenOk w base bp hb absent how zs es p) : p.ids = srt zs := h.adj.ids
theorem SeenOk.hs (h : SeenOk w base bp hb absent how zs es p) : p.ids.Pairwise (· < ·) := by rw [h.ids]; exact h.ss
theorem SeenOk.hwf (h : SeenOk w base bp hb absent how zs es p) : ∀ x ∈ p.ids, (Lit.int .i64 x).wf = true := by
  rw [h.ids]; exact fun x hx => h.wf x ((mem_srt _ _).1 hx)
theorem SeenOk.len (h : SeenOk w base bp hb absent how zs es p) : p.ids.length ≤ 1000 := h.good.n
theorem SeenOk.num (h : SeenOk w base bp hb absent how zs es p) {u v : Int} (hu : u ∈ srt zs) (hv : v ∈ srt zs) : NumOk (p.find u v) (arcW es u v) := by
  rw [h.adj.find h.good h.ss hu hv]
  refine ⟨?_, fun n hn => arcW_le h.ok hn⟩
  cases arcW es u v <;> rfl
theorem SeenOk.nbq (h : SeenOk w base bp hb absent how zs es p) {u : Int} (hu : u ∈ srt zs) : srt (both (endsN p.ids (p.out.getD (rank p.ids u) [])) (endsN p.ids (p.inn.getD (rank p.ids u) []))) = nbs zs es u := by
  have h1 : endsN p.ids (p.out.getD (rank p.ids u) []) = outN zs es u := h.adj.outN h.good h.ss hu
  have h2 : endsN p.ids (p.inn.getD (rank p.ids u) []) = innN zs es u := h.adj.innN h.good h.ss hu
  rw [h1, h2]; rfl
theorem SeenOk.lx (h : SeenOk w base bp hb absent how zs es p) (u : Int) : (endsN p.ids (p.out.getD (rank p.ids u) [])).length ≤ 1000 := by rw [endsN_length]; exact Nat.le_trans (h.good.out _).len h.len
theorem SeenOk.ly (h : SeenOk w base bp hb absent how zs es p) (u : Int) : (endsN p.ids (p.inn.getD (rank p.ids u) [])).length ≤ 1000 := by rw [endsN_length]; exact Nat.le_trans (h.good.inn _).len h.len
theorem SeenOk.wy (h : SeenOk w base bp hb absent how zs es p) (u : Int) : ∀ y ∈ endsN p.ids (p.inn.getD (rank p.ids u) []), (Lit.int .i64 y).wf = true := fun y hy => h.hwf y (endsN_mem (h.good.inn _).2 hy)
theorem SeenOk.lb (h : SeenOk w base bp hb absent how zs es p) (u : Int) : (both (endsN p.ids (p.out.getD (rank p.ids u) [])) (endsN p.ids (p.inn.getD (rank p.ids u) []))).length ≤ 2000 := by
  unfold both
  rw [List.length_append]
  have h1 := h.lx u
  have h2 := h.ly u
  have h3 := List.length_filter_le (fun v => !decide (v ∈ endsN p.ids (p.out.getD (rank p.ids u) []))) (endsN p.ids (p.inn.getD (rank p.ids u) []))
  omega
theorem nbs_mem (hs : (srt zs).Pairwise (· < ·)) {u v : Int} (hv : v ∈ nbs zs es u) : v ∈ srt zs ∧ ((arcW es u v).isSome || (arcW es v u).isSome) = true := by
  rw [nbs_eq hs] at hv
  exact List.mem_filter.1 hv
theorem SeenOk.ne (h : SeenOk w base bp hb absent how zs es p) {u v : Int} (hv : v ∈ nbs zs es u) : u ≠ v := by
  rintro rfl
  have := (nbs_mem h.ss hv).2
  rw [arcW_self h.ok] at this
  simp at this
theorem nbs_len (hs : (srt zs).Pairwise (· < ·)) (u : Int) (hl : zs.length ≤ 1000) : (nbs zs es u).length ≤ 1000 := by
  rw [nbs_eq hs]
  exact Nat.le_trans (List.length_filter_le _ _) (by rw [srt_length]; exact hl)
end

/-- the edges of u to the first nodes of a list -/
def partR (wt : Int → Int → Int) (u : Int) (l : List Int) : List S38 := (l.filter fun v => !decide (v < u)).map fun v => ⟨u, v, wt u v⟩
theorem partR_skip (wt : Int → Int → Int) (u : Int) (l : List Int) (q : Nat) (hq : q < l.length) (h : l[q] < u) : partR wt u (l.take (q + 1)) = partR wt u (l.take q) := by
  unfold partR
  rw [List.take_succ_eq_append_getElem hq, List.filter_append]
  simp [h]
theorem partR_add (wt : Int → Int → Int) (u : Int) (l : List Int) (q : Nat) (hq : q < l.length) (h : ¬ l[q] < u) : partR wt u (l.take (q + 1)) = partR wt u (l.take q) ++ [⟨u, l[q], wt u l[q]⟩] := by
  unfold partR
  rw [List.take_succ_eq_append_getElem hq, List.filter_append, List.map_append]
  congr 1
  simp [h]
theorem seenE_step (N : List Int) (nb : Int → List Int) (wt : Int → Int → Int) (k : Nat) (hk : k < N.length) : seenE (N.take (k + 1)) nb wt = seenE (N.take k) nb wt ++ partR wt N[k] (nb N[k]) := by
  unfold seenE
  rw [List.take_succ_eq_append_getElem hk, List.flatMap_append]
  congr 1
  simp [seenR, partR]

set_option maxHeartbeats 16000000 in
set_option maxRecDepth 100000 in
theorem seen_any (base bp hb : Nat) (absent how : Int) (zs : List Int) (es : List S38) (p : Pl) (w : World) (h : SeenOk w base bp hb absent how zs es p) :
    Calls Tryz.prog 51 #[.iface 86 (uwV bp (fI absent) (mV hb)), .bool false, .func (.func 52) #[uwV bp (fI absent) (mV hb)] #[]] w fun e w' => ∃ vN vE, e = .returned (.agg #[.bool false, vN, vE]) ∧ w'.ownsRow w.heap.size 3 1 vN (srt zs).length (nums .i64 (srt zs)) ∧
      w'.ownsRow w.heap.size 38 3 vE (seenE (srt zs) (nbs zs es) (undV es absent how)).length (flE (seenE (srt zs) (nbs zs es) (undV es absent how))) ∧ Below w.heap.size w w' := by
  have HO := Aside0.mk h
  have m1 := meth_UNodes bp (fI absent) hb
  have m2 := meth_UFrom bp (fI absent) hb
  have m3 := fn_nil2 bp (fI absent) hb
  obtain ⟨i0, hi, hz0, hz1, hz2⟩ := info_parts Tryz.info38
  have HI := Aside0.mk (And.intro hi (And.intro hz0 (And.intro hz1 hz2)))
  have hb1 : Below w.heap.size w (w.alloc (.cells #[.bool false, .slice none 0 0, .slice none 0 0] 25)) := (Below.refl _ _).alloc (Nat.le_refl _) _
  have HB1 := Aside0.mk hb1
  have HP1 := Aside0.mk (h.pl.below hb1)
  have hlen := h.len
  clear h hi hz0 hz1 hz2 hb1
  unfold uwV mV
  go_enter Tryz.func51, Tryz.ntmps51
  go_wp2_with (first
    | (go_at_call 286; refine (uwNodes_any base bp (fI absent) 50 #[.pointer (some ⟨hb, 0, none⟩)] p _ HP1.out hlen).mono ?_; rintro e w1 ⟨b, rfl, hit, hbel⟩; have HN1 := Aside0.mk (And.intro hit hbel); clear hit hbel)
    | (go_at_call 104; refine (iteratedO_any _ b p.ids _ HN1.out.1 (by omega)).mono ?_; rintro e w2 ⟨vN, rfl, hown, hbel⟩; obtain ⟨NA, NC, rfl⟩ := own_slice hown; have HN2 := Aside0.mk (And.intro hown hbel); clear hown hbel))
  have hsz1 : (w.alloc (.cells #[.bool false, .slice none 0 0, .slice none 0 0] 25)).heap.size = w.heap.size + 1 := by simp
  have hbw1 := HN1.out.2.size
  have hbw2 := HN2.out.2.size
  have hB2 : Below w.heap.size w w2 := HB1.out.trans (((HN1.out.2.mono (by rw [hsz1]; omega)).trans (HN2.out.2.mono (by rw [hsz1]; omega))))
  have hBR : Below (w.heap.size + 1) (w.alloc (.cells #[.bool false, .slice none 0 0, .slice none 0 0] 25)) w2 := ((HN1.out.2.mono (by rw [hsz1]; omega)).trans (HN2.out.2.mono (by rw [hsz1]; omega)))
  rw [hsz1] at hbw1
  obtain ⟨g, hg⟩ : ∃ g, g = w2.heap.size := ⟨_, rfl⟩
  have hN : w2.ownsRow w.heap.size 3 1 (.slice NA p.ids.length NC) p.ids.length (nums .i64 p.ids) := by
    have := own_less (base := w.heap.size) HN2.out.1 (by omega)
    rw [srt_id HO.out.hs] at this
    exact this
  have HSE := Aside0.mk (show Se w (w2.alloc (.cells #[.bool false, .slice NA p.ids.length NC, .slice none 0 0] 25)) base bp hb g how p (.slice NA p.ids.length NC) (.slice none 0 0) p.ids [] from
    ⟨by rw [hg]; exact heap_alloc_new _ _, by omega, hN.alloc _, World.ownsRow_nil _ _ _ _, HO.out.pl.below (hB2.alloc (by omega) _),
      ((hB2.alloc (by omega) _).cell (p := ⟨hb, 0, none⟩) (World.block_lt_of_cell? _ _ HO.out.c)).trans HO.out.c, World.block_lt_of_cell? _ _ HO.out.c, HO.out.pl.lt,
      (((hBR.alloc (by omega) _).block w.heap.size (by omega))).trans (heap_alloc_new _ _), hB2.alloc (by omega) _⟩)
  rw [← hg]
  clear hN hB2 hBR HN1 HN2 HB1 HP1 hsz1 hbw1 hbw2 hg
  have HLE := Aside0.mk hlen
  go_loopw [23] (fun i wr => ∃ (k : Nat) (vE : Value) (E : List S38), i = .int .i64 (k : Int) ∧ k ≤ p.ids.length ∧ E = seenE (p.ids.take k) (nbs zs es) (undV es absent how) ∧ E.length ≤ 1000 * k ∧ Aside0 (Se w wr base bp hb g how p (.slice NA p.ids.length NC) vE p.ids E)) (fun i _ => p.ids.length - (intOf i).toNat)
  case atStart => exact ⟨0, _, [], rfl, Nat.zero_le _, rfl, Nat.zero_le _, HSE⟩
  case round =>
    obtain ⟨k, vE, E, rfl, hk, hE, hEl, HS⟩ := hrel
    clear HSE
    have HEQ := Aside0.mk hE
    clear hE
    by_cases hlt : k < p.ids.length
    · obtain ⟨A1, c1, e1, hr⟩ := own_reads HS.out.ownN
      injection e1 with e1 _ e3
      subst e1 e3
      obtain ⟨ad, rfl, hcu⟩ := C_int_at (Kd.C_of_reads hr) k hlt
      have hum : p.ids.getD k 0 ∈ p.ids := by
        rw [List.getD_eq_getElem?_getD, List.getElem?_eq_getElem hlt]; exact List.getElem_mem _
      have hst := seenE_step p.ids (nbs zs es) (undV es absent how) k hlt
      rw [show p.ids[k] = p.ids.getD k 0 by rw [List.getD_eq_getElem?_getD, List.getElem?_eq_getElem hlt]; rfl] at hst
      have HST := Aside0.mk hst
      have HUM := Aside0.mk hum
      clear hr hst hum
      generalize p.ids.getD k 0 = u at hcu HST HUM
      go_wp2_with (first
        | (go_at_call 283; refine (uwFrom_any base bp (fI absent) 50 #[.pointer (some ⟨hb, 0, none⟩)] p u _ HS.out.pl HO.out.hs HO.out.good HUM.out HO.out.hwf).mono ?_; rintro e w3 ⟨b3, rfl, hit, hbel⟩; have HN3 := Aside0.mk (And.intro hit hbel); clear hit hbel)
        | (go_at_call 104; refine (iteratedP_any _ b3 _ _ _ _ _ HN3.out.1 (HO.out.lx u) (HO.out.ly u) (HO.out.wy u) (HO.out.lb u)).mono ?_; rintro e w4 ⟨vI, rfl, hown, hbel⟩; rw [← srt_length (both _ _), HO.out.nbq (HO.out.ids ▸ HUM.out)] at hown; obtain ⟨IA, IC, rfl⟩ := own_slice hown; have HN4 := Aside0.mk (And.intro hown hbel); clear hown hbel))
      have hb34 : Below wr.heap.size wr w4 := HN3.out.2.trans HN4.out.2
      have HI4 := Aside0.mk (And.intro (HS.out.below hb34) (own_less (base := w.heap.size) HN4.out.1 (Nat.le_trans HS.out.bel.size HN3.out.2.size)))
      have hIl := nbs_len (es := es) HO.out.ss u HO.out.zl
      have HUS := Aside0.mk (show u ∈ srt zs from HO.out.ids ▸ HUM.out)
      have HII := Aside0.mk (fun v (hv : v ∈ nbs zs es u) => And.intro (HO.out.ne hv) (nbs_mem HO.out.ss hv).1)
      have HST2 := Aside0.mk (show seenE (p.ids.take (k + 1)) (nbs zs es) (undV es absent how) = E ++ partR (undV es absent how) u (nbs zs es u) by rw [HEQ.out]; exact HST.out)
      clear HN3 HN4 HS hb34 HST HEQ
      generalize hIe : nbs zs es u = I at *
      clear hIe
      go_loopw [32] (fun j wr => ∃ (q : Nat) (vE' : Value) (E' : List S38), j = .int .i64 (q : Int) ∧ q ≤ I.length ∧ E'.length ≤ 1000 * k + q ∧ Aside0 (E' = E ++ partR (undV es absent how) u (I.take q) ∧ Se w wr base bp hb g how p (.slice (some ad) p.ids.length NC) vE' p.ids E' ∧ wr.ownsRow w.heap.size 3 1 (.slice IA I.length IC) I.length (nums .i64 I))) (fun j _ => I.length - (intOf j).toNat)
      case atStart => exact ⟨0, vE, E, rfl, Nat.zero_le _, hEl, ⟨by simp [partR], HI4.out.1, HI4.out.2⟩⟩
      case round =>
        obtain ⟨q, vE', E', rfl, hq, hEl', HQ⟩ := hrel
        clear HI4
        by_cases hqt : q < I.length
        · obtain ⟨A1, c1, e1, hr⟩ := own_reads HQ.out.2.2
          injection e1 with e1 _ e3
          subst e1 e3
          obtain ⟨ad2, rfl, hcv⟩ := C_int_at (Kd.C_of_reads hr) q hqt
          have hvm : I.getD q 0 ∈ I := by
            rw [List.getD_eq_getElem?_getD, List.getElem?_eq_getElem hqt]; exact List.getElem_mem _
          have hge : I[q] = I.getD q 0 := by rw [List.getD_eq_getElem?_getD, List.getElem?_eq_getElem hqt]; rfl
          have HV := Aside0.mk (HII.out _ hvm)
          have HSK := Aside0.mk (partR_skip (undV es absent how) u I q hqt)
          have HAD := Aside0.mk (partR_add (undV es absent how) u I q hqt)
          rw [hge] at HSK HAD
          clear hr hvm hge
          generalize I.getD q 0 = v at hcv HV HSK HAD
          by_cases hvu : v < u
          · have hd : decide (v < u) = true := decide_eq_true hvu
            go_wp2
            go_roundw
            case rel => exact ⟨q + 1, vE', E', by go_num, by omega, by omega, ⟨by rw [HSK.out hvu]; exact HQ.out.1, HQ.out.2.1, HQ.out.2.2⟩⟩
            case measure => simp [intOf]; omega
          · have hd : decide (v < u) = false := decide_eq_false hvu
            have HAD2 := Aside0.mk (HAD.out hvu)
            have hb7 : Below wr.heap.size wr (wr.alloc (.cells #[.int .i64 u, .int .i64 v, .int .i64 0] 38)) := (Below.refl _ _).alloc (Nat.le_refl _) _
            have HS7 := Aside0.mk (HQ.out.2.1.below hb7)
            go_upto_region 13 with (go_at_call 52; refine (uwWeight_any base bp hb absent how p u v HV.out.1 (arcW es u v) (arcW es v u) _ HS7.out.pl HO.out.hs HO.out.good HS7.out.c HO.out.how HO.out.ab (HO.out.num HUS.out HV.out.2) (HO.out.num HV.out.2 HUS.out)).mono ?_; rintro e w6 ⟨ok, rfl, hbel⟩; have hcv2 := fun (w : World) => run_toInt (mrg how ((arcW es u v).getD absent) ((arcW es v u).getD absent)) (by have := undV_le HO.out.ok HO.out.ab (how := how) u v; unfold undV at this; omega) w; have hk6 := (hbel.block wr.heap.size (by simp)).trans (heap_alloc_new wr (.cells #[.int .i64 u, .int .i64 v, .int .i64 0] 38)); have hf6 : w6.frozen? ⟨wr.heap.size, 2, none⟩ = false := blk_frozen hk6 _; have hc6 : w6.cell? ⟨wr.heap.size, 2, none⟩ = some (.int .i64 0) := (blk_cell hk6 2).trans rfl; have HK6 := Aside0.mk (And.intro hk6 (hb7.trans (hbel.mono (by simp)))); clear hbel hk6)
            obtain ⟨z, hz⟩ : ∃ z, z = mrg how ((arcW es u v).getD absent) ((arcW es v u).getD absent) := ⟨_, rfl⟩
            rw [← hz]
            obtain ⟨w7, hw7⟩ : ∃ w7, w7 = w6.setCell ⟨wr.heap.size, 2, none⟩ (.int .i64 z) := ⟨_, rfl⟩
            rw [← hw7]
            have hk7 : w7.heap[wr.heap.size]? = some (.cells #[.int .i64 u, .int .i64 v, .int .i64 z] 38 (0, 0)) := by
              rw [hw7]
              have := blk_set HK6.out.1 2 (.int .i64 z)
              simpa using this
            have hb77 : Below wr.heap.size wr w7 := by rw [hw7]; exact HK6.out.2.setCell (Nat.le_refl _) _
            have HS8 := Aside0.mk (HQ.out.2.1.below hb77)
            have HV8 := Aside0.mk (pw_own_below HQ.out.2.2 hb77)
            have HZ := Aside0.mk (show undV es absent how u v = z from hz.symm)
            obtain ⟨g0, g1, g2, gf, gl⟩ := HS8.out.cells
            have e0 : w7.cell? ⟨wr.heap.size, 0, none⟩ = some (.int .i64 u) := (blk_cell hk7 0).trans rfl
            have e1 : w7.cell? ⟨wr.heap.size, 1, none⟩ = some (.int .i64 v) := (blk_cell hk7 1).trans rfl
            have e2 : w7.cell? ⟨wr.heap.size, 2, none⟩ = some (.int .i64 z) := (blk_cell hk7 2).trans rfl
            have hs7 := Nat.le_trans HQ.out.2.1.bel.size hb77.size
            clear hz hw7 hc6 hf6 hcv2 hk7 HK6 HS7 hb7 hb77 hcv hcu
            obtain ⟨EA, EC, rfl⟩ := own_slice HS8.out.ownE
            go_wp2_with (at_builtin; refine wpList_append_own _ rfl _ _ 23 rfl w.heap.size 38 i0 (.agg #[.int .i64 0, .int .i64 0, .int .i64 0]) 3 24 Tryz.underlying23 HI.out.1 HI.out.2.1 HI.out.2.2.1 HI.out.2.2.2 rfl (by decide) _ E'.length (flE E') rfl (World.ownsRow.alloc HS8.out.ownE _) ⟨w7.heap.size, 0, none⟩ 1 1 [.int .i64 u, .int .i64 v, .int .i64 z] rfl rfl ?q1 ?q2 ?q3 ?q4 ?q5 ?_)
            case q1 =>
              intro j x hx
              rw [add_plain, cell_of_row _ _ _ _ _ _ (heap_alloc_new _ _)]
              simpa using hx
            case q2 => intro x hx; simp at hx; rcases hx with rfl | rfl | rfl <;> rfl
            case q3 => unfold maxLen; omega
            case q4 => omega
            case q5 => simp; omega
            intro v' w9 hown hgr _
            obtain ⟨EA2, EC2, rfl⟩ := own_slice hown
            have hgg := (World.grownBy_alloc w7 _ _).trans hgr
            have HPU := Aside0.mk (HS8.out.push (e := ⟨u, v, z⟩) HO.out.pl hown hgg)
            have hgb : w9.heap[g]? = w7.heap[g]? := hgg.block g gl (fun hc => by
              obtain ⟨c', hc'⟩ := own_block HS8.out.ownE hc.symm
              exact absurd (blk_type HS8.out.blk hc') (by decide))
            have g2' : w9.cell? ⟨g, 2, none⟩ = some (.slice EA E'.length EC) := by rw [World.cell?_of_block (a := ⟨g, 2, none⟩) hgb]; exact g2
            have gf' : w9.frozen? ⟨g, 2, none⟩ = false := by rw [World.frozen?_of_block (a := ⟨g, 2, none⟩) hgb]; exact gf
            have HV9 := Aside0.mk (show (w9.setCell ⟨g, 2, none⟩ (.slice EA2 (E'.length + 1) EC2)).ownsRow w.heap.size 3 1 (.slice (some ad2) I.length IC) I.length (nums .i64 I) from by
              refine own_move HV8.out fun k hk => ?_
              obtain ⟨c, hc⟩ := own_block HV8.out hk
              rw [Below.heap_setCell _ _ _ _ (by rintro rfl; exact absurd (blk_type hc HS8.out.blk) (by decide))]
              exact hgg.block k (blk_lt hc) (fun hh => by
                obtain ⟨c', hc'⟩ := own_block HS8.out.ownE hh.symm
                exact absurd (blk_type hc hc') (by decide)))
            clear hown hgr hgg hgb g0 g1 g2 gf e0 e1 e2
            go_wp2
            go_roundw
            case rel => exact ⟨q + 1, _, E' ++ [⟨u, v, z⟩], by go_num, by omega, by rw [List.length_append]; simp; omega, ⟨by rw [HAD2.out, HZ.out, ← List.append_assoc, ← HQ.out.1], HPU.out, HV9.out⟩⟩
            case measure => simp [intOf]; omega
        · obtain rfl : q = I.length := by omega
          have hfin := HQ.out.1
          rw [List.take_length, ← HST2.out] at hfin
          have HFN := Aside0.mk hfin
          clear hfin
          go_wp2
          go_roundw
          case rel => exact ⟨k + 1, vE', E', by go_num, by omega, HFN.out, by omega, ⟨HQ.out.2.1⟩⟩
          case measure => simp [intOf]; omega
    · obtain rfl : k = p.ids.length := by omega
      have hfin := HEQ.out
      rw [List.take_length, HO.out.ids] at hfin
      have HFN := Aside0.mk hfin
      obtain ⟨g0, g1, g2, gf, gl⟩ := HS.out.cells
      have hr0 : wr.cell? ⟨w.heap.size, 0, none⟩ = some (.bool false) := (blk_cell HS.out.res 0).trans rfl
      have hr1 : wr.cell? ⟨w.heap.size, 1, none⟩ = some (.slice none 0 0) := (blk_cell HS.out.res 1).trans rfl
      have hr2 : wr.cell? ⟨w.heap.size, 2, none⟩ = some (.slice none 0 0) := (blk_cell HS.out.res 2).trans rfl
      have hrf : ∀ k, wr.frozen? ⟨w.heap.size, k, none⟩ = false := fun k => blk_frozen HS.out.res k
      have hrf0 := hrf 0
      have hrf1 := hrf 1
      have hrf2 := hrf 2
      clear hfin hrf
      obtain ⟨EA, EC, rfl⟩ := own_slice HS.out.ownE
      obtain ⟨W, hW⟩ : ∃ W, W = ((wr.setCell ⟨w.heap.size, 0, none⟩ (.bool false)).setCell ⟨w.heap.size, 1, none⟩ (.slice NA p.ids.length NC)).setCell ⟨w.heap.size, 2, none⟩ (.slice EA E.length EC) := ⟨_, rfl⟩
      have hWk : ∀ k, k ≠ w.heap.size → W.heap[k]? = wr.heap[k]? := fun k hk => by
        rw [hW, Below.heap_setCell _ _ _ _ (by simpa using hk), Below.heap_setCell _ _ _ _ (by simpa using hk), Below.heap_setCell _ _ _ _ (by simpa using hk)]
      have hW3 := blk_set (blk_set (blk_set HS.out.res 0 (.bool false)) 1 (.slice NA p.ids.length NC)) 2 (.slice EA E.length EC)
      rw [← hW] at hW3
      have hwb : Below w.heap.size w W := by
        rw [hW]
        exact ((HS.out.bel.setCell (Nat.le_refl _) _).setCell (Nat.le_refl _) _).setCell (Nat.le_refl _) _
      have hWN := own_move (w1 := W) HS.out.ownN fun k hk => hWk k (by
        rintro rfl
        obtain ⟨c, hc⟩ := own_block HS.out.ownN hk
        exact absurd (blk_type hc HS.out.res) (by decide))
      have hWE := own_move (w1 := W) HS.out.ownE fun k hk => hWk k (by
        rintro rfl
        obtain ⟨c, hc⟩ := own_block HS.out.ownE hk
        exact absurd (blk_type hc HS.out.res) (by decide))
      have HEND := Aside0.mk (And.intro hWN (And.intro hWE hwb))
      have r0 : W.cell? ⟨w.heap.size, 0, none⟩ = some (.bool false) := (blk_cell hW3 0).trans rfl
      have r1 : W.cell? ⟨w.heap.size, 1, none⟩ = some (.slice NA p.ids.length NC) := (blk_cell hW3 1).trans rfl
      have r2 : W.cell? ⟨w.heap.size, 2, none⟩ = some (.slice EA E.length EC) := (blk_cell hW3 2).trans rfl
      have HHW := Aside0.mk hW
      clear hWk hW3 hwb hWN hWE hW
      go_wp2
      rw [← HHW.out]
      refine bodyPost_ret (v := .agg #[.bool false, .slice NA p.ids.length NC, .slice EA E.length EC]) (by simp [results, Tryz.results51, go_sem, *]) rfl ⟨_, _, rfl, ?_, ?_, HEND.out.2.2⟩
      · have := HEND.out.1; rw [HO.out.ids] at this ⊢; exact this
      · have := HEND.out.2.1; rw [← HFN.out]; exact this
end Go.Proofs.YtfkmpnpliadohaaGreat.R
