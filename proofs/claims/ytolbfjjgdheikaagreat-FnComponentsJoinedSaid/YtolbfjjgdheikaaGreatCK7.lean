import Derived.Test.YtolbfjjgdheikaaGreatCB3
import Derived.Test.YtolbfjjgdheikaaGreatCK5
import Derived.Test.YtolbfjjgdheikaaGreatCK6
import Derived.Test.YtolbfjjgdheikaaGreatCB2
set_option linter.unusedVariables false
set_option linter.unusedSimpArgs false
/- bothWays: an undirected graph is opened. -/
namespace Go.Proofs.YtolbfjjgdheikaaGreat.R
open Go.RowKit Go.Lab Go.Maps Go.Proofs.YtolbfjjgdheikaaGreatW.PrintWords Go.Proofs.YtolbfjjgdheikaaGreatW.PrintLast Go.Proofs.YtolbfjjgdheikaaGreatW.PrintMore PL

set_option maxHeartbeats 2000000 in
theorem bothWays_any (d : Bool) (A1 A2 : Option Addr) (c1 c2 : Nat) (zs : List Int) (es : List S34) (w : World)
    (hN : Kd.C (Kd.int .i64) w A1 zs.length zs) (hE : Kd.C k34 w A2 es.length es) (hn : zs.length ≤ 1000) (he : es.length ≤ 1000000) :
    Calls Tryz.prog 27 #[.agg #[.bool d, .slice A1 zs.length c1, .slice A2 es.length c2]] w fun e w' => ∃ base bp, e = .returned (.tuple #[.agg #[.pointer (some ⟨bp, 0, none⟩)], .bool (readOk zs es && !d)]) ∧ Below w.heap.size w w' ∧ (readOk zs es = true → PlOk w' base bp (plOf d zs es)) := by
  have hb1 : Below w.heap.size w ((w.alloc (.cells #[.bool d, .slice A1 zs.length c1, .slice A2 es.length c2] 25)).alloc (.cells #[.pointer none] 56)) := ((Below.refl _ _).alloc (Nat.le_refl _) _).alloc (by simp) _
  have HN := Aside0.mk (Kd.C_below hN hb1)
  have HE := Aside0.mk (Kd.C_below hE hb1)
  have HB := Aside0.mk hb1
  clear hN hE hb1
  obtain ⟨rb, hrb⟩ : ∃ rb, readOk zs es = rb := ⟨_, rfl⟩
  rw [hrb]
  have HRB := Aside0.mk hrb
  clear hrb
  go_enter Tryz.func27, Tryz.ntmps27
  go_wp2_with (go_at_call 52; refine (read_any2 d A1 A2 c1 c2 zs es _ HN.out HE.out hn he).mono ?_; rintro e w1 ⟨rfl, hbel, _, hpl⟩; rw [HRB.out] at hpl ⊢; have HR := Aside0.mk (And.intro hbel hpl); have HRO := Aside0.mk hpl; clear hpl)
  have hz : ((w.alloc (.cells #[.bool d, .slice A1 zs.length c1, .slice A2 es.length c2] 25)).alloc (.cells #[.pointer none] 56)).heap.size = w.heap.size + 2 := by simp
  have hk0 : ((w.alloc (.cells #[.bool d, .slice A1 zs.length c1, .slice A2 es.length c2] 25)).alloc (.cells #[.pointer none] 56)).heap[w.heap.size]? = some (.cells #[.bool d, .slice A1 zs.length c1, .slice A2 es.length c2] 25 (0, 0)) :=
    (((Below.refl _ (w.alloc (.cells #[.bool d, .slice A1 zs.length c1, .slice A2 es.length c2] 25))).alloc (Nat.le_refl _) _).block _ (by simp)).trans (heap_alloc_new _ _)
  have hk1 : ((w.alloc (.cells #[.bool d, .slice A1 zs.length c1, .slice A2 es.length c2] 25)).alloc (.cells #[.pointer none] 56)).heap[w.heap.size + 1]? = some (.cells #[.pointer none] 56 (0, 0)) := by
    have := heap_alloc_new (w.alloc (.cells #[.bool d, .slice A1 zs.length c1, .slice A2 es.length c2] 25)) (.cells #[.pointer none] 56)
    simpa using this
  replace hk0 := (hbel.block w.heap.size (by simp; omega)).trans hk0
  replace hk1 := (hbel.block (w.heap.size + 1) (by simp)).trans hk1
  have hc0 : w1.cell? ⟨w.heap.size, 0, none⟩ = some (.bool d) := (blk_cell hk0 0).trans rfl
  have hc1 : w1.cell? ⟨w.heap.size + 1, 0, none⟩ = some (.pointer none) := (blk_cell hk1 0).trans rfl
  have hf1 : w1.frozen? ⟨w.heap.size + 1, 0, none⟩ = false := blk_frozen hk1 0
  have hlt := hbel.size
  rw [hz] at hlt HRO
  have hBB : Below w.heap.size w w1 := HB.out.trans (hbel.mono (by rw [hz]; omega))
  have HX := Aside0.mk (And.intro hBB (And.intro hk1 HRO.out))
  clear hbel hk0 hk1 hz HR HRO hBB
  have hfin : ∀ W : World, W.heap = (w1.setCell ⟨w.heap.size + 1, 0, none⟩ (.pointer (some ⟨w.heap.size + 1 + 1 + 1, 0, none⟩))).heap → W.os = w1.os → W.tape = w1.tape → W.output = w1.output → Below w.heap.size w W ∧ (rb = true → PlOk W (w.heap.size + 2) (w.heap.size + 3) (plOf d zs es)) ∧ W.cell? ⟨w.heap.size + 1, 0, none⟩ = some (.pointer (some ⟨w.heap.size + 1 + 1 + 1, 0, none⟩)) := by
    intro W h1 h2 h3 h4
    have hb2 : Below (w.heap.size + 1) w1 W := ⟨h2, h3, h4, by rw [h1]; simp [World.setCell], fun k hk => by rw [h1]; exact Below.heap_setCell _ _ _ _ (by simp; omega)⟩
    refine ⟨HX.out.1.trans (hb2.mono (by omega)), fun hr => ?_, ?_⟩
    · obtain ⟨ro, ri, vi, vo, vn, hp⟩ := HX.out.2.2 hr
      have hkk : ∀ k, w.heap.size + 2 ≤ k → W.heap[k]? = w1.heap[k]? := fun k hk => by rw [h1]; exact Below.heap_setCell _ _ _ _ (by simp; omega)
      have hoo : ∀ {e : TypeId} {size n : Nat} {v : Value} {xs : List Value}, w1.ownsRow (w.heap.size + 2) e size v n xs → W.ownsRow (w.heap.size + 2) e size v n xs := fun h => own_move h fun k hk => hkk k (own_base h k hk)
      exact ⟨ro, ri, vi, vo, vn, ⟨(hkk _ hp.hb).trans hp.blk, hp.hb, hoo hp.ids, ⟨hoo hp.rows.a, hoo hp.rows.b, hp.rows.la, hp.rows.lb, fun i hi => hoo (hp.rows.rowA i hi), fun i hi => hoo (hp.rows.rowB i hi), hp.rows.sepT, hp.rows.sepA, hp.rows.sepB, hp.rows.sepAB⟩, hp.po, hp.pi⟩⟩
    · have := blk_set HX.out.2.1 0 (.pointer (some ⟨w.heap.size + 1 + 1 + 1, 0, none⟩))
      rw [World.cell?_of_block (w := w1.setCell ⟨w.heap.size + 1, 0, none⟩ (.pointer (some ⟨w.heap.size + 1 + 1 + 1, 0, none⟩))) (by rw [h1]), blk_cell this]
      rfl
  have HFIN := Aside0.mk hfin
  clear hfin
  cases rb <;> cases d
  all_goals
    go_region
  all_goals
    go_wp2
    obtain ⟨hf1, hf2, hf3⟩ := HFIN.out (World.drew (w1.setCell ⟨w.heap.size + 1, 0, none⟩ (.pointer (some ⟨w.heap.size + 1 + 1 + 1, 0, none⟩)))) rfl rfl rfl rfl
    refine bodyPost_ret (v := .tuple #[.agg #[.pointer (some ⟨w.heap.size + 1 + 1 + 1, 0, none⟩)], .bool _]) (by simp [results, Tryz.results27, go_sem, *]) rfl ⟨w.heap.size + 2, w.heap.size + 3, rfl, hf1, by first | exact hf2 | exact hf2 trivial | exact hf2 rfl | trivial | simp⟩
end Go.Proofs.YtolbfjjgdheikaaGreat.R

/- ConnectedComponents, numbers, slices.Sort of ints. -/
namespace Go.Proofs.YtolbfjjgdheikaaGreat.R
open Go.RowKit Go.Lab Go.Maps Go.Proofs.YtolbfjjgdheikaaGreatW.PrintWords Go.Proofs.YtolbfjjgdheikaaGreatW.PrintLast Go.Proofs.YtolbfjjgdheikaaGreatW.PrintMore PL

/-- a row of rows, as a value -/
structure RwsV (K : Kp) (lo : Nat) (w : World) (lv : Value) (rows : List Value) (ps : List (List Int)) : Prop where
  own : w.ownsRow lo K.T 1 lv rows.length rows
  len : rows.length = ps.length
  each : ∀ (i : Nat) (h : i < rows.length), w.ownsRow lo K.E 1 rows[i] (ps.getD i []).length (K.val (ps.getD i []))
theorem Rws.toV {K : Kp} {TL : TypeId} {lo : Nat} {w : World} {gl : Nat} {lv : Value} {rows : List Value} {ps : List (List Int)} (h : Rws K TL lo w gl lv rows ps) : RwsV K lo w lv rows ps := ⟨h.own, h.len, h.each⟩
theorem RwsV.mono {K : Kp} {lo lo' : Nat} {w : World} {lv : Value} {rows : List Value} {ps : List (List Int)} (h : RwsV K lo w lv rows ps) (hl : lo' ≤ lo) : RwsV K lo' w lv rows ps := ⟨own_weaken h.own hl, h.len, fun i hi => own_weaken (h.each i hi) hl⟩
theorem RwsV.keep {K : Kp} {lo : Nat} {w w1 : World} {lv : Value} {rows : List Value} {ps : List (List Int)} (h : RwsV K lo w lv rows ps) (hk : ∀ k, k < w.heap.size → w1.heap[k]? = w.heap[k]?) : RwsV K lo w1 lv rows ps :=
  ⟨own_of_heap h.own (fun k hk2 => hk k (by obtain ⟨c, hc⟩ := own_block h.own hk2; exact blk_lt hc)), h.len, fun i hi => own_of_heap (h.each i hi) (fun k hk2 => hk k (by obtain ⟨c, hc⟩ := own_block (h.each i hi) hk2; exact blk_lt hc))⟩

/-- enough rounds for any part -/
def walkD (zs : List Int) (es : List S34) (vis : List Int) (u : Int) : Option (List Int) := dfsV (outN zs es) vis 9000 [u] []
def PartsD (zs : List Int) (es : List S34) : Prop := ∀ vis u pt, vis.Nodup → u ∉ vis → u ∈ srt zs → (∀ x ∈ vis, x ∈ srt zs) → dfsV (outN zs es) vis 9000 [u] [] = some pt → (vis ++ pt).Nodup ∧ (∀ x ∈ pt, x ∈ srt zs) ∧ 0 < pt.length
theorem partsD (zs : List Int) (es : List S34) : PartsD zs es := by
  intro vis u pt hnd hu huz _ h
  have hok := dfsV_ok (outN zs es) vis u 9000 [u] [] pt (by simpa using hnd) (.inl ⟨rfl, rfl, hu⟩) (fun x hx => by simp at hx; subst hx; exact RchW.here) (by simp) (by simp) h
  refine ⟨hok.nd, fun x hx => hok.rch x hx (fun y => y ∈ srt zs) huz fun y _ z hz => (mem_srt _ _).2 (outN_mem hz).1, by obtain ⟨l, rfl⟩ := hok.first; simp⟩

set_option maxHeartbeats 4000000 in
set_option maxRecDepth 100000 in
theorem conn_any (base bp : Nat) (zs : List Int) (es : List S34) (p : Pl) (w : World) (h : GrOk w base bp zs es p) (wf : ∀ x ∈ zs, (Lit.int .i64 x).wf = true) (out : List (List Int)) (hr : allV (walkD zs es) (srt zs) [] [] = some out) :
    Calls Tryz.prog 29 #[.iface 56 (.agg #[.pointer (some ⟨bp, 0, none⟩)])] w fun e w' => ∃ lv rows, e = .returned lv ∧ RwsV kpN w.heap.size w' lv rows out ∧ Below w.heap.size w w' := by
  have hb1 : Below w.heap.size w (((w.alloc (.cells #[.nilFunc, .nilFunc, .slice none 0 0, .map none] 80)).alloc (.cells #[.slice none 0 0] 68)).alloc (.cells #[.slice none 0 0] 60)) := (((Below.refl _ _).alloc (Nat.le_refl _) _).alloc (by simp) _).alloc (by simp; omega) _
  have k0 : (((w.alloc (.cells #[.nilFunc, .nilFunc, .slice none 0 0, .map none] 80)).alloc (.cells #[.slice none 0 0] 68)).alloc (.cells #[.slice none 0 0] 60)).heap[w.heap.size]? = some (.cells #[.nilFunc, .nilFunc, .slice none 0 0, .map none] 80 (0, 0)) :=
    (Below.heap_alloc _ _ _ (by simp; omega)).trans ((Below.heap_alloc _ _ _ (by simp)).trans (heap_alloc_new _ _))
  have k1 : (((w.alloc (.cells #[.nilFunc, .nilFunc, .slice none 0 0, .map none] 80)).alloc (.cells #[.slice none 0 0] 68)).alloc (.cells #[.slice none 0 0] 60)).heap[w.heap.size + 1]? = some (.cells #[.slice none 0 0] 68 (0, 0)) := by
    refine (Below.heap_alloc _ _ _ (by simp)).trans ?_
    have := heap_alloc_new (w.alloc (.cells #[.nilFunc, .nilFunc, .slice none 0 0, .map none] 80)) (.cells #[.slice none 0 0] 68)
    simpa using this
  have k2 : (((w.alloc (.cells #[.nilFunc, .nilFunc, .slice none 0 0, .map none] 80)).alloc (.cells #[.slice none 0 0] 68)).alloc (.cells #[.slice none 0 0] 60)).heap[w.heap.size + 1 + 1]? = some (.cells #[.slice none 0 0] 60 (0, 0)) := by
    have := heap_alloc_new ((w.alloc (.cells #[.nilFunc, .nilFunc, .slice none 0 0, .map none] 80)).alloc (.cells #[.slice none 0 0] 68)) (.cells #[.slice none 0 0] 60)
    simpa using this
  have hsz : (((w.alloc (.cells #[.nilFunc, .nilFunc, .slice none 0 0, .map none] 80)).alloc (.cells #[.slice none 0 0] 68)).alloc (.cells #[.slice none 0 0] 60)).heap.size = w.heap.size + 3 := by simp
  have HG := Aside0.mk (h.below hb1)
  have HX := Aside0.mk (And.intro hb1 (And.intro k0 (And.intro k1 (And.intro k2 (And.intro hsz wf)))))
  have HR := Aside0.mk hr
  clear h hb1 k0 k1 k2 hr wf hsz
  go_enter Tryz.func29, Tryz.ntmps29
  go_wp2_with (go_at_call 42; refine (walkAllN _ w.heap.size (w.heap.size + 1) (w.heap.size + 1 + 1) base bp 55 #[.pointer (some ⟨w.heap.size + 1, 0, none⟩)] zs es p 9000 (Nat.le_refl _) out ⟨HG.out, kpN_ok, ⟨_, HX.out.2.1⟩, ⟨_, HX.out.2.2.1⟩, HX.out.2.2.2.2.2⟩ (fun gu => untilN _ _ gu) (after56 _ _ _) (partsD zs es) HX.out.2.1 HX.out.2.2.1 HX.out.2.2.2.1 HR.out).mono ?_; rintro e w1 ⟨rfl, lv, rows, hrw, hkp⟩; have hcc : w1.cell? ⟨w.heap.size + 1 + 1, 0, none⟩ = some lv := (blk_cell hrw.blk 0).trans rfl; have HW := Aside0.mk (And.intro hrw hkp); clear hrw hkp)
  go_ret
  refine ⟨lv, rows, rfl, HW.out.1.toV.mono (by rw [HX.out.2.2.2.2.1]; omega), HX.out.1.trans ?_⟩
  refine HW.out.2.below (by rw [HX.out.2.2.2.2.1]; omega) fun k hk => ?_
  have hs := HX.out.2.2.2.2.1
  rw [hs] at hk
  simp only [WM] at hk
  omega

set_option maxHeartbeats 2000000 in
set_option maxRecDepth 100000 in
theorem numbers_any (base : Nat) (v : Value) (xs : List Int) (w : World) (h : w.ownsRow base 72 1 v xs.length (nodeVs xs)) (hn : xs.length ≤ 100000) :
    Calls Tryz.prog 37 #[v] w fun e w' => ∃ v', e = .returned v' ∧ w'.ownsRow w.heap.size 3 1 v' xs.length (nums .i64 xs) ∧ Below w.heap.size w w' := by
  obtain ⟨A, c, rfl⟩ := own_slice h
  have HO := Aside0.mk h
  obtain ⟨i0, hi, hz0, hz1, hz2⟩ := info_parts Q.Tryz.info3
  have HI := Aside0.mk (And.intro hi (And.intro hz0 (And.intro hz1 hz2)))
  clear h hi hz0 hz1 hz2
  go_enter Tryz.func37, Tryz.ntmps37
  go_wp2
  go_loopw [3, 8] (fun v i wr => ∃ k : Nat, k ≤ xs.length ∧ i = .int .i64 k ∧ Aside0 (wr.ownsRow w.heap.size 3 1 v k (nums .i64 (xs.take k)) ∧ Below w.heap.size w wr)) (fun _ i _ => xs.length - (intOf i).toNat)
  case atStart => exact ⟨0, Nat.zero_le _, rfl, ⟨World.ownsRow_nil _ _ _ _, Below.refl _ _⟩⟩
  case round =>
    obtain ⟨k, hk, rfl, HR⟩ := hrel
    by_cases hlt : k < xs.length
    · have hbw := HR.out.2.size
      obtain ⟨g, c', he, hc', hcell, hcur⟩ := own_cells HO.out (by omega)
      obtain ⟨cur, hcur⟩ := hcur
      simp only [Value.slice.injEq] at he
      obtain ⟨rfl, _, rfl⟩ := he
      have hgl := blk_lt hcur
      have hce : wr.cell? ⟨g, k, none⟩ = some (nodeV xs[k]) := by
        rw [World.cell?_of_block (HR.out.2.block g hgl)]
        exact hcell k _ (by simp [nodeVs, hlt])
      have hts := nums_step (r := xs) hlt
      have HTS := Aside0.mk hts
      clear hts hcell hcur
      generalize xs[k] = x at hce HTS
      unfold nodeV at hce
      obtain ⟨V, C, rfl⟩ := own_slice HR.out.1
      go_wp2_with (first
        | (go_at_call 40; refine (number_any _ _).mono ?_; rintro e w1 ⟨rfl, rfl⟩)
        | (at_builtin; refine wpList_append_own _ rfl _ _ 22 rfl w.heap.size 3 i0 (.int .i64 0) 1 8 Tryz.underlying22 HI.out.1 HI.out.2.1 HI.out.2.2.1 HI.out.2.2.2 rfl (by decide) _ k (nums .i64 (xs.take k)) rfl (World.ownsRow.alloc HR.out.1 _) ⟨wr.heap.size, 0, none⟩ 1 1 [.int .i64 x] rfl rfl (cell_one_new _ _ _) ?q2 ?q3 ?q4 ?q5 ?_))
      case q2 => intro u hu; simp at hu; subst hu; rfl
      case q3 => unfold maxLen; omega
      case q4 => omega
      case q5 => simp; omega
      intro v' w1 hown hgr _
      have HOw := Aside0.mk hown
      have HGR := Aside0.mk hgr
      clear hown hgr
      go_wp2
      go_roundw
      case rel => exact ⟨k + 1, by omega, by go_num, ⟨by rw [HTS.out]; exact HOw.out, (HR.out.2.alloc hbw _).grown HGR.out (by simp; omega) (fun q hq => own_base HR.out.1 q hq)⟩⟩
      case measure => simp [intOf]; omega
    · have hk' : k = xs.length := by omega
      have hts : xs.take k = xs := by rw [hk', List.take_length]
      have h1 := HR.out
      rw [hts, hk'] at h1
      have H1 := Aside0.mk h1
      clear h1 hts HR
      go_wp2
      go_ret
      exact ⟨_, rfl, H1.out.1, H1.out.2⟩
end Go.Proofs.YtolbfjjgdheikaaGreat.R
