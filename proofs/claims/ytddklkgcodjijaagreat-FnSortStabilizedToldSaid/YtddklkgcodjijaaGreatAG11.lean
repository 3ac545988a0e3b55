import Derived.Test.YtddklkgcodjijaaGreatAG10
import Derived.Test.YtddklkgcodjijaaGreatAG9
set_option linter.unusedVariables false
set_option linter.unusedSimpArgs false
/- The reference's order: spec.Stabilized. -/
namespace Go.Proofs.YtddklkgcodjijaaGreat.R
open Go.RowKit Go.Lab Go.Maps Go.Proofs.YtddklkgcodjijaaGreatW.PrintWords Go.Proofs.YtddklkgcodjijaaGreatW.PrintLast Go.Proofs.YtddklkgcodjijaaGreatW.PrintMore PL Q

/-- what a node that was left tells, as a component -/
def emitQ (met : List Int) (ps : List (List Int)) (u : Int) : List (List Int) :=
  if firstL met (compL ps u) ≠ u then [] else if 1 < (compL ps u).length then [compL ps u] else [[u]]
theorem emitQ_len (met : List Int) (ps : List (List Int)) (L : List Int) : (L.flatMap (emitQ met ps)).length ≤ L.length := by
  induction L with
  | nil => exact Nat.le_refl _
  | cons u L ih =>
    rw [List.flatMap_cons, List.length_append, List.length_cons]
    have : (emitQ met ps u).length ≤ 1 := by
      unfold emitQ
      by_cases h1 : firstL met (compL ps u) ≠ u
      · rw [if_pos h1]; simp
      · rw [if_neg h1]; split <;> simp
    omega
theorem emitC_len (met : List Int) (ps : List (List Int)) (L : List Int) : (L.flatMap (emitC met ps)).length ≤ L.length := by
  induction L with
  | nil => exact Nat.le_refl _
  | cons u L ih =>
    rw [List.flatMap_cons, List.length_append, List.length_cons]
    have : (emitC met ps u).length ≤ 1 := by
      unfold emitC
      by_cases h1 : firstL met (compL ps u) ≠ u
      · rw [if_pos h1]; simp
      · rw [if_neg h1]; split <;> simp
    omega
theorem drop_rev {β : Type} (f : Int → List β) {l : List Int} {j : Nat} (h : j < l.length) : (l.drop j).reverse.flatMap f = (l.drop (j + 1)).reverse.flatMap f ++ f l[j] := by
  rw [List.drop_eq_getElem_cons h, List.reverse_cons, List.flatMap_append]
  simp

theorem compL_len {ps : List (List Int)} {n : Nat} (h : ∀ c ∈ ps, c.length ≤ n) (u : Int) : (compL ps u).length ≤ n := by
  unfold compL
  cases e : ps.find? (fun c => decide (u ∈ c)) with
  | none => exact Nat.zero_le _
  | some x => exact h x (List.mem_of_find?_eq_some e)
/-- the state of the first loop, j nodes ahead -/
structure SL1 (c : WE) (k : Nat) (m2 : MS) (l : List Int) (wa : World) (mva lva : Value) (wr : World) (j : Nat) : Prop where
  ex : ∃ m1 mv1 lv1, allM (adjR c.zs c.es) k (l.take j).reverse m1 = some m2 ∧ MB c.zs 0 m1 ∧ VQ c wr mv1 lv1 m1.met m1.left ∧ VK c wa wr mva lva mv1 lv1

/-- the state of the second loop -/
structure SL2 (c : WE) (L : Nat) (wS : World) (mv lv v2 v3 : Value) (qs ls : List (List Int)) (met left : List Int) (w : World) : Prop where
  vq : VQ c w mv lv met left
  old : Below wS.heap.size wS w
  o2 : w.ownsRow wS.heap.size 36 2 v2 qs.length (qs.flatMap slotC)
  ex : ∃ rows3, w.ownsRow wS.heap.size 22 1 v3 ls.length rows3 ∧ rows3.length = ls.length ∧ ∀ (i : Nat) (h : i < rows3.length), w.ownsRow L 3 1 rows3[i] (ls.getD i []).length (nums .i64 (ls.getD i []))
theorem SL2.below {c : WE} {L : Nat} {wS w w1 : World} {mv lv v2 v3 : Value} {qs ls : List (List Int)} {met left : List Int} (h : SL2 c L wS mv lv v2 v3 qs ls met left w) (hc : c.w0.heap.size ≤ c.gp) (hb : Below w.heap.size w w1) : SL2 c L wS mv lv v2 v3 qs ls met left w1 := by
  obtain ⟨rows3, a, b, d⟩ := h.ex
  have hs := h.old.size
  exact ⟨(h.vq.below hc hb).1, h.old.trans (hb.mono hs), own_of_heap h.o2 (fun k hk => hb.block k (by obtain ⟨cc, hcc⟩ := own_block h.o2 hk; exact blk_lt hcc)),
    ⟨rows3, own_of_heap a (fun k hk => hb.block k (by obtain ⟨cc, hcc⟩ := own_block a hk; exact blk_lt hcc)), b, fun i hi => own_of_heap (d i hi) (fun k hk => hb.block k (by obtain ⟨cc, hcc⟩ := own_block (d i hi) hk; exact blk_lt hcc))⟩⟩
/-- a slot more -/
theorem SL2.slot {c : WE} {L : Nat} {wS w w1 : World} {mv lv v2 v3 v2' : Value} {qs ls : List (List Int)} {met left : List Int} (h : SL2 c L wS mv lv v2 v3 qs ls met left w) (hc : c.w0.heap.size ≤ c.gp) (hgp : c.gp < wS.heap.size) (hvm : ∀ q, mv.ownBlock = some q → q < wS.heap.size) (hvl : ∀ q, lv.ownBlock = some q → q < wS.heap.size) (hg : w.grownBy w1 v2.ownBlock) (q : List Int) (ho : w1.ownsRow wS.heap.size 36 2 v2' (qs.length + 1) (qs.flatMap slotC ++ slotC q)) : SL2 c L wS mv lv v2' v3 (qs ++ [q]) ls met left w1 := by
  obtain ⟨rows3, a, b, d⟩ := h.ex
  have hs := h.old.size
  have h2 : ∀ k, v2.ownBlock = some k → wS.heap.size ≤ k := fun k hk => own_base h.o2 k hk
  have hB : Below wS.heap.size wS w1 := h.old.grown hg (by omega) h2
  have ty : ∀ {e n : Nat} {bb : Nat} {u : Value} {xs : List Value}, e ≠ 36 → w.ownsRow bb e 1 u n xs → w1.ownsRow bb e 1 u n xs := fun he hh => own_of_heap hh fun k hk => by
    obtain ⟨cc, hcc⟩ := own_block hh hk
    refine hg.block k (blk_lt hcc) fun e => ?_
    obtain ⟨c2, hc2⟩ := own_block h.o2 e.symm
    exact he (blk_type hcc hc2)
  refine ⟨⟨(hg.block _ (blk_lt h.vq.blk) fun e => ?_).trans h.vq.blk, ty (by decide) h.vq.om, ty (by decide) h.vq.ol, h.vq.sep, ?_⟩, hB, by rw [List.flatMap_append, List.length_append]; simpa using ho, ⟨rows3, ty (by decide) a, b, fun i hi => ty (by decide) (d i hi)⟩⟩
  · have := h2 _ e.symm; omega
  · have hc0 : c.w0.heap.size ≤ w.heap.size := h.vq.old.size
    exact h.vq.old.grown hg hc0 (fun k hk => by have := h2 k hk; omega)
/-- a list more -/
theorem SL2.list {c : WE} {L : Nat} {wS w w1 : World} {mv lv v2 v3 v3' : Value} {qs ls : List (List Int)} {met left : List Int} (h : SL2 c L wS mv lv v2 v3 qs ls met left w) (hc : c.w0.heap.size ≤ c.gp) (hgp : c.gp < wS.heap.size) (hg : w.grownBy w1 v3.ownBlock) (q : List Int) {rv : Value} (hr : w.ownsRow L 3 1 rv q.length (nums .i64 q)) {rows3 : List Value} (hx : w.ownsRow wS.heap.size 22 1 v3 ls.length rows3 ∧ rows3.length = ls.length ∧ ∀ (i : Nat) (h : i < rows3.length), w.ownsRow L 3 1 rows3[i] (ls.getD i []).length (nums .i64 (ls.getD i []))) (ho : w1.ownsRow wS.heap.size 22 1 v3' (ls.length + 1) (rows3 ++ [rv])) : SL2 c L wS mv lv v2 v3' qs (ls ++ [q]) met left w1 := by
  obtain ⟨a, b, d⟩ := hx
  have hs := h.old.size
  have h2 : ∀ k, v3.ownBlock = some k → wS.heap.size ≤ k := fun k hk => own_base a k hk
  have hB : Below wS.heap.size wS w1 := h.old.grown hg (by omega) h2
  have ty : ∀ {e n sz : Nat} {bb : Nat} {u : Value} {xs : List Value}, e ≠ 22 → w.ownsRow bb e sz u n xs → w1.ownsRow bb e sz u n xs := fun he hh => own_of_heap hh fun k hk => by
    obtain ⟨cc, hcc⟩ := own_block hh hk
    refine hg.block k (blk_lt hcc) fun e => ?_
    obtain ⟨c2, hc2⟩ := own_block a e.symm
    exact he (blk_type hcc hc2)
  refine ⟨⟨(hg.block _ (blk_lt h.vq.blk) fun e => ?_).trans h.vq.blk, ty (by decide) h.vq.om, ty (by decide) h.vq.ol, h.vq.sep, ?_⟩, hB, ty (by decide) h.o2, ⟨rows3 ++ [rv], by rw [List.length_append]; exact ho, by simp [b], fun i hi => ?_⟩⟩
  · have := h2 _ e.symm; omega
  · have hc0 : c.w0.heap.size ≤ w.heap.size := h.vq.old.size
    exact h.vq.old.grown hg hc0 (fun k hk => by have := h2 k hk; omega)
  · rw [List.length_append, List.length_singleton] at hi
    by_cases hlt : i < rows3.length
    · have e1 : (rows3 ++ [rv])[i]'(by simp; omega) = rows3[i] := List.getElem_append_left hlt
      have e2 : (ls ++ [q]).getD i [] = ls.getD i [] := by simp [List.getD_eq_getElem?_getD, List.getElem?_append_left (show i < ls.length by omega)]
      rw [e1, e2]
      exact ty (by decide) (d i hlt)
    · have hi2 : i = rows3.length := by omega
      subst hi2
      have e1 : (rows3 ++ [rv])[rows3.length]'(by simp) = rv := by simp
      have e2 : (ls ++ [q]).getD rows3.length [] = q := by rw [b]; simp [List.getD_eq_getElem?_getD]
      rw [e1, e2]
      exact ty (by decide) hr
theorem VQ.start {c : WE} {w : World} (hgp : c.gp = w.heap.size + 1) (hw0 : c.w0 = w.alloc (.cells #[.bool true, .slice c.A1 c.zs.length c.c1, .slice c.A2 c.es.length c.c2] 25)) :
    VQ c ((w.alloc (.cells #[.bool true, .slice c.A1 c.zs.length c.c1, .slice c.A2 c.es.length c.c2] 25)).alloc (.cells #[.bool true, .slice c.A1 c.zs.length c.c1, .slice c.A2 c.es.length c.c2, .slice none 0 0, .slice none 0 0] 69)) (.slice none 0 0) (.slice none 0 0) [] [] := by
  rw [← hw0]
  have hs : c.w0.heap.size = c.gp := by rw [hw0, hgp]; simp
  exact ⟨by rw [← hs]; exact heap_alloc_new _ _, World.ownsRow_nil _ _ _ _, World.ownsRow_nil _ _ _ _, fun q hq => by simp [Value.ownBlock] at hq, (Below.refl _ _).alloc (Nat.le_refl _) _⟩

set_option maxHeartbeats 16000000 in
set_option maxRecDepth 100000 in
theorem stab_c (c : WE) (hc : WEok c) (w : World) (hgp : c.gp = w.heap.size + 1) (hw0 : c.w0 = w.alloc (.cells #[.bool true, .slice c.A1 c.zs.length c.c1, .slice c.A2 c.es.length c.c2] 25))
    (k : Nat) (m : MS) (hm : allM (adjR c.zs c.es) k (srt c.zs).reverse ⟨[], []⟩ = some m) (kS : Nat) (ps : List (List Int)) (hs : spec_SCC.f kS true c.zs c.es = some ps) (hpn : ps.length ≤ 1000) (hpl : ∀ c ∈ ps, c.length ≤ 1000) :
    Calls Tryz.prog 9 #[.agg #[.bool true, .slice c.A1 c.zs.length c.c1, .slice c.A2 c.es.length c.c2]] w fun e w' => ∃ v1 v2, e = .returned (.tuple #[v1, v2]) ∧ Kd.R k36 36 w' w.heap.size (fun _ => True) v1 ((m.left.reverse.flatMap (emitQ m.met ps)).map slotS) ∧ Kd.R (Kd.slice 3 (Kd.int .i64)) 22 w' w.heap.size (fun _ => True) v2 (m.left.reverse.flatMap (emitC m.met ps)) ∧ Below w.heap.size w w' := by
  have HQ0 := Aside0.mk (VQ.start hgp hw0)
  have hsz0 : c.w0.heap.size = w.heap.size + 1 := by rw [hw0]; simp
  have hbw : Below w.heap.size w c.w0 := by rw [hw0]; exact (Below.refl _ _).alloc (Nat.le_refl _) _
  have HC := Aside0.mk hc
  have hn := hc.hz
  have he := hc.he
  have HB0 := Aside0.mk (show c.w0.heap[w.heap.size]? = some (.cells #[.bool true, .slice c.A1 c.zs.length c.c1, .slice c.A2 c.es.length c.c2] 25 (0, 0)) from by rw [hw0]; exact heap_alloc_new _ _)
  obtain ⟨l, hl⟩ : ∃ l, srt c.zs = l := ⟨_, rfl⟩
  have hll : l.length ≤ 300 := by rw [← hl, srt_length]; exact hn
  have hlin : ∀ x ∈ l, x ∈ c.zs := fun x hx => by rw [← hl] at hx; exact (mem_srt _ _).1 hx
  have hlS : spec_Nodes.f true c.zs c.es = some l := by rw [← hl]; exact nodesS c.zs c.es (by omega)
  rw [hl] at hm
  have HL := Aside0.mk (And.intro hlS (And.intro hlin hm))
  have HS := Aside0.mk (And.intro hs (And.intro hpn hpl))
  have HW := Aside0.mk (And.intro hw0 (And.intro hsz0 (And.intro hbw hgp)))
  have hu25 := Tryz.underlying25
  have hu69 := Tryz.underlying69
  clear hc hw0 hsz0 hbw hlS hlin hm hs hpn hpl hl
  go_enter Tryz.func9, Tryz.ntmps9
  go_wp2_with fail
  rw [← hgp]
  clear hgp
  refine (spec_Nodes.calls true _ _ c.zs _ _ c.es l _ (Kd.C_below HC.out.n1 HQ0.out.old) HC.out.l1 (Kd.C_below HC.out.n2 HQ0.out.old) HC.out.l2 HL.out.1).mono ?_
  rintro e wa ⟨v0, rfl, hr0, hb⟩
  have ho := ints_of_R hr0
  obtain ⟨AN, cN, rfl⟩ := own_slice ho
  have HA := Aside0.mk (And.intro (HQ0.out.below HC.out.lo hb) ho)
  have HSEP := Aside0.mk (show ∀ q, (Value.slice AN l.length cN).ownBlock = some q → q < wa.heap.size ∧ q ≠ c.gp from fun q hq => by
    have h1 := own_base HA.out.2 q hq
    obtain ⟨cc, hcc⟩ := own_block HA.out.2 hq
    exact ⟨blk_lt hcc, fun e => by have := blk_lt HQ0.out.blk; omega⟩)
  have HL0 := Aside0.mk (show SL1 c k m l wa (.slice none 0 0) (.slice none 0 0) wa l.length from ⟨⟨_, _, _, by rw [List.take_length]; exact HL.out.2.2, ⟨List.nodup_nil, (fun x hx => absurd hx List.not_mem_nil), Nat.le_refl _⟩, HA.out.1.1, VK.refl _ _ _ _⟩⟩)
  clear hb ho hr0
  go_wp2_with fail
  go_loopw [6] (fun v6 wr => ∃ j : Nat, j ≤ l.length ∧ v6 = .int .i64 ((j : Int) - 1) ∧ Aside0 (SL1 c k m l wa (.slice none 0 0) (.slice none 0 0) wr j)) (fun v6 _ => (intOf v6 + 1).toNat)
  case atStart => exact ⟨l.length, Nat.le_refl _, by go_num, HL0⟩
  case round =>
    obtain ⟨j, hj, rfl, hrel⟩ := hrel
    obtain ⟨m1, mv1, lv1, hsu, hmb, hvq, hvk⟩ := hrel.out.ex
    have hml1 := hmb.len
    have hm1l : m1.met.length ≤ 300 := by omega
    cases j with
    | succ j =>
      obtain ⟨A1, c1, rfl⟩ := own_slice hvq.om
      obtain ⟨e0, e1, e2, e3, e4⟩ := hvq.cells
      have hown1 := own_of_heap HA.out.2 fun q hq => hvk.blk q (HSEP.out q hq).1 (HSEP.out q hq).2 (by simp [Value.ownBlock]) (by simp [Value.ownBlock])
      have HT := Aside0.mk (And.intro hmb (And.intro hvq hvk))
      have hjj : ((j + 1 : Nat) : Int) - 1 = (j : Int) := by omega
      rw [hjj]
      have hlt : j < l.length := by omega
      obtain ⟨gN, cc, hvv, hc', hcell, ⟨cur, hcur⟩⟩ := own_cells hown1 (by omega)
      simp only [Value.slice.injEq] at hvv
      obtain ⟨rfl, -, rfl⟩ := hvv
      obtain ⟨x, hx⟩ : ∃ x, l[j] = x := ⟨_, rfl⟩
      have hcx : wr.cell? ⟨gN, j, none⟩ = some (.int .i64 x) := hcell j _ (by simp [nums, hlt, hx])
      obtain ⟨kk, hev⟩ := (hasI_ev m1.met x (by omega)).rounds
      have HEV := Aside0.mk hev
      have hxin : x ∈ l := by rw [← hx]; exact List.getElem_mem hlt
      have HX := Aside0.mk (HL.out.2.1 x hxin)
      have hsu2 : allM (adjR c.zs c.es) k (x :: (l.take j).reverse) m1 = some m := by rw [← hx, ← take_rev hlt]; exact hsu
      unfold allM at hsu2
      have hj0 : (0 : Int) ≤ (j : Int) := by omega
      have hj1 : (j : Int) < (l.length : Int) := by omega
      have HCC := Aside0.mk (C_of_own hvq.om)
      clear hrel hsu hmb hvq hvk hown1 hcell hcur hxin hx hev hjj e0 e1 e2 e4
      by_cases hb : x ∈ m1.met
      · have hd : decide (x ∈ m1.met) = true := decide_eq_true hb
        rw [if_pos hb] at hsu2
        have HS2 := Aside0.mk hsu2
        clear hb hsu2
        go_wp2_with fail
        go_region_held3 (fun w' => w'.cell? ⟨c.gp, 3, none⟩ = some (.slice A1 m1.met.length c1) ∧ w'.cell? ⟨gN, j, none⟩ = some (.int .i64 x))
          (first | exact ⟨below_cellOf hbel (by simpa using e3), below_cellOf hbel (by simpa using hcx)⟩ | go_keep)
          (first
            | (go_at_call 33; refine (spec_hasInt.calls kk _ _ m1.met x _ _ (Kd.C_drew HCC.out.2) HCC.out.1 HEV.out).mono ?_; rintro e w3 ⟨rfl, hdw⟩; rw [hd]; have hbel := hdw.below; clear hdw))
        have h3 := Aside0.mk (HT.out.2.1.below HC.out.lo ((Below.refl _ _).drew.trans (hbel.mono (by simp))))
        go_wp2
        go_roundw
        case rel =>
          exact ⟨j, by omega, by go_num, ⟨⟨m1, _, _, HS2.out, HT.out.1, h3.out.1, HT.out.2.2.trans h3.out.2⟩⟩⟩
        case measure => first | (simp [intOf]; done) | (simp [intOf]; omega)
      · have hd : decide (x ∈ m1.met) = false := decide_eq_false hb
        rw [if_neg hb] at hsu2
        obtain ⟨m3, hv3, hs3⟩ := Option.bind_eq_some_iff.1 hsu2
        have HS2 := Aside0.mk (And.intro hv3 (And.intro hs3 hb))
        clear hb hsu2 hv3 hs3
        go_wp2_with fail
        go_region_held3 (fun w' => w'.cell? ⟨c.gp, 3, none⟩ = some (.slice A1 m1.met.length c1) ∧ w'.cell? ⟨gN, j, none⟩ = some (.int .i64 x))
          (first | exact ⟨below_cellOf hbel (by simpa using e3), below_cellOf hbel (by simpa using hcx)⟩ | go_keep)
          (first
            | (go_at_call 33; refine (spec_hasInt.calls kk _ _ m1.met x _ _ (Kd.C_drew HCC.out.2) HCC.out.1 HEV.out).mono ?_; rintro e w3 ⟨rfl, hdw⟩; rw [hd]; have hbel := hdw.below; clear hdw))
        have h3 := Aside0.mk (HT.out.2.1.below HC.out.lo ((Below.refl _ _).drew.trans (hbel.mono (by simp))))
        have hcx3 : w3.cell? ⟨gN, j, none⟩ = some (.int .i64 x) := below_cellOf hbel (by simpa using hcx)
        clear hbel
        go_wp2_with (go_at_call 34; refine (visit_any c HC.out k x m1 m3 0 _ _ _ HX.out HS2.out.2.2 HT.out.1 HS2.out.1 h3.out.1).mono ?_; rintro e w4 ⟨rfl, mv4, lv4, hq4, hk4⟩; have H4 := Aside0.mk (And.intro hq4 hk4); clear hq4 hk4)
        go_roundw
        case rel =>
          exact ⟨j, by omega, by go_num, ⟨⟨m3, _, _, HS2.out.2.1, visitM_mb (fun a x hx => (outN_mem' (adjR_mem.1 hx)).1) k 0 x m1 m3 HX.out HS2.out.2.2 HT.out.1 HS2.out.1, H4.out.1, (HT.out.2.2.trans h3.out.2).trans H4.out.2⟩⟩⟩
        case measure => first | (simp [intOf]; done) | (simp [intOf]; omega)
    | zero =>
      have hjj : ((0 : Nat) : Int) - 1 = -1 := rfl
      rw [hjj]
      have hm12 : m1 = m := by
        have := hsu
        simp only [List.take_zero, List.reverse_nil, allM, Option.some.injEq] at this
        exact this
      subst hm12
      obtain ⟨A1, c1, rfl⟩ := own_slice hvq.om
      obtain ⟨A2, c2, rfl⟩ := own_slice hvq.ol
      have hleft : m1.left.length ≤ 300 := by omega
      have hbox := (hvq.old.block w.heap.size (by rw [HW.out.2.1]; omega)).trans HB0.out
      have b0 : wr.cell? ⟨w.heap.size, 0, none⟩ = some (.bool true) := (blk_cell hbox 0).trans rfl
      have b1 : wr.cell? ⟨w.heap.size, 1, none⟩ = some (.slice c.A1 c.zs.length c.c1) := (blk_cell hbox 1).trans rfl
      have b2 : wr.cell? ⟨w.heap.size, 2, none⟩ = some (.slice c.A2 c.es.length c.c2) := (blk_cell hbox 2).trans rfl
      have HT := Aside0.mk hvq
      obtain ⟨i0, hi, hz0, hz1, hz2⟩ := info_parts Tryz.info36
      have HI := Aside0.mk (And.intro hi (And.intro hz0 (And.intro hz1 hz2)))
      obtain ⟨j0, gi, gz0, gz1, gz2⟩ := info_parts Tryz.info22
      have HJ := Aside0.mk (And.intro gi (And.intro gz0 (And.intro gz1 gz2)))
      clear hi hz0 hz1 hz2 gi gz0 gz1 gz2
      have hwr : c.gp < wr.heap.size := blk_lt hvq.blk
      clear hrel hsu hmb hvq hvk hbox hjj
      go_wp2_with (go_at_call 35; refine (spec_SCC.calls kS true _ _ c.zs _ _ c.es ps _ (Kd.C_below HC.out.n1 HT.out.old) HC.out.l1 (Kd.C_below HC.out.n2 HT.out.old) HC.out.l2 HS.out.1).mono ?_; rintro e wS ⟨pv, rfl, hs, hb⟩; obtain ⟨rows, hrw⟩ := rows_of_R (Kd.S_R hs); have HP := Aside0.mk (And.intro hrw (And.intro (HT.out.below HC.out.lo hb).1 hb)); obtain ⟨f0, f1, f2, f3, f4⟩ := HP.out.2.1.cells; clear hrw hs hb b0 b1 b2)
      have hwS := HP.out.2.2.size
      obtain ⟨L, hL⟩ : ∃ L, wr.heap.size = L := ⟨_, rfl⟩
      have hLw : w.heap.size ≤ L := by have h1 := HT.out.old.size; have h2 := HW.out.2.1; omega
      have hLS : L ≤ wS.heap.size := by omega
      have hgS : c.gp < wS.heap.size := by omega
      have HR := Aside0.mk (show RwsV kpI L wS pv rows ps from by rw [← hL]; exact HP.out.1)
      have HV := Aside0.mk HP.out.2.1
      have HBW := Aside0.mk (show Below w.heap.size w wS from HW.out.2.2.1.trans ((HT.out.old.trans (HP.out.2.2.mono HT.out.old.size)).mono (by have := HW.out.2.1; omega)))
      have hsl : Aside0 (SL2 c L wS (.slice A1 m1.met.length c1) (.slice A2 m1.left.length c2) (.slice none 0 0) (.slice none 0 0) ((m1.left.drop m1.left.length).reverse.flatMap (emitQ m1.met ps)) ((m1.left.drop m1.left.length).reverse.flatMap (emitC m1.met ps)) m1.met m1.left wS) := by
        rw [List.drop_length]
        exact ⟨⟨HV.out, Below.refl _ _, World.ownsRow_nil _ _ _ _, ⟨[], World.ownsRow_nil _ _ _ _, rfl, fun i hi => absurd hi (Nat.not_lt_zero _)⟩⟩⟩
      clear f0 f1 f2 f3 f4 hwr hwS hL HP HT
      go_loopw [2, 3, 8] (fun v2 v3 v8 wq => ∃ j : Nat, j ≤ m1.left.length ∧ v8 = .int .i64 ((j : Int) - 1) ∧ Aside0 (SL2 c L wS (.slice A1 m1.met.length c1) (.slice A2 m1.left.length c2) v2 v3 ((m1.left.drop j).reverse.flatMap (emitQ m1.met ps)) ((m1.left.drop j).reverse.flatMap (emitC m1.met ps)) m1.met m1.left wq)) (fun _ _ v8 _ => (intOf v8 + 1).toNat)
      case atStart => exact ⟨m1.left.length, Nat.le_refl _, by go_num, hsl⟩
      case round =>
        clear hsl
        obtain ⟨j, hj, rfl, hrel⟩ := hrel
        cases j with
        | zero =>
          have hjj : ((0 : Nat) : Int) - 1 = -1 := rfl
          rw [hjj]
          rw [List.drop_zero] at hrel
          clear hjj
          go_wp2
          have h10 := hrel.out.old
          obtain ⟨rows3, a, b, d⟩ := hrel.out.ex
          exact bodyPost_ret (v := .tuple #[u2, u3]) (by simp [results, Tryz.results9, go_sem]) rfl ⟨u2, u3, rfl, R_of_slots (own_weaken hrel.out.o2 (by omega)), R_of_rows (rows := rows3) ⟨own_weaken (by rw [b]; exact a) (by omega), b, fun i hi => own_weaken (d i hi) hLw⟩, HBW.out.trans (h10.mono (by omega))⟩
        | succ j =>
          have hjj : ((j + 1 : Nat) : Int) - 1 = (j : Int) := by omega
          rw [hjj]
          have hlt : j < m1.left.length := by omega
          obtain ⟨u, hu⟩ : ∃ u, m1.left[j] = u := ⟨_, rfl⟩
          obtain ⟨qs, hqs⟩ : ∃ qs, (m1.left.drop (j + 1)).reverse.flatMap (emitQ m1.met ps) = qs := ⟨_, rfl⟩
          obtain ⟨ls, hls⟩ : ∃ ls, (m1.left.drop (j + 1)).reverse.flatMap (emitC m1.met ps) = ls := ⟨_, rfl⟩
          have hQ : (m1.left.drop j).reverse.flatMap (emitQ m1.met ps) = qs ++ emitQ m1.met ps u := by rw [drop_rev _ hlt, hqs, hu]
          have hLs : (m1.left.drop j).reverse.flatMap (emitC m1.met ps) = ls ++ emitC m1.met ps u := by rw [drop_rev _ hlt, hls, hu]
          have hqn : qs.length ≤ 300 := by have := emitQ_len m1.met ps (m1.left.drop (j + 1)).reverse; rw [hqs, List.length_reverse, List.length_drop] at this; omega
          have hln : ls.length ≤ 300 := by have := emitC_len m1.met ps (m1.left.drop (j + 1)).reverse; rw [hls, List.length_reverse, List.length_drop] at this; omega
          rw [hqs, hls] at hrel
          obtain ⟨cp, hcp⟩ : ∃ cp, compL ps u = cp := ⟨_, rfl⟩
          have hcl : cp.length ≤ 1000 := by rw [← hcp]; exact compL_len HS.out.2.2 u
          obtain ⟨fu, hfu⟩ : ∃ fu, firstL m1.met cp = fu := ⟨_, rfl⟩
          obtain ⟨k2, hev⟩ := (firstS_ev m1.met cp (by omega) (by omega)).rounds
          rw [hfu] at hev
          have hvq := hrel.out.vq
          obtain ⟨f0, f1, f2, f3, f4⟩ := hvq.cells
          obtain ⟨gN, cc, hvv, hc', hcell, ⟨cur, hcur⟩⟩ := own_cells hvq.ol (by omega)
          simp only [Value.slice.injEq] at hvv
          obtain ⟨rfl, -, rfl⟩ := hvv
          have hcx : wr.cell? ⟨gN, j, none⟩ = some (.int .i64 u) := hcell j _ (by simp [nums, hlt, hu])
          have hj0 : (0 : Int) ≤ (j : Int) := by omega
          have hj1 : (j : Int) < (m1.left.length : Int) := by omega
          have HH := Aside0.mk hrel.out
          have HQ := Aside0.mk (And.intro hQ hLs)
          have HEV := Aside0.mk hev
          have HCP := Aside0.mk hcp
          have HFU := Aside0.mk hfu
          obtain ⟨A5, c5, rfl⟩ := own_slice hrel.out.o2
          obtain ⟨A6, c6, rfl⟩ : ∃ A6 c6, u3 = .slice A6 ls.length c6 := by obtain ⟨rows3, a, b, d⟩ := hrel.out.ex; exact own_slice a
          clear hrel hvq hQ hLs hev hcp hfu hjj hu hqs hls f0 f1 f2 f3 hcell hcur
          by_cases hfe : fu = u
          · subst hfe
            by_cases h1 : 1 < cp.length
            · have h1i : (1 : Int) < (cp.length : Int) := by omega
              have HE := Aside0.mk (show emitQ m1.met ps fu = [cp] ∧ emitC m1.met ps fu = [cp] from by
                unfold emitQ emitC
                rw [HCP.out, HFU.out, if_neg (fun h => h rfl), if_pos h1, if_neg (fun h => h rfl), if_pos h1]
                exact ⟨rfl, rfl⟩)
              have HSC := Aside0.mk (show slotC cp = [.bool true, .int .i64 0] from if_neg (by omega))
              clear h1
              go_wp2_with (first
                | (go_at_call 36; refine (compOf_any L pv rows ps fu _ (HR.out.keep fun k hk => HH.out.old.block k hk) HS.out.2.1 HS.out.2.2).mono ?_; rintro e w3 ⟨cv, rfl, hcv, hb3⟩; rw [HCP.out] at hcv; obtain ⟨AC, cC, rfl⟩ := own_slice hcv; have H3 := Aside0.mk (And.intro (HH.out.below HC.out.lo hb3) hcv); have f3' : w3.cell? ⟨c.gp, 3, none⟩ = some (.slice A1 m1.met.length c1) := H3.out.1.vq.cells.2.2.2.1; clear hcv hb3)
                | (go_at_call 37; refine (spec_firstOf.calls k2 _ _ m1.met _ _ cp fu _ (C_of_own H3.out.1.vq.om).2 (C_of_own H3.out.1.vq.om).1 (C_of_own H3.out.2).2 (C_of_own H3.out.2).1 HEV.out).mono ?_; rintro e w4 ⟨rfl, hdw⟩; have H4 := Aside0.mk (And.intro (H3.out.1.below HC.out.lo hdw.below) (own_of_heap H3.out.2 (fun q hq => hdw.below.block q (by obtain ⟨cc, hcc⟩ := own_block H3.out.2 hq; exact blk_lt hcc)))); clear hdw f3')
                | (at_builtin; refine wpList_append_own_at _ rfl _ _ 28 rfl wS.heap.size 36 i0 (.agg #[.bool false, .int .i64 0]) 2 16 Tryz.underlying28 HI.out.1 HI.out.2.1 HI.out.2.2.1 HI.out.2.2.2 rfl (by decide) _ qs.length (qs.flatMap slotC) rfl (World.ownsRow.alloc H4.out.1.o2 _) ⟨w4.heap.size, 0, none⟩ 1 1 [.bool true, .int .i64 0] rfl rfl (cell_two_new _ _ _ _) ?q2 ?q3 ?q4 ?q5 ?_))
              case q2 => intro u hu; simp at hu; rcases hu with rfl | rfl <;> rfl
              case q3 => unfold maxLen; omega
              case q4 => omega
              case q5 => have := H4.out.1.old.size; simp; omega
              intro v' w5 hown hgr _ hat
              have h4b := H4.out.1.below HC.out.lo ((Below.refl _ _).alloc (Nat.le_refl _) (.cells #[.bool true, .int .i64 0] 36))
              have hcp5 : (w4.alloc (.cells #[.bool true, .int .i64 0] 36)).ownsRow L 3 1 (.slice AC cp.length cC) cp.length (nums .i64 cp) := World.ownsRow.alloc H4.out.2 _
              have H5 := Aside0.mk (And.intro (h4b.slot HC.out.lo hgS (fun q hq => (HV.out.mLt hq).2) (fun q hq => (HV.out.lLt hq).2) hgr cp (by rw [HSC.out]; exact hown)) (own_of_heap hcp5 fun q hq => by
                obtain ⟨cc, hcc⟩ := own_block hcp5 hq
                refine hgr.block q (blk_lt hcc) fun e => ?_
                obtain ⟨c2, hc2⟩ := own_block h4b.o2 e.symm
                exact absurd (blk_type hcc hc2) (by decide)))
              clear hown hgr hat h4b hcp5
              obtain ⟨rows3, hrx⟩ := H5.out.1.ex
              have HX := Aside0.mk hrx
              clear hrx
              go_wp2_with (at_builtin; refine wpList_append_own_at _ rfl _ _ 29 rfl wS.heap.size 22 j0 (.slice none 0 0) 1 24 Tryz.underlying29 HJ.out.1 HJ.out.2.1 HJ.out.2.2.1 HJ.out.2.2.2 rfl (by decide) _ ls.length rows3 rfl (World.ownsRow.alloc HX.out.1 _) ⟨w5.heap.size, 0, none⟩ 1 1 [.slice AC cp.length cC] rfl rfl (cell_one_new _ _ _) ?q2 ?q3 ?q4 ?q5 ?_)
              case q2 => intro u hu; simp at hu; subst hu; rfl
              case q3 => unfold maxLen; omega
              case q4 => omega
              case q5 => have := H5.out.1.old.size; simp; omega
              intro v' w6 hown hgr _ hat
              have h5b := H5.out.1.below HC.out.lo ((Below.refl _ _).alloc (Nat.le_refl _) (.cells #[.slice AC cp.length cC] 22))
              have hx5 : (w5.alloc (.cells #[.slice AC cp.length cC] 22)).ownsRow wS.heap.size 22 1 (.slice A6 ls.length c6) ls.length rows3 ∧ rows3.length = ls.length ∧ ∀ (i : Nat) (h : i < rows3.length), (w5.alloc (.cells #[.slice AC cp.length cC] 22)).ownsRow L 3 1 rows3[i] (ls.getD i []).length (nums .i64 (ls.getD i [])) :=
                ⟨World.ownsRow.alloc HX.out.1 _, HX.out.2.1, fun i hi => World.ownsRow.alloc (HX.out.2.2 i hi) _⟩
              have H6 := Aside0.mk (h5b.list HC.out.lo hgS hgr cp (World.ownsRow.alloc H5.out.2 _) hx5 hown)
              clear hown hgr hat h5b hx5
              go_wp2
              go_roundw
              case rel => exact ⟨j, by omega, by go_num, ⟨by rw [HQ.out.1, HQ.out.2, HE.out.1, HE.out.2]; exact H6.out⟩⟩
              case measure => first | (simp [intOf]; done) | (simp [intOf]; omega)
            · have h1i : ¬ (1 : Int) < (cp.length : Int) := by omega
              have HE := Aside0.mk (show emitQ m1.met ps fu = [[fu]] ∧ emitC m1.met ps fu = [] from by
                unfold emitQ emitC
                rw [HCP.out, HFU.out, if_neg (fun h => h rfl), if_neg h1, if_neg (fun h => h rfl), if_neg h1]
                exact ⟨rfl, rfl⟩)
              clear h1
              go_wp2_with (first
                | (go_at_call 36; refine (compOf_any L pv rows ps fu _ (HR.out.keep fun k hk => HH.out.old.block k hk) HS.out.2.1 HS.out.2.2).mono ?_; rintro e w3 ⟨cv, rfl, hcv, hb3⟩; rw [HCP.out] at hcv; obtain ⟨AC, cC, rfl⟩ := own_slice hcv; have H3 := Aside0.mk (And.intro (HH.out.below HC.out.lo hb3) hcv); have f3' : w3.cell? ⟨c.gp, 3, none⟩ = some (.slice A1 m1.met.length c1) := H3.out.1.vq.cells.2.2.2.1; clear hcv hb3)
                | (go_at_call 37; refine (spec_firstOf.calls k2 _ _ m1.met _ _ cp fu _ (C_of_own H3.out.1.vq.om).2 (C_of_own H3.out.1.vq.om).1 (C_of_own H3.out.2).2 (C_of_own H3.out.2).1 HEV.out).mono ?_; rintro e w4 ⟨rfl, hdw⟩; have H4 := Aside0.mk (And.intro (H3.out.1.below HC.out.lo hdw.below) (own_of_heap H3.out.2 (fun q hq => hdw.below.block q (by obtain ⟨cc, hcc⟩ := own_block H3.out.2 hq; exact blk_lt hcc)))); clear hdw f3')
                | (at_builtin; refine wpList_append_own_at _ rfl _ _ 28 rfl wS.heap.size 36 i0 (.agg #[.bool false, .int .i64 0]) 2 16 Tryz.underlying28 HI.out.1 HI.out.2.1 HI.out.2.2.1 HI.out.2.2.2 rfl (by decide) _ qs.length (qs.flatMap slotC) rfl (World.ownsRow.alloc H4.out.1.o2 _) ⟨w4.heap.size, 0, none⟩ 1 1 [.bool false, .int .i64 fu] rfl rfl (cell_two_new _ _ _ _) ?q2 ?q3 ?q4 ?q5 ?_))
              case q2 => intro u hu; simp at hu; rcases hu with rfl | rfl <;> rfl
              case q3 => unfold maxLen; omega
              case q4 => omega
              case q5 => have := H4.out.1.old.size; simp; omega
              intro v' w5 hown hgr _ hat
              have h4b := H4.out.1.below HC.out.lo ((Below.refl _ _).alloc (Nat.le_refl _) (.cells #[.bool false, .int .i64 fu] 36))
              have H5 := Aside0.mk (h4b.slot HC.out.lo hgS (fun q hq => (HV.out.mLt hq).2) (fun q hq => (HV.out.lLt hq).2) hgr [fu] hown)
              clear hown hgr hat h4b
              go_wp2
              go_roundw
              case rel => exact ⟨j, by omega, by go_num, ⟨by rw [HQ.out.1, HQ.out.2, HE.out.1, HE.out.2, List.append_nil]; exact H5.out⟩⟩
              case measure => first | (simp [intOf]; done) | (simp [intOf]; omega)
          · have hne : (fu == u) = false := by rw [beq_eq_false_iff_ne]; exact hfe
            have HE := Aside0.mk (show emitQ m1.met ps u = [] ∧ emitC m1.met ps u = [] from by
              unfold emitQ emitC
              rw [HCP.out, HFU.out, if_pos hfe, if_pos hfe]
              exact ⟨rfl, rfl⟩)
            go_wp2_with (first
              | (go_at_call 36; refine (compOf_any L pv rows ps u _ (HR.out.keep fun k hk => HH.out.old.block k hk) HS.out.2.1 HS.out.2.2).mono ?_; rintro e w3 ⟨cv, rfl, hcv, hb3⟩; rw [HCP.out] at hcv; obtain ⟨AC, cC, rfl⟩ := own_slice hcv; have H3 := Aside0.mk (And.intro (HH.out.below HC.out.lo hb3) hcv); have f3' : w3.cell? ⟨c.gp, 3, none⟩ = some (.slice A1 m1.met.length c1) := H3.out.1.vq.cells.2.2.2.1; clear hcv hb3)
              | (go_at_call 37; refine (spec_firstOf.calls k2 _ _ m1.met _ _ cp fu _ (C_of_own H3.out.1.vq.om).2 (C_of_own H3.out.1.vq.om).1 (C_of_own H3.out.2).2 (C_of_own H3.out.2).1 HEV.out).mono ?_; rintro e w4 ⟨rfl, hdw⟩; have H4 := Aside0.mk (And.intro (H3.out.1.below HC.out.lo hdw.below) (own_of_heap H3.out.2 (fun q hq => hdw.below.block q (by obtain ⟨cc, hcc⟩ := own_block H3.out.2 hq; exact blk_lt hcc)))); clear hdw f3'))
            go_roundw
            case rel => exact ⟨j, by omega, by go_num, ⟨by rw [HQ.out.1, HQ.out.2, HE.out.1, HE.out.2, List.append_nil, List.append_nil]; exact H4.out.1⟩⟩
            case measure => first | (simp [intOf]; done) | (simp [intOf]; omega)

end Go.Proofs.YtddklkgcodjijaaGreat.R

/- What spec.Stabilized answers. -/
namespace Go.Proofs.YtddklkgcodjijaaGreat.R
open Go.RowKit Go.Lab Go.Proofs.YtddklkgcodjijaaGreatW.PrintWords Go.Proofs.YtddklkgcodjijaaGreatW.PrintLast Go.Proofs.YtddklkgcodjijaaGreatW.PrintMore PL
theorem stab_any (A1 A2 : Option Addr) (c1 c2 : Nat) (zs : List Int) (es : List S95) (w : World) (hN : Kd.C (Kd.int .i64) w A1 zs.length zs) (hl1 : zs.length ≤ c1) (hE : Kd.C k95 w A2 es.length es) (hl2 : es.length ≤ c2) (hn : zs.length ≤ 300) (he : es.length ≤ 100000)
    (k : Nat) (m : MS) (hm : allM (adjR zs es) k (srt zs).reverse ⟨[], []⟩ = some m) (kS : Nat) (ps : List (List Int)) (hs : spec_SCC.f kS true zs es = some ps) (hpn : ps.length ≤ 1000) (hpl : ∀ c ∈ ps, c.length ≤ 1000) :
    Calls Tryz.prog 9 #[.agg #[.bool true, .slice A1 zs.length c1, .slice A2 es.length c2]] w fun e w' => ∃ v1 v2, e = .returned (.tuple #[v1, v2]) ∧ Kd.R k36 36 w' w.heap.size (fun _ => True) v1 ((m.left.reverse.flatMap (emitQ m.met ps)).map slotS) ∧ Kd.R (Kd.slice 3 (Kd.int .i64)) 22 w' w.heap.size (fun _ => True) v2 (m.left.reverse.flatMap (emitC m.met ps)) ∧ Below w.heap.size w w' := by
  have hb1 : Below w.heap.size w (w.alloc (.cells #[.bool true, .slice A1 zs.length c1, .slice A2 es.length c2] 25)) := (Below.refl _ _).alloc (Nat.le_refl _) _
  exact stab_c ⟨w.heap.size + 1, A1, c1, A2, c2, zs, es, w.alloc (.cells #[.bool true, .slice A1 zs.length c1, .slice A2 es.length c2] 25)⟩
    ⟨Kd.C_below hN hb1, Kd.C_below hE hb1, hl1, hl2, by simp, hn, he⟩ w rfl rfl k m hm kS ps hs hpn hpl
end Go.Proofs.YtddklkgcodjijaaGreat.R

namespace Go.Proofs.YtddklkgcodjijaaGreat.PL
open Go.RowKit Go.Lab Go.Proofs.YtddklkgcodjijaaGreatW.PrintWords Go.Proofs.YtddklkgcodjijaaGreatW.PrintLast Go.Proofs.YtddklkgcodjijaaGreatW.PrintMore
/-- what spec.Stabilized answers -/
def spec_Stabilized.f (k : Nat) (a0_0 : Bool) (l0_1 : List Int) (l0_2 : List S95) : Option (List S36 × List (List Int)) :=
  if l0_1.length ≤ 300 ∧ l0_2.length ≤ 100000 ∧ a0_0 = true then
    (R.allM (R.adjR l0_1 l0_2) 1000 (srt l0_1).reverse ⟨[], []⟩).bind fun m => (spec_SCC.f k true l0_1 l0_2).bind fun ps =>
      if ps.length ≤ 1000 ∧ (ps.all fun q => decide (q.length ≤ 1000)) = true then some ((m.left.reverse.flatMap (R.emitQ m.met ps)).map R.slotS, m.left.reverse.flatMap (R.emitC m.met ps)) else none
  else none
theorem spec_Stabilized.calls (k : Nat) (a0_0 : Bool) (A0_1 : Option Addr) (c0_1 : Nat) (l0_1 : List Int) (A0_2 : Option Addr) (c0_2 : Nat) (l0_2 : List S95) (r1 : List S36) (r2 : List (List Int)) (w : World)
    (hr0_1 : Kd.C (Kd.int .i64) w A0_1 l0_1.length l0_1) (hc0_1 : l0_1.length ≤ c0_1) (hr0_2 : Kd.C k95 w A0_2 l0_2.length l0_2) (hc0_2 : l0_2.length ≤ c0_2) (h : spec_Stabilized.f k a0_0 l0_1 l0_2 = some (r1, r2)) :
    Calls Tryz.prog 9 #[.agg #[.bool a0_0, .slice A0_1 l0_1.length c0_1, .slice A0_2 l0_2.length c0_2]] w fun e w' => ∃ v1_ v2_ : Value, e = .returned (.tuple #[v1_, v2_]) ∧ Kd.R k36 36 w' w.heap.size (fun _ => True) v1_ r1 ∧ Kd.R (Kd.slice 3 (Kd.int .i64)) 22 w' w.heap.size (fun _ => True) v2_ r2 ∧ Below w.heap.size w w' := by
  unfold spec_Stabilized.f at h
  split at h
  · rename_i hc
    obtain ⟨h1, h2, rfl⟩ := hc
    obtain ⟨m, hm, h⟩ := Option.bind_eq_some_iff.1 h
    obtain ⟨ps, hs, h⟩ := Option.bind_eq_some_iff.1 h
    split at h
    · rename_i hl
      simp only [Option.some.injEq, Prod.mk.injEq] at h
      obtain ⟨rfl, rfl⟩ := h
      exact R.stab_any A0_1 A0_2 c0_1 c0_2 l0_1 l0_2 w hr0_1 hc0_1 hr0_2 hc0_2 h1 h2 1000 m hm k ps hs hl.1 (fun q hq => of_decide_eq_true (List.all_eq_true.1 hl.2 q hq))
    · cases h
  · cases h
end Go.Proofs.YtddklkgcodjijaaGreat.PL
