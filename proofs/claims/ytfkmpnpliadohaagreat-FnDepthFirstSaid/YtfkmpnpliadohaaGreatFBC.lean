import Derived.Test.YtfkmpnpliadohaaGreatFBA
import Derived.Test.YtfkmpnpliadohaaGreatFB9
import Derived.Test.YtfkmpnpliadohaaGreatFT2
import Derived.Test.YtfkmpnpliadohaaGreatFBB
set_option linter.unusedVariables false
set_option linter.unusedSimpArgs false
/- impl.BreadthFirst and impl.DepthFirst. -/
namespace Go.Proofs.YtfkmpnpliadohaaGreat.R
open Go.RowKit Go.Lab Go.Maps Go.Proofs.YtfkmpnpliadohaaGreatW.PrintWords Go.Proofs.YtfkmpnpliadohaaGreatW.PrintLast Go.Proofs.YtfkmpnpliadohaaGreatW.PrintMore PL

set_option maxHeartbeats 1000000 in
theorem free_any (d : Bool) (A : Option Addr) (c n : Nat) (w : World) :
    Calls Tryz.prog 67 #[.bool d, .slice A n c] w fun e w' => e = .returned (tfV w.heap.size (w.heap.size + 1)) ∧ w' = (w.alloc (.cells #[.bool d] 4)).alloc (.cells #[.slice A n c] 23) := by
  go_enter Tryz.func67, Tryz.ntmps67
  go_wp2
  go_ret
  exact ⟨rfl, rfl⟩

theorem four_boxes {w W4 : World} {d : Bool} {v1 v2 v3 v4 v5 : Value} {t1 t2 t3 t4 : TypeId} (h : ((((w.alloc (Obj.cells #[Value.bool d, v1, v2] t1)).alloc (Obj.cells #[v3] t2)).alloc (Obj.cells #[v4] t3)).alloc (Obj.cells #[v5] t4)) = W4) :
    Below w.heap.size w W4 ∧ W4.heap[w.heap.size]? = some (.cells #[.bool d, v1, v2] t1 (0, 0)) ∧ W4.heap[w.heap.size + 1]? = some (.cells #[v3] t2 (0, 0)) ∧ W4.heap[w.heap.size + 1 + 1]? = some (.cells #[v4] t3 (0, 0)) ∧ W4.heap[w.heap.size + 1 + 1 + 1]? = some (.cells #[v5] t4 (0, 0)) ∧ W4.heap.size = w.heap.size + 4 := by
  subst h
  refine ⟨?_, ?_, ?_, ?_, ?_, by simp⟩
  · exact ((((Below.refl _ w).alloc (Nat.le_refl _) _).alloc (by simp) _).alloc (by simp; omega) _).alloc (by simp; omega) _
  · exact blk_alloc (blk_alloc (blk_alloc (heap_alloc_new w _) _) _) _
  · have := heap_alloc_new (w.alloc (Obj.cells #[Value.bool d, v1, v2] t1)) (Obj.cells #[v3] t2)
    exact blk_alloc (blk_alloc (by simpa using this) _) _
  · have := heap_alloc_new ((w.alloc (Obj.cells #[Value.bool d, v1, v2] t1)).alloc (Obj.cells #[v3] t2)) (Obj.cells #[v4] t3)
    exact blk_alloc (by simpa using this) _
  · have := heap_alloc_new (((w.alloc (Obj.cells #[Value.bool d, v1, v2] t1)).alloc (Obj.cells #[v3] t2)).alloc (Obj.cells #[v4] t3)) (Obj.cells #[v5] t4)
    simpa using this

/-- the world ahead of a walk -/
theorem three_boxes {w1 W6 : World} {d : Bool} {v2 : Value} {cs : Array Value} {tb : TypeId} (h : ((w1.alloc (.cells #[.bool d] 4)).alloc (.cells #[v2] 23)).alloc (.cells cs tb) = W6) :
    Below w1.heap.size w1 W6 ∧ W6.cell? ⟨w1.heap.size, 0, none⟩ = some (.bool d) ∧ W6.cell? ⟨w1.heap.size + 1, 0, none⟩ = some v2 ∧ W6.heap[w1.heap.size + 1 + 1]? = some (.cells cs tb (0, 0)) ∧ W6.heap.size = w1.heap.size + 3 := by
  subst h
  refine ⟨?_, ?_, ?_, ?_, by simp⟩
  · exact (((Below.refl _ w1).alloc (Nat.le_refl _) _).alloc (by simp) _).alloc (by simp; omega) _
  · exact (blk_cell (blk_alloc (blk_alloc (heap_alloc_new w1 _) _) _) 0).trans rfl
  · have := heap_alloc_new (w1.alloc (Obj.cells #[Value.bool d] 4)) (Obj.cells #[v2] 23)
    exact (blk_cell (blk_alloc (by simpa using this) _) 0).trans rfl
  · have := heap_alloc_new ((w1.alloc (Obj.cells #[Value.bool d] 4)).alloc (Obj.cells #[v2] 23)) (Obj.cells cs tb)
    simpa using this

/-- what stands ahead of a walk, the object and the list of visits aside -/
structure Ahead (w w1 W6 : World) (d : Bool) (gd gv gu g1 g2 base bp : Nat) (zs : List Int) (es : List S38) (p : Pl) (A : Option Addr) (c : Nat) (bs : List S38) (t : Int) : Prop where
  at0 : WAt W6 d gu g1 g2 base bp zs es p A c bs t
  n1 : g1 ≠ gd ∧ g1 ≠ gv
  n2 : g2 ≠ gd ∧ g2 ≠ gv
  nu : gu ≠ gd ∧ gu ≠ gv
  bB : ∃ wB, Kd.C k38 wB A bs.length bs ∧ Below wB.heap.size wB W6 ∧ wB.heap.size ≤ gd ∧ wB.heap.size ≤ gv
theorem ahead_mk {w W4 w1 W6 : World} {d : Bool} {tt : TypeId} {bp c : Nat} {zs : List Int} {es bs : List S38} {A : Option Addr} {t : Int} {cs : Array Value} {tb tv : TypeId} (hn : zs.length ≤ 1000) (hro : readOk zs es = true)
    (hop : Opened W4 w1 d zs es tt bp) (hb : Below w.heap.size w w1) (hB : Kd.C k38 w A bs.length bs) (h1 : w1.heap[w.heap.size + 1]? = some (.cells #[.int .i64 t] 3 (0, 0))) (h2 : w1.heap[w.heap.size + 1 + 1]? = some (.cells #[.slice none 0 0] tv (0, 0)))
    (h : ((w1.alloc (.cells #[.bool d] 4)).alloc (.cells #[.slice A bs.length c] 23)).alloc (.cells cs tb) = W6) :
    ∃ base, Ahead w w1 W6 d (w1.heap.size + 1 + 1) (w.heap.size + 1 + 1) (w.heap.size + 1) w1.heap.size (w1.heap.size + 1) base bp zs (dbl d es) (plOf d zs es) A c bs t := by
  obtain ⟨base, hb1, _, hpl⟩ := hop.base
  obtain ⟨k1, k2, k3, k4, k5⟩ := three_boxes h
  have l1 := blk_lt h1
  have l2 := blk_lt h2
  have hz := hb.size
  refine ⟨base, ⟨⟨(GrOk.mk' (w := w) hn hro (hpl hro)).below k1, k2, k3, (blk_cell (blk_keep k1 h1) 0).trans rfl, Kd.C_below (Kd.C_below hB hb) k1⟩, by omega, by omega, by omega, w, hB, hb.trans (k1.mono hz), by omega, by omega⟩⟩

theorem own_lower {w : World} {b b' : Nat} {e : TypeId} {size n : Nat} {v : Value} {xs : List Value} (h : w.ownsRow b e size v n xs) (hb : b' ≤ b) : w.ownsRow b' e size v n xs := by
  obtain ⟨h1, h2⟩ := h
  refine ⟨h1, h2.imp id ?_⟩
  rintro ⟨g, cap, cur, h3, h4, h5⟩
  exact ⟨g, cap, cur, h3, Nat.le_trans hb h4, h5⟩
theorem eqNil0 (w : World) : (binOp .eql 105 .nilIface .nilIface).run Tryz.prog w = .ok (.bool true) w := by kernel_rfl
theorem eqNil1 (u : Int) (w : World) : (binOp .eql 105 (.iface 118 (.int .i64 u)) .nilIface).run Tryz.prog w = .ok (.bool false) w := by kernel_rfl

theorem bfs_both (w0 : World) (d : Bool) (gd gv gu g1 g2 base bp : Nat) (zs : List Int) (es : List S38) (p : Pl) (A : Option Addr) (c : Nat) (bs : List S38) (t s0 : Int) (K : Nat) (hK : K ≤ 9000) (r : List (Int × Int) × Option Int) (tt : TypeId) (ht : tt = gT d)
    (h : BEnv w0 d gd gv gu g1 g2 base bp zs es p A c bs t) (hs0 : s0 ∈ zs) (hr : bfsF (adjF d zs es bs) t K [s0] [(s0, -1)] 0 0 1 = some r) :
    Calls Tryz.prog 68 #[.pointer (some ⟨gd, 0, none⟩), .iface tt (.agg #[.pointer (some ⟨bp, 0, none⟩)]), .iface 118 (.int .i64 s0), .func (.func 69) #[] #[.pointer (some ⟨gv, 0, none⟩), .pointer (some ⟨gu, 0, none⟩)]] w0 fun e w' =>
      e = .returned (foundV r.2) ∧ BfsEnd w0 w' gd gv r.1 := by
  subst ht
  cases d with
  | true => exact bfsD_any w0 true gd gv gu g1 g2 base bp zs es p A c bs t s0 K hK r h hs0 hr
  | false => exact bfsU_any w0 false gd gv gu g1 g2 base bp zs es p A c bs t s0 K hK r h hs0 hr
theorem dfs_both (w0 : World) (d : Bool) (gd gv gu g1 g2 base bp : Nat) (zs : List Int) (es : List S38) (p : Pl) (A : Option Addr) (c : Nat) (bs : List S38) (t s0 : Int) (K : Nat) (hK : K ≤ 9000) (r : List Int × Option Int) (tt : TypeId) (ht : tt = gT d)
    (h : WEnv w0 d gd gv gu g1 g2 base bp zs es p A c bs t) (hs0 : s0 ∈ zs) (hr : dfsF (adjF d zs es bs) t K [s0] [] = some r) :
    Calls Tryz.prog 71 #[.pointer (some ⟨gd, 0, none⟩), .iface tt (.agg #[.pointer (some ⟨bp, 0, none⟩)]), .iface 118 (.int .i64 s0), .func (.func 72) #[] #[.pointer (some ⟨gu, 0, none⟩)]] w0 fun e w' =>
      e = .returned (foundV r.2) ∧ WalkEnd w0 w' gd gv r.1 := by
  subst ht
  cases d with
  | true => exact dfsD_any w0 true gd gv gu g1 g2 base bp zs es p A c bs t s0 K hK r h hs0 hr
  | false => exact dfsU_any w0 false gd gv gu g1 g2 base bp zs es p A c bs t s0 K hK r h hs0 hr

set_option maxHeartbeats 4000000 in
set_option maxRecDepth 100000 in
theorem bfs_good (d : Bool) (A1 A2 : Option Addr) (c1 c2 : Nat) (zs : List Int) (es : List S38) (s0 t : Int) (A : Option Addr) (c : Nat) (bs : List S38) (w : World)
    (hN : Kd.C (Kd.int .i64) w A1 zs.length zs) (hE : Kd.C k38 w A2 es.length es) (hB : Kd.C k38 w A bs.length bs) (hn : zs.length ≤ 1000) (he : es.length ≤ 1000000) (hb : bs.length ≤ 100000) (wf : ∀ x ∈ zs, (Lit.int .i64 x).wf = true)
    (hro : readOk zs es = true) (hs0 : s0 ∈ zs) (K : Nat) (hK : K ≤ 9000) (r : List (Int × Int) × Option Int) (hr : bfsF (adjF d zs (dbl d es) bs) t K [s0] [(s0, -1)] 0 0 1 = some r) :
    Calls Tryz.prog 21 #[.agg #[.bool d, .slice A1 zs.length c1, .slice A2 es.length c2], .int .i64 s0, .int .i64 t, .slice A bs.length c] w fun e w' => ∃ v, e = .returned (.tuple #[v, .int .i64 (r.2.getD 0), .bool r.2.isSome, .bool false]) ∧ w'.ownsRow w.heap.size 99 2 v r.1.length (visVs r.1) ∧ Below w.heap.size w w' := by
  have HN := Aside0.mk hN
  have HE := Aside0.mk hE
  have HB := Aside0.mk hB
  have HR := Aside0.mk hr
  have HW := Aside0.mk wf
  have hq : (readOk zs es && decide (s0 ∈ zs)) = true := by rw [hro, decide_eq_true hs0]; rfl
  have HRO := Aside0.mk hro
  have HS0 := Aside0.mk hs0
  clear hN hE hB hr wf hro hs0
  go_enter Tryz.func21, Tryz.ntmps21
  go_wp2_with fail
  obtain ⟨W4, hW4⟩ : ∃ W4, ((((w.alloc (Obj.cells #[Value.bool d, Value.slice A1 zs.length c1, Value.slice A2 es.length c2] 25)).alloc (Obj.cells #[Value.int IntKind.i64 t] 3)).alloc (Obj.cells #[Value.slice none 0 0] 44)).alloc (Obj.cells #[Value.int IntKind.i64 s0] 3)) = W4 := ⟨_, rfl⟩
  rw [hW4]
  have HF := Aside0.mk (four_boxes hW4)
  clear hW4
  refine (from1_any d A1 A2 c1 c2 (w.heap.size + 1 + 1 + 1) zs es s0 W4 (Kd.C_below HN.out HF.out.1) (Kd.C_below HE.out HF.out.1) hn he ((blk_cell HF.out.2.2.2.2.1 0).trans rfl)).mono ?_
  rintro e w1 ⟨tt, bp, rfl, hop⟩
  rw [hq]
  have HOP := Aside0.mk hop
  have HBL := Aside0.mk (show Below w.heap.size w w1 from HF.out.1.trans (hop.bel.mono HF.out.1.size))
  have b0 := blk_keep hop.bel HF.out.2.1
  have b1 := blk_keep hop.bel HF.out.2.2.1
  have b2 := blk_keep hop.bel HF.out.2.2.2.1
  have a0 : w1.cell? ⟨w.heap.size, 0, none⟩ = some (.bool d) := (blk_cell b0 0).trans rfl
  have HBK := Aside0.mk (And.intro b1 (And.intro b2 (And.intro (blk_lt b0) (And.intro (blk_lt b1) (blk_lt b2)))))
  clear hop b0 b1 b2
  go_wp2_with (go_at_call 67; refine (free_any d A c bs.length _).mono ?_; rintro e w2 ⟨rfl, hw2⟩; have HW2 := Aside0.mk hw2; unfold tfV; clear hw2)
  have hz2 : w2.heap.size = w1.heap.size + 1 + 1 := by rw [HW2.out]; simp
  obtain ⟨W6, hW6⟩ : ∃ W6, w2.alloc (Obj.cells #[Value.func (Fn.func 65) #[] #[Value.pointer (some ⟨w.heap.size + 1 + 1, 0, none⟩)], Value.func (Fn.func 110) #[] #[Value.pointer (some ⟨w1.heap.size, 0, none⟩), Value.pointer (some ⟨w1.heap.size + 1, 0, none⟩)], Value.int IntKind.i64 0, Value.slice none 0 0, Value.map none] 116) = W6 := ⟨_, rfl⟩
  rw [hW6, hz2]
  have hW6' := hW6
  rw [HW2.out] at hW6'
  obtain ⟨base, hah⟩ := ahead_mk hn HRO.out HOP.out HBL.out HB.out HBK.out.1 HBK.out.2.1 hW6'
  have h3 := three_boxes hW6'
  have HENV := Aside0.mk (show BEnv W6 d (w1.heap.size + 1 + 1) (w.heap.size + 1 + 1) (w.heap.size + 1) w1.heap.size (w1.heap.size + 1) base bp zs (dbl d es) (plOf d zs es) A c bs t from ⟨hah.at0, h3.2.2.2.1, blk_keep h3.1 HBK.out.2.1, hah.n1, hah.n2, hah.nu, HW.out, hah.bB, hb⟩)
  have H3 := Aside0.mk (show Below w.heap.size w W6 ∧ w.heap.size + 1 + 1 < W6.heap.size ∧ w.heap.size ≤ W6.heap.size ∧ w.heap.size ≤ w1.heap.size from ⟨HBL.out.trans (h3.1.mono HBL.out.size), blk_lt (blk_keep h3.1 HBK.out.2.1), Nat.le_trans HBL.out.size h3.1.size, HBL.out.size⟩)
  clear hW6 hW6' hah h3 hz2 a0
  refine (bfs_both W6 d _ _ _ _ _ base bp zs (dbl d es) (plOf d zs es) A c bs t s0 K hK r tt HOP.out.ty HENV.out HS0.out HR.out).mono ?_
  rintro e w7 ⟨rfl, vv, hvis, hkp⟩
  have HV := Aside0.mk hvis
  have HKP := Aside0.mk hkp
  have g1 : w7.cell? ⟨w.heap.size + 1 + 1, 0, none⟩ = some vv := (blk_cell hvis.blk 0).trans rfl
  have g2 := blk_frozen hvis.blk 0
  have g3 := blk_lt hvis.blk
  have k0 := eqNil0
  have HFIN := Aside0.mk (show ∀ W, W = w7.setCell ⟨w.heap.size + 1 + 1, 0, none⟩ vv → W.ownsRow w.heap.size 99 2 vv r.1.length (visVs r.1) ∧ Below w.heap.size w W by
    intro W hW
    subst hW
    have hne := hvis.ne
    refine ⟨own_of_heap (own_lower hvis.own H3.out.2.2.1) fun k hk => Below.heap_setCell _ _ _ _ (fun e => hne (by rw [hk, e])), ?_⟩
    have hb7 : Below w.heap.size w w7 := H3.out.1.trans (hkp.below H3.out.2.2.1 (fun k hm => by have := H3.out; unfold WM at hm; omega))
    exact hb7.setCell (by simp; omega) _)
  obtain ⟨NA, NC, hvv⟩ := own_slice hvis.own
  subst hvv
  have HQ1 := Aside0.mk (show (w7.setCell ⟨w.heap.size + 1 + 1, 0, none⟩ (.slice NA r.1.length NC)).cell? ⟨w.heap.size + 1 + 1, 0, none⟩ = some (.slice NA r.1.length NC) from (blk_cell (blk_put (cs := #[.slice NA r.1.length NC]) hvis.blk 0 _ rfl) 0).trans rfl)
  clear hvis hkp
  obtain ⟨r1, r2⟩ := r
  cases r2 with
  | none =>
    unfold foundV
    go_wp2
    exact bodyPost_ret (v := .tuple #[.slice NA r1.length NC, .int .i64 0, .bool false, .bool false]) (by simp [results, Tryz.results21, go_sem, HQ1.out]) rfl ⟨_, rfl, HFIN.out _ rfl⟩
  | some u =>
    have k1 := eqNil1 u
    unfold foundV
    go_wp2
    go_region_law (go_simp; go_at_call 66; refine (number_any _ _).mono ?_; rintro e w1 ⟨rfl, rfl⟩; try go_simp)
    all_goals
      go_wp2
      exact bodyPost_ret (v := .tuple #[.slice NA r1.length NC, .int .i64 u, .bool true, .bool false]) (by simp [results, Tryz.results21, go_sem, HQ1.out]) rfl ⟨_, rfl, (HFIN.out _ rfl).1, (HFIN.out _ rfl).2.drew⟩
end Go.Proofs.YtfkmpnpliadohaaGreat.R

set_option linter.unusedVariables false
set_option linter.unusedSimpArgs false
/- impl.BreadthFirst and impl.DepthFirst: what is bad; the walk depth first; the contracts in the printed contracts' form. -/
namespace Go.Proofs.YtfkmpnpliadohaaGreat.R
open Go.RowKit Go.Lab Go.Maps Go.Proofs.YtfkmpnpliadohaaGreatW.PrintWords Go.Proofs.YtfkmpnpliadohaaGreatW.PrintLast Go.Proofs.YtfkmpnpliadohaaGreatW.PrintMore PL

set_option maxHeartbeats 4000000 in
set_option maxRecDepth 100000 in
theorem dfs_good (d : Bool) (A1 A2 : Option Addr) (c1 c2 : Nat) (zs : List Int) (es : List S38) (s0 t : Int) (A : Option Addr) (c : Nat) (bs : List S38) (w : World)
    (hN : Kd.C (Kd.int .i64) w A1 zs.length zs) (hE : Kd.C k38 w A2 es.length es) (hB : Kd.C k38 w A bs.length bs) (hn : zs.length ≤ 1000) (he : es.length ≤ 1000000) (hb : bs.length ≤ 100000) (wf : ∀ x ∈ zs, (Lit.int .i64 x).wf = true)
    (hro : readOk zs es = true) (hs0 : s0 ∈ zs) (K : Nat) (hK : K ≤ 9000) (r : List Int × Option Int) (hr : dfsF (adjF d zs (dbl d es) bs) t K [s0] [] = some r) :
    Calls Tryz.prog 22 #[.agg #[.bool d, .slice A1 zs.length c1, .slice A2 es.length c2], .int .i64 s0, .int .i64 t, .slice A bs.length c] w fun e w' => ∃ v, e = .returned (.tuple #[v, .int .i64 (r.2.getD 0), .bool r.2.isSome, .bool false]) ∧ w'.ownsRow w.heap.size 3 1 v r.1.length (nums .i64 r.1) ∧ Below w.heap.size w w' := by
  have HN := Aside0.mk hN
  have HE := Aside0.mk hE
  have HB := Aside0.mk hB
  have HR := Aside0.mk hr
  have HW := Aside0.mk wf
  have hq : (readOk zs es && decide (s0 ∈ zs)) = true := by rw [hro, decide_eq_true hs0]; rfl
  have HRO := Aside0.mk hro
  have HS0 := Aside0.mk hs0
  clear hN hE hB hr wf hro hs0
  go_enter Tryz.func22, Tryz.ntmps22
  go_wp2_with fail
  obtain ⟨W4, hW4⟩ : ∃ W4, ((((w.alloc (Obj.cells #[Value.bool d, Value.slice A1 zs.length c1, Value.slice A2 es.length c2] 25)).alloc (Obj.cells #[Value.int IntKind.i64 t] 3)).alloc (Obj.cells #[Value.slice none 0 0] 22)).alloc (Obj.cells #[Value.int IntKind.i64 s0] 3)) = W4 := ⟨_, rfl⟩
  rw [hW4]
  have HF := Aside0.mk (four_boxes hW4)
  clear hW4
  refine (from1_any d A1 A2 c1 c2 (w.heap.size + 1 + 1 + 1) zs es s0 W4 (Kd.C_below HN.out HF.out.1) (Kd.C_below HE.out HF.out.1) hn he ((blk_cell HF.out.2.2.2.2.1 0).trans rfl)).mono ?_
  rintro e w1 ⟨tt, bp, rfl, hop⟩
  rw [hq]
  have HOP := Aside0.mk hop
  have HBL := Aside0.mk (show Below w.heap.size w w1 from HF.out.1.trans (hop.bel.mono HF.out.1.size))
  have b0 := blk_keep hop.bel HF.out.2.1
  have b1 := blk_keep hop.bel HF.out.2.2.1
  have b2 := blk_keep hop.bel HF.out.2.2.2.1
  have a0 : w1.cell? ⟨w.heap.size, 0, none⟩ = some (.bool d) := (blk_cell b0 0).trans rfl
  have HBK := Aside0.mk (And.intro b1 (And.intro b2 (And.intro (blk_lt b0) (And.intro (blk_lt b1) (blk_lt b2)))))
  clear hop b0 b1 b2
  go_wp2_with (go_at_call 67; refine (free_any d A c bs.length _).mono ?_; rintro e w2 ⟨rfl, hw2⟩; have HW2 := Aside0.mk hw2; unfold tfV; clear hw2)
  have hz2 : w2.heap.size = w1.heap.size + 1 + 1 := by rw [HW2.out]; simp
  obtain ⟨W6, hW6⟩ : ∃ W6, w2.alloc (Obj.cells #[Value.func (Fn.func 70) #[] #[Value.pointer (some ⟨w.heap.size + 1 + 1, 0, none⟩)], Value.func (Fn.func 110) #[] #[Value.pointer (some ⟨w1.heap.size, 0, none⟩), Value.pointer (some ⟨w1.heap.size + 1, 0, none⟩)], Value.slice none 0 0, Value.map none] 122) = W6 := ⟨_, rfl⟩
  rw [hW6, hz2]
  have hW6' := hW6
  rw [HW2.out] at hW6'
  obtain ⟨base, hah⟩ := ahead_mk hn HRO.out HOP.out HBL.out HB.out HBK.out.1 HBK.out.2.1 hW6'
  have h3 := three_boxes hW6'
  have HENV := Aside0.mk (show WEnv W6 d (w1.heap.size + 1 + 1) (w.heap.size + 1 + 1) (w.heap.size + 1) w1.heap.size (w1.heap.size + 1) base bp zs (dbl d es) (plOf d zs es) A c bs t from ⟨hah.at0, h3.2.2.2.1, blk_keep h3.1 HBK.out.2.1, hah.n1, hah.n2, hah.nu, HW.out, hah.bB, hb⟩)
  have H3 := Aside0.mk (show Below w.heap.size w W6 ∧ w.heap.size + 1 + 1 < W6.heap.size ∧ w.heap.size ≤ W6.heap.size ∧ w.heap.size ≤ w1.heap.size from ⟨HBL.out.trans (h3.1.mono HBL.out.size), blk_lt (blk_keep h3.1 HBK.out.2.1), Nat.le_trans HBL.out.size h3.1.size, HBL.out.size⟩)
  clear hW6 hW6' hah h3 hz2 a0
  refine (dfs_both W6 d _ _ _ _ _ base bp zs (dbl d es) (plOf d zs es) A c bs t s0 K hK r tt HOP.out.ty HENV.out HS0.out HR.out).mono ?_
  rintro e w7 ⟨rfl, vv, hvis, hkp⟩
  have HV := Aside0.mk hvis
  have HKP := Aside0.mk hkp
  have g1 : w7.cell? ⟨w.heap.size + 1 + 1, 0, none⟩ = some vv := (blk_cell hvis.blk 0).trans rfl
  have g2 := blk_frozen hvis.blk 0
  have g3 := blk_lt hvis.blk
  have k0 := eqNil0
  have HFIN := Aside0.mk (show ∀ W, W = w7.setCell ⟨w.heap.size + 1 + 1, 0, none⟩ vv → W.ownsRow w.heap.size 3 1 vv r.1.length (nums .i64 r.1) ∧ Below w.heap.size w W by
    intro W hW
    subst hW
    have hne := hvis.ne
    refine ⟨own_of_heap (own_lower hvis.own H3.out.2.2.1) fun k hk => Below.heap_setCell _ _ _ _ (fun e => hne (by rw [hk, e])), ?_⟩
    have hb7 : Below w.heap.size w w7 := H3.out.1.trans (hkp.below H3.out.2.2.1 (fun k hm => by have := H3.out; unfold WM at hm; omega))
    exact hb7.setCell (by simp; omega) _)
  obtain ⟨NA, NC, hvv⟩ := own_slice hvis.own
  subst hvv
  have HQ1 := Aside0.mk (show (w7.setCell ⟨w.heap.size + 1 + 1, 0, none⟩ (.slice NA r.1.length NC)).cell? ⟨w.heap.size + 1 + 1, 0, none⟩ = some (.slice NA r.1.length NC) from (blk_cell (blk_put (cs := #[.slice NA r.1.length NC]) hvis.blk 0 _ rfl) 0).trans rfl)
  clear hvis hkp
  obtain ⟨r1, r2⟩ := r
  cases r2 with
  | none =>
    unfold foundV
    go_wp2
    exact bodyPost_ret (v := .tuple #[.slice NA r1.length NC, .int .i64 0, .bool false, .bool false]) (by simp [results, Tryz.results22, go_sem, HQ1.out]) rfl ⟨_, rfl, HFIN.out _ rfl⟩
  | some u =>
    have k1 := eqNil1 u
    unfold foundV
    go_wp2
    go_region_law (go_simp; go_at_call 66; refine (number_any _ _).mono ?_; rintro e w1 ⟨rfl, rfl⟩; try go_simp)
    all_goals
      go_wp2
      exact bodyPost_ret (v := .tuple #[.slice NA r1.length NC, .int .i64 u, .bool true, .bool false]) (by simp [results, Tryz.results22, go_sem, HQ1.out]) rfl ⟨_, rfl, (HFIN.out _ rfl).1, (HFIN.out _ rfl).2.drew⟩
set_option maxHeartbeats 4000000 in
set_option maxRecDepth 100000 in
theorem bfs_bad (d : Bool) (A1 A2 : Option Addr) (c1 c2 : Nat) (zs : List Int) (es : List S38) (s0 t : Int) (A : Option Addr) (c : Nat) (bs : List S38) (w : World)
    (hN : Kd.C (Kd.int .i64) w A1 zs.length zs) (hE : Kd.C k38 w A2 es.length es) (hB : Kd.C k38 w A bs.length bs) (hn : zs.length ≤ 1000) (he : es.length ≤ 1000000) (hb : bs.length ≤ 100000) (wf : ∀ x ∈ zs, (Lit.int .i64 x).wf = true)
    (hq : (readOk zs es && decide (s0 ∈ zs)) = false) :
    Calls Tryz.prog 21 #[.agg #[.bool d, .slice A1 zs.length c1, .slice A2 es.length c2], .int .i64 s0, .int .i64 t, .slice A bs.length c] w fun e w' => e = .returned (.tuple #[.slice none 0 0, .int .i64 0, .bool false, .bool true]) ∧ Below w.heap.size w w' := by
  have HN := Aside0.mk hN
  have HE := Aside0.mk hE
  clear hN hE hB wf
  go_enter Tryz.func21, Tryz.ntmps21
  go_wp2_with fail
  obtain ⟨W4, hW4⟩ : ∃ W4, ((((w.alloc (Obj.cells #[Value.bool d, Value.slice A1 zs.length c1, Value.slice A2 es.length c2] 25)).alloc (Obj.cells #[Value.int IntKind.i64 t] 3)).alloc (Obj.cells #[Value.slice none 0 0] 44)).alloc (Obj.cells #[Value.int IntKind.i64 s0] 3)) = W4 := ⟨_, rfl⟩
  rw [hW4]
  have HF := Aside0.mk (four_boxes hW4)
  clear hW4
  refine (from1_any d A1 A2 c1 c2 (w.heap.size + 1 + 1 + 1) zs es s0 W4 (Kd.C_below HN.out HF.out.1) (Kd.C_below HE.out HF.out.1) hn he ((blk_cell HF.out.2.2.2.2.1 0).trans rfl)).mono ?_
  rintro e w1 ⟨tt, bp, rfl, hop⟩
  rw [hq]
  have HOP := Aside0.mk hop
  have HBL := Aside0.mk (show Below w.heap.size w w1 from HF.out.1.trans (hop.bel.mono HF.out.1.size))
  have b0 := blk_keep hop.bel HF.out.2.1
  have b1 := blk_keep hop.bel HF.out.2.2.1
  have b2 := blk_keep hop.bel HF.out.2.2.2.1
  have a0 : w1.cell? ⟨w.heap.size, 0, none⟩ = some (.bool d) := (blk_cell b0 0).trans rfl
  have HB1 := Aside0.mk b1
  have HB2 := Aside0.mk b2
  have g1 : w1.cell? ⟨w.heap.size + 1 + 1, 0, none⟩ = some (.slice none 0 0) := (blk_cell b2 0).trans rfl
  have g2 := blk_frozen b2 0
  have HQ1 := Aside0.mk (show (w1.setCell ⟨w.heap.size + 1 + 1, 0, none⟩ (.slice none 0 0)).cell? ⟨w.heap.size + 1 + 1, 0, none⟩ = some (.slice none 0 0) from (blk_cell (blk_put (cs := #[.slice none 0 0]) b2 0 _ rfl) 0).trans rfl)
  clear hop b0 b1 b2 a0
  go_wp2
  exact bodyPost_ret (v := .tuple #[.slice none 0 0, .int .i64 0, .bool false, .bool true]) (by simp [results, Tryz.results21, go_sem, HQ1.out]) rfl ⟨rfl, HBL.out.setCell (by simp; omega) _⟩

set_option maxHeartbeats 4000000 in
set_option maxRecDepth 100000 in
theorem dfs_bad (d : Bool) (A1 A2 : Option Addr) (c1 c2 : Nat) (zs : List Int) (es : List S38) (s0 t : Int) (A : Option Addr) (c : Nat) (bs : List S38) (w : World)
    (hN : Kd.C (Kd.int .i64) w A1 zs.length zs) (hE : Kd.C k38 w A2 es.length es) (hB : Kd.C k38 w A bs.length bs) (hn : zs.length ≤ 1000) (he : es.length ≤ 1000000) (hb : bs.length ≤ 100000) (wf : ∀ x ∈ zs, (Lit.int .i64 x).wf = true)
    (hq : (readOk zs es && decide (s0 ∈ zs)) = false) :
    Calls Tryz.prog 22 #[.agg #[.bool d, .slice A1 zs.length c1, .slice A2 es.length c2], .int .i64 s0, .int .i64 t, .slice A bs.length c] w fun e w' => e = .returned (.tuple #[.slice none 0 0, .int .i64 0, .bool false, .bool true]) ∧ Below w.heap.size w w' := by
  have HN := Aside0.mk hN
  have HE := Aside0.mk hE
  clear hN hE hB wf
  go_enter Tryz.func22, Tryz.ntmps22
  go_wp2_with fail
  obtain ⟨W4, hW4⟩ : ∃ W4, ((((w.alloc (Obj.cells #[Value.bool d, Value.slice A1 zs.length c1, Value.slice A2 es.length c2] 25)).alloc (Obj.cells #[Value.int IntKind.i64 t] 3)).alloc (Obj.cells #[Value.slice none 0 0] 22)).alloc (Obj.cells #[Value.int IntKind.i64 s0] 3)) = W4 := ⟨_, rfl⟩
  rw [hW4]
  have HF := Aside0.mk (four_boxes hW4)
  clear hW4
  refine (from1_any d A1 A2 c1 c2 (w.heap.size + 1 + 1 + 1) zs es s0 W4 (Kd.C_below HN.out HF.out.1) (Kd.C_below HE.out HF.out.1) hn he ((blk_cell HF.out.2.2.2.2.1 0).trans rfl)).mono ?_
  rintro e w1 ⟨tt, bp, rfl, hop⟩
  rw [hq]
  have HOP := Aside0.mk hop
  have HBL := Aside0.mk (show Below w.heap.size w w1 from HF.out.1.trans (hop.bel.mono HF.out.1.size))
  have b0 := blk_keep hop.bel HF.out.2.1
  have b1 := blk_keep hop.bel HF.out.2.2.1
  have b2 := blk_keep hop.bel HF.out.2.2.2.1
  have a0 : w1.cell? ⟨w.heap.size, 0, none⟩ = some (.bool d) := (blk_cell b0 0).trans rfl
  have HB1 := Aside0.mk b1
  have HB2 := Aside0.mk b2
  have g1 : w1.cell? ⟨w.heap.size + 1 + 1, 0, none⟩ = some (.slice none 0 0) := (blk_cell b2 0).trans rfl
  have g2 := blk_frozen b2 0
  have HQ1 := Aside0.mk (show (w1.setCell ⟨w.heap.size + 1 + 1, 0, none⟩ (.slice none 0 0)).cell? ⟨w.heap.size + 1 + 1, 0, none⟩ = some (.slice none 0 0) from (blk_cell (blk_put (cs := #[.slice none 0 0]) b2 0 _ rfl) 0).trans rfl)
  clear hop b0 b1 b2 a0
  go_wp2
  exact bodyPost_ret (v := .tuple #[.slice none 0 0, .int .i64 0, .bool false, .bool true]) (by simp [results, Tryz.results22, go_sem, HQ1.out]) rfl ⟨rfl, HBL.out.setCell (by simp; omega) _⟩

theorem visVs_S (vs : List (Int × Int)) : (vs.map fun p => (⟨p.1, p.2⟩ : S99)).length = vs.length := by simp
theorem R_of_vis {w : World} {base : Nat} {v : Value} {vs : List (Int × Int)} (h : w.ownsRow base 99 2 v vs.length (visVs vs)) : Kd.R k99 99 w base (fun _ => True) v (vs.map fun p => (⟨p.1, p.2⟩ : S99)) := by
  refine ⟨fun _ _ => trivial, visVs vs, by rw [visVs_S]; exact h, by rw [visVs_len, visVs_S]; rfl, fun j p hj => ?_⟩
  obtain ⟨hl, rfl⟩ := List.getElem?_eq_some_iff.1 hj
  rw [visVs_S] at hl
  obtain ⟨e1, e2⟩ := visVs_at vs j hl
  have e : List.take 2 (List.drop (j * 2) (visVs vs)) = [.int .i64 vs[j].1, .int .i64 vs[j].2] := by
    apply List.ext_getElem?
    intro i
    rw [List.getElem?_take, Nat.mul_comm]
    match i with
    | 0 => rw [if_pos (by omega), List.getElem?_drop]; exact e1
    | 1 => rw [if_pos (by omega), List.getElem?_drop]; exact e2
    | i + 2 => rw [if_neg (by omega)]; rfl
  show k99.M _ _ _ _ (List.take 2 (List.drop (j * 2) (visVs vs)))
  rw [e]
  simp only [List.getElem_map]
  exact k99_mkM _ _ _ _
end Go.Proofs.YtfkmpnpliadohaaGreat.R

set_option linter.unusedVariables false
set_option linter.unusedSimpArgs false
/- The contracts of impl.BreadthFirst and impl.DepthFirst, in the printed contracts' form. -/
namespace Go.Proofs.YtfkmpnpliadohaaGreat.PL
open Go.RowKit Go.Lab Go.Proofs.YtfkmpnpliadohaaGreatW.PrintWords Go.Proofs.YtfkmpnpliadohaaGreatW.PrintLast Go.Proofs.YtfkmpnpliadohaaGreatW.PrintMore
def impl_BreadthFirst.f (a0_0 : Bool) (l0_1 : List Int) (l0_2 : List S38) (a1 : Int) (a2 : Int) (l3 : List S38) : Option (List S99 × Int × Bool × Bool) :=
  if l0_1.length ≤ 90 ∧ l0_2.length ≤ 1000000 ∧ l3.length ≤ 100000 ∧ (l0_1.all fun x => (Lit.int .i64 x).wf) = true then
    if (R.readOk l0_1 l0_2 && decide (a1 ∈ l0_1)) = true then (R.bfsF (R.adjF a0_0 l0_1 (R.dbl a0_0 l0_2) l3) a2 9000 [a1] [(a1, -1)] 0 0 1).map fun r => (r.1.map (fun p => (⟨p.1, p.2⟩ : S99)), r.2.getD 0, r.2.isSome, false)
    else some ([], 0, false, true)
  else none
theorem impl_BreadthFirst.calls (a0_0 : Bool) (A0_1 : Option Addr) (c0_1 : Nat) (l0_1 : List Int) (A0_2 : Option Addr) (c0_2 : Nat) (l0_2 : List S38) (a1 : Int) (a2 : Int) (A3 : Option Addr) (c3 : Nat) (l3 : List S38) (r1 : List S99) (r2 : Int) (r3 : Bool) (r4 : Bool) (w : World)
    (hr0_1 : Kd.C (Kd.int .i64) w A0_1 l0_1.length l0_1) (hc0_1 : l0_1.length ≤ c0_1) (hr0_2 : Kd.C k38 w A0_2 l0_2.length l0_2) (hc0_2 : l0_2.length ≤ c0_2) (hr3 : Kd.C k38 w A3 l3.length l3) (hc3 : l3.length ≤ c3) (h : impl_BreadthFirst.f a0_0 l0_1 l0_2 a1 a2 l3 = some (r1, r2, r3, r4)) :
    Calls Tryz.prog 21 #[.agg #[.bool a0_0, .slice A0_1 l0_1.length c0_1, .slice A0_2 l0_2.length c0_2], .int .i64 a1, .int .i64 a2, .slice A3 l3.length c3] w fun e w' => ∃ v1_ : Value, e = .returned (.tuple #[v1_, .int .i64 r2, .bool r3, .bool r4]) ∧ Kd.R k99 99 w' w.heap.size (fun _ => True) v1_ r1 ∧ Below w.heap.size w w' := by
  unfold impl_BreadthFirst.f at h
  split at h
  · rename_i hc
    obtain ⟨h1, h2, h3, h4⟩ := hc
    split at h
    · rename_i hgood
      obtain ⟨r, hr, he⟩ := Option.map_eq_some_iff.1 h
      simp only [Prod.mk.injEq] at he
      obtain ⟨rfl, rfl, rfl, rfl⟩ := he
      simp only [Bool.and_eq_true, decide_eq_true_eq] at hgood
      refine (R.bfs_good a0_0 A0_1 A0_2 c0_1 c0_2 l0_1 l0_2 a1 a2 A3 c3 l3 w hr0_1 hr0_2 hr3 (by omega) h2 h3 (List.all_eq_true.1 h4) hgood.1 hgood.2 9000 (Nat.le_refl _) r hr).mono ?_
      rintro e w' ⟨v, rfl, ho, hb⟩
      exact ⟨v, rfl, R.R_of_vis ho, hb⟩
    · rename_i hbad
      simp only [Option.some.injEq, Prod.mk.injEq] at h
      obtain ⟨rfl, rfl, rfl, rfl⟩ := h
      refine (R.bfs_bad a0_0 A0_1 A0_2 c0_1 c0_2 l0_1 l0_2 a1 a2 A3 c3 l3 w hr0_1 hr0_2 hr3 (by omega) h2 h3 (List.all_eq_true.1 h4) (by simpa using hbad)).mono ?_
      rintro e w' ⟨rfl, hb⟩
      exact ⟨_, rfl, Kd.R_nil _ _ _ _ _, hb⟩
  · cases h
def impl_DepthFirst.f (a0_0 : Bool) (l0_1 : List Int) (l0_2 : List S38) (a1 : Int) (a2 : Int) (l3 : List S38) : Option (List Int × Int × Bool × Bool) :=
  if l0_1.length ≤ 90 ∧ l0_2.length ≤ 1000000 ∧ l3.length ≤ 100000 ∧ (l0_1.all fun x => (Lit.int .i64 x).wf) = true then
    if (R.readOk l0_1 l0_2 && decide (a1 ∈ l0_1)) = true then (R.dfsF (R.adjF a0_0 l0_1 (R.dbl a0_0 l0_2) l3) a2 9000 [a1] []).map fun r => (r.1, r.2.getD 0, r.2.isSome, false)
    else some ([], 0, false, true)
  else none
theorem impl_DepthFirst.calls (a0_0 : Bool) (A0_1 : Option Addr) (c0_1 : Nat) (l0_1 : List Int) (A0_2 : Option Addr) (c0_2 : Nat) (l0_2 : List S38) (a1 : Int) (a2 : Int) (A3 : Option Addr) (c3 : Nat) (l3 : List S38) (r1 : List Int) (r2 : Int) (r3 : Bool) (r4 : Bool) (w : World)
    (hr0_1 : Kd.C (Kd.int .i64) w A0_1 l0_1.length l0_1) (hc0_1 : l0_1.length ≤ c0_1) (hr0_2 : Kd.C k38 w A0_2 l0_2.length l0_2) (hc0_2 : l0_2.length ≤ c0_2) (hr3 : Kd.C k38 w A3 l3.length l3) (hc3 : l3.length ≤ c3) (h : impl_DepthFirst.f a0_0 l0_1 l0_2 a1 a2 l3 = some (r1, r2, r3, r4)) :
    Calls Tryz.prog 22 #[.agg #[.bool a0_0, .slice A0_1 l0_1.length c0_1, .slice A0_2 l0_2.length c0_2], .int .i64 a1, .int .i64 a2, .slice A3 l3.length c3] w fun e w' => ∃ v1_ : Value, e = .returned (.tuple #[v1_, .int .i64 r2, .bool r3, .bool r4]) ∧ Kd.R (Kd.int .i64) 3 w' w.heap.size (fun _ => True) v1_ r1 ∧ Below w.heap.size w w' := by
  unfold impl_DepthFirst.f at h
  split at h
  · rename_i hc
    obtain ⟨h1, h2, h3, h4⟩ := hc
    split at h
    · rename_i hgood
      obtain ⟨r, hr, he⟩ := Option.map_eq_some_iff.1 h
      simp only [Prod.mk.injEq] at he
      obtain ⟨rfl, rfl, rfl, rfl⟩ := he
      simp only [Bool.and_eq_true, decide_eq_true_eq] at hgood
      refine (R.dfs_good a0_0 A0_1 A0_2 c0_1 c0_2 l0_1 l0_2 a1 a2 A3 c3 l3 w hr0_1 hr0_2 hr3 (by omega) h2 h3 (List.all_eq_true.1 h4) hgood.1 hgood.2 9000 (Nat.le_refl _) r hr).mono ?_
      rintro e w' ⟨v, rfl, ho, hb⟩
      exact ⟨v, rfl, R.R_of_nums ho, hb⟩
    · rename_i hbad
      simp only [Option.some.injEq, Prod.mk.injEq] at h
      obtain ⟨rfl, rfl, rfl, rfl⟩ := h
      refine (R.dfs_bad a0_0 A0_1 A0_2 c0_1 c0_2 l0_1 l0_2 a1 a2 A3 c3 l3 w hr0_1 hr0_2 hr3 (by omega) h2 h3 (List.all_eq_true.1 h4) (by simpa using hbad)).mono ?_
      rintro e w' ⟨rfl, hb⟩
      exact ⟨_, rfl, Kd.R_nil _ _ _ _ _, hb⟩
  · cases h
end Go.Proofs.YtfkmpnpliadohaaGreat.PL
