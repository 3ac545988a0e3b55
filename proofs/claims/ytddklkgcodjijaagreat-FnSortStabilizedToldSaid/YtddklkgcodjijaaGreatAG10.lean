import Derived.Test.YtddklkgcodjijaaGreatAG9
import Derived.Test.YtddklkgcodjijaaGreatAG7
import Derived.Test.YtddklkgcodjijaaGreatAG0
import Derived.Test.YtddklkgcodjijaaGreatAG8
import Derived.Test.YtddklkgcodjijaaGreatAG5
set_option linter.unusedVariables false
set_option linter.unusedSimpArgs false
/- topo.tarjanSCCstabilized over topo.lexical: all nodes are walked from, the greatest first. -/
namespace Go.Proofs.YtddklkgcodjijaaGreat.R
open Go.RowKit Go.Lab Go.Maps Go.Proofs.YtddklkgcodjijaaGreatW.PrintWords Go.Proofs.YtddklkgcodjijaaGreatW.PrintLast Go.Proofs.YtddklkgcodjijaaGreatW.PrintMore PL

theorem strong_allO (adj : Int → List Int) (adj_len : ∀ u, (adj u).length ≤ 100000000) (ns : List Int) (lo gt gi gl gs gb go : Nat) (Env : World → Prop) (hns : ns.length ≤ 1000) (hwf : ∀ x ∈ ns, (Lit.int .i64 x).wf = true) (hin : ∀ u, ∀ x ∈ adj u, x ∈ ns) (hS : SuccOkO adj ns gb go Env) (hE : EnvOk lo gt gi gl gs Env) :
    ∀ k, StrongAtO adj ns lo gt gi gl gs gb go Env k
  | 0 => by
    intro g v s r w st ov rows _ _ _ _ _ h _ _
    simp [strongT] at h
  | k + 1 => strong_stepO adj adj_len ns lo gt gi gl gs gb go Env hns hwf hin hS hE k (strong_allO adj adj_len ns lo gt gi gl gs gb go Env hns hwf hin hS hE k)

theorem run_store_f82 (gb go : Nat) (a : Addr) (m : Mode) (w : World) : (store a (.func (.func 99) #[] #[.pointer (some ⟨gb, 0, none⟩), .pointer (some ⟨go, 0, none⟩)]) m).run Tryz.prog w = stored Tryz.prog w a (.func (.func 99) #[] #[.pointer (some ⟨gb, 0, none⟩), .pointer (some ⟨go, 0, none⟩)]) m := run_store Tryz.prog w a _ m rfl

/-- Tarjan's object and its maps, made -/
structure ObjNewO (w0 w : World) (gt gi gl gs gb go : Nat) : Prop where
  t0 : w0.heap.size ≤ gt
  i0 : w0.heap.size ≤ gi
  l0 : w0.heap.size ≤ gl
  s0 : w0.heap.size ≤ gs
  il : gi ≠ gl
  is : gi ≠ gs
  ls : gl ≠ gs
  old : Below w0.heap.size w0 w
  blk : w.heap[gt]? = some (.cells #[fvO gb go, .int .i64 0, .map (some gi), .map (some gl), .map (some gs), .slice none 0 0, .slice none 0 0] 166 (0, 0))
  mi : w.heap[gi]? = some (.map #[] 0)
  ml : w.heap[gl]? = some (.map #[] 0)
  ms : w.heap[gs]? = some (.map #[] 0)
theorem ObjNewO.to {w0 w : World} {gt gi gl gs gb go : Nat} (h : ObjNewO w0 w gt gi gl gs gb go) : TO ⟨gt, gi, gl, gs, w.heap.size, fvO gb go, w, .slice none 0 0, .slice none 0 0⟩ w TS.none (.slice none 0 0) (.slice none 0 0) [] :=
  ⟨h.blk, NumOk.fresh h.mi, NumOk.fresh h.ml, SetOk.fresh h.ms, World.ownsRow_nil _ _ _ _, ⟨World.ownsRow_nil _ _ _ _, rfl, fun i hi => absurd hi (Nat.not_lt_zero _)⟩, fun v hv => (by cases hv), h.il, h.is, h.ls,
    ⟨blk_lt h.blk, (NumOk.fresh h.mi).lt, (NumOk.fresh h.ml).lt, (SetOk.fresh h.ms).lt⟩, Nat.le_refl _, KeepF.refl _ _, .inl rfl, .inl rfl, List.Pairwise.nil⟩
theorem eq_lexical (w : World) : (binOp .eql 92 (.func (.func 67) #[] #[]) .nilFunc).run Tryz.prog w = .ok (.bool false) w := by kernel_rfl
theorem OEnv.ok {wE : World} {gb go base bp lo gt gi gl gs : Nat} {zs : List Int} {es : List S95} {p : Pl} (h0 : wE.heap.size ≤ gb) (hl : gb < lo) (ht : gb < gt) (hi : gb < gi) (hll : gb < gl) (hs : gb < gs) (hl2 : go < lo) (ht2 : go < gt) (hi2 : go < gi) (hll2 : go < gl) (hs2 : go < gs) : EnvOk lo gt gi gl gs (OEnv wE gb go base bp zs es p) :=
  fun w w' h hk => ⟨GEnv.ok h0 hl ht hi hll hs w w' h.g hk, (hk go hl2 (by omega) (by omega) (by omega) (by omega)).trans h.box⟩

attribute [local go_sem] run_store_f82
set_option maxHeartbeats 16000000 in
set_option maxRecDepth 100000 in
theorem tarjanO_any (base bp : Nat) (zs : List Int) (es : List S95) (p : Pl) (w : World) (h : GrOk w base bp zs es p) (wf : ∀ x ∈ zs, (Lit.int .i64 x).wf = true) (k : Nat) (r : TS) (hr : allT (adjR zs es) k (srt zs).reverse TS.none = some r) :
    Calls Tryz.prog 68 #[.iface 57 (.agg #[.pointer (some ⟨bp, 0, none⟩)]), .func (.func 67) #[] #[]] w fun e w' => ∃ lv rows, e = .returned lv ∧ RwsV kpN w.heap.size w' lv rows r.out ∧ (rows.Pairwise fun u v => ∀ k, u.ownBlock = some k → v.ownBlock ≠ some k) ∧ Below w.heap.size w w' := by
  have hn := h.hn
  have hb1 : Below w.heap.size w ((w.alloc (.cells #[.iface 57 (.agg #[.pointer (some ⟨bp, 0, none⟩)])] 98)).alloc (.cells #[.func (.func 67) #[] #[]] 92)) := ((Below.refl _ _).alloc (Nat.le_refl _) _).alloc (by simp) _
  have hk0 : ((w.alloc (.cells #[.iface 57 (.agg #[.pointer (some ⟨bp, 0, none⟩)])] 98)).alloc (.cells #[.func (.func 67) #[] #[]] 92)).heap[w.heap.size]? = some (.cells #[.iface 57 (.agg #[.pointer (some ⟨bp, 0, none⟩)])] 98 (0, 0)) := (Below.heap_alloc _ _ _ (by simp)).trans (heap_alloc_new _ _)
  have hk1 : ((w.alloc (.cells #[.iface 57 (.agg #[.pointer (some ⟨bp, 0, none⟩)])] 98)).alloc (.cells #[.func (.func 67) #[] #[]] 92)).heap[w.heap.size + 1]? = some (.cells #[.func (.func 67) #[] #[]] 92 (0, 0)) := by
    have := heap_alloc_new (w.alloc (.cells #[.iface 57 (.agg #[.pointer (some ⟨bp, 0, none⟩)])] 98)) (.cells #[.func (.func 67) #[] #[]] 92)
    simpa using this
  have hsz : ((w.alloc (.cells #[.iface 57 (.agg #[.pointer (some ⟨bp, 0, none⟩)])] 98)).alloc (.cells #[.func (.func 67) #[] #[]] 92)).heap.size = w.heap.size + 2 := by simp
  have hids : p.ids = srt zs := h.adj.ids
  have HG := Aside0.mk (h.below hb1)
  have HX := Aside0.mk (And.intro hb1 (And.intro hk0 (And.intro hk1 (And.intro hsz wf))))
  have HR := Aside0.mk (And.intro hr (And.intro h hids))
  have m1 := meth_DNodes ⟨bp, 0, none⟩
  have hpl : p.ids.length ≤ 1000 := by rw [hids, srt_length]; exact hn
  have mq := eq_lexical
  have rm1 := run_map150 p.ids.length
  have rm2 := run_map78
  have hz := objZero
  clear h wf hr hb1 hk0 hk1 hsz hids
  go_enter Tryz.func68, Tryz.ntmps68
  go_wp2_with (first
    | (go_at_call 205; refine (nodes_any base bp p _ HG.out.ok hpl).mono ?_; rintro e w1 ⟨b, rfl, hit, hbel⟩; have H1 := Aside0.mk (And.intro hit hbel); clear hit hbel)
    | (go_at_call 96; refine (nodesOf_any _ _ b p.ids _ H1.out.1 (by omega)).mono ?_; rintro e w2 ⟨vv, rfl, h1, h2, h3⟩; obtain ⟨AV, cV, rfl⟩ := own_slice h1; have hcc : w2.cell? ⟨w.heap.size + 1, 0, none⟩ = some (.func (.func 67) #[] #[]) := (blk_cell (((H1.out.2.trans (h3.below (by have := H1.out.2.size; omega))).block _ (by have := HX.out.2.2.2.1; omega)).trans HX.out.2.2.1) 0).trans rfl; have H2 := Aside0.mk (And.intro h1 (And.intro h2 h3)); clear h1 h2 h3)
    | (go_at_call 67; refine (lexical_own _ _ p.ids _ H2.out.1 (by omega)).mono ?_; rintro e w3 ⟨rfl, ho3, hg3⟩; have H3 := Aside0.mk (And.intro (show w3.ownsRow _ 88 1 (.slice AV p.ids.length cV) (nodeVs (srt p.ids)).length (nodeVs (srt p.ids)) by rw [nodeVs_len, srt_length]; exact ho3) hg3); clear ho3 hg3)
    | (go_at_call 98; refine (revN_own _ _ _ _ H3.out.1 (nodeVs_one _) (by rw [nodeVs_len, srt_length]; omega)).mono ?_; rintro e w4 ⟨rfl, ho4, hg4⟩; have H4 := Aside0.mk (And.intro ho4 hg4); clear ho4 hg4))
  refine Code.wp_mono (Q := fun e a W => e = .normal ∧ ∃ gt gi gl gs, ObjNewO w4 W gt gi gl gs w.heap.size (w.heap.size + 1) ∧ a = ⟨#[.iface 57 (.agg #[.pointer (some ⟨bp, 0, none⟩)]), .func (.func 67) #[] #[], .pointer (some ⟨w.heap.size, 0, none⟩), .pointer (some ⟨w.heap.size + 1, 0, none⟩), .slice none 0 0, .slice AV p.ids.length cV, fvO w.heap.size (w.heap.size + 1), .pointer (some ⟨gt, 0, none⟩), undef, undef, .iface 57 (.agg #[.pointer (some ⟨bp, 0, none⟩)]), .iface 275 (.pointer (some ⟨b, 0, none⟩)), .slice AV p.ids.length cV, .func (.func 67) #[] #[], .bool false, undef, .func (.func 67) #[] #[], .slice AV p.ids.length cV, .tuple #[], .slice AV p.ids.length cV, .tuple #[], fvO w.heap.size (w.heap.size + 1), fvO w.heap.size (w.heap.size + 1), .slice AV p.ids.length cV, .int .i64 p.ids.length, .map (some gi), .slice AV p.ids.length cV, .int .i64 p.ids.length, .map (some gl), .map (some gs), .agg #[fvO w.heap.size (w.heap.size + 1), .int .i64 0, .map (some gi), .map (some gl), .map (some gs), .slice none 0 0, .slice none 0 0], undef, undef, undef, undef, undef, undef, undef, undef, undef, undef, undef, undef, undef, undef, undef, undef, undef], []⟩) ?next ?made
  case made =>
    clear m1 mq hcc
    go_region_held3 (fun _ => True) (trivial) (fail)
    all_goals
      refine ⟨rfl, _, _, _, _, ?_, rfl⟩
      refine ⟨by omega, by omega, by omega, by omega, by omega, by omega, by omega, (four_new w4 _ _ _ _).2.2.2.2, ?_, ?_, ?_, ?_⟩
      all_goals first | exact (four_new w4 _ _ _ _).1 | exact (four_new w4 _ _ _ _).2.1 | exact (four_new w4 _ _ _ _).2.2.1 | exact (four_new w4 _ _ _ _).2.2.2.1
  case next =>
    clear mq rm1 rm2 hz hcc m1
    rintro _ _ W ⟨rfl, gt, gi, gl, gs, hO, rfl⟩
    have b2 := H1.out.2.trans (H2.out.2.2.below H1.out.2.size)
    have b3 := b2.grown H3.out.2 b2.size (fun q hq => own_base H2.out.1 q hq)
    have b4 := b3.grown H4.out.2 b3.size (fun q hq => own_base H2.out.1 q hq)
    have hS2 := HX.out.2.2.2.1
    have hw2 : w.heap.size + 2 ≤ w4.heap.size := by have := b4.size; omega
    have hbW : Below w.heap.size w W := (HX.out.1.trans (b4.mono (by omega))).trans (hO.old.mono (by omega))
    have hbox : W.heap[w.heap.size]? = some (.cells #[.iface 57 (.agg #[.pointer (some ⟨bp, 0, none⟩)])] 98 (0, 0)) :=
      (hO.old.block _ (by omega)).trans ((b4.block _ (by omega)).trans HX.out.2.1)
    have hbox2 : W.heap[w.heap.size + 1]? = some (.cells #[.func (.func 67) #[] #[]] 92 (0, 0)) :=
      (hO.old.block _ (by omega)).trans ((b4.block _ (by omega)).trans HX.out.2.2.1)
    obtain ⟨vs, hvs⟩ : ∃ vs, (srt p.ids).reverse = vs := ⟨_, rfl⟩
    have hvl : vs.length = p.ids.length := by rw [← hvs, List.length_reverse, srt_length]
    have HVL := Aside0.mk hvl
    have hvz : vs = (srt zs).reverse := by
      rw [← hvs, HR.out.2.2]
      congr 1
      refine List.mergeSort_of_pairwise ?_
      exact HR.out.2.1.hs.imp fun h => by simpa using Int.le_of_lt h
    have HN4 := Aside0.mk (show w4.ownsRow _ 88 1 (.slice AV p.ids.length cV) p.ids.length (nodeVs vs) by
      have h9 := H4.out.1
      rw [nodeVs_len, srt_length, nodeVs_rev, hvs] at h9
      exact h9)
    have HENV := Aside0.mk (show OEnv w w.heap.size (w.heap.size + 1) base bp zs es p W from ⟨⟨HR.out.2.1, fun q hq => hbW.block q hq, hbox⟩, hbox2⟩)
    have HWL := hO.old.size
    have h1t := hO.t0
    have h1i := hO.i0
    have h1l := hO.l0
    have h1s := hO.s0
    have HEO := Aside0.mk (show EnvOk W.heap.size gt gi gl gs (OEnv w w.heap.size (w.heap.size + 1) base bp zs es p) from OEnv.ok (Nat.le_refl _) (by omega) (by omega) (by omega) (by omega) (by omega) (by omega) (by omega) (by omega) (by omega) (by omega))
    have HIN := Aside0.mk (show ∀ u, ∀ x ∈ adjR zs es u, x ∈ srt zs from fun u x hx => (mem_srt _ _).2 (outN_mem' (adjR_mem.1 hx)).1)
    have HSC := Aside0.mk (strong_allO (adjR zs es) (fun u => by rw [adjR_len]; have := outN_len zs es u; omega) (srt zs) W.heap.size gt gi gl gs w.heap.size (w.heap.size + 1) (OEnv w w.heap.size (w.heap.size + 1) base bp zs es p) (by rw [srt_length]; exact hn) (fun x hx => HX.out.2.2.2.2 x ((mem_srt _ _).1 hx)) HIN.out (fun w' v hE hv => succ82_any w w.heap.size (w.heap.size + 1) base bp zs es p w' v hE ((mem_srt _ _).1 hv)) HEO.out k)
    have HT := Aside0.mk hO.to
    have HO := Aside0.mk hO
    have HB := Aside0.mk hbW
    have HI := Aside0.mk (show ALp (adjR zs es) (srt zs) ⟨gt, gi, gl, gs, W.heap.size, fvO w.heap.size (w.heap.size + 1), W, .slice none 0 0, .slice none 0 0⟩ k r vs W 0 from ⟨TS.none, [], vs, _, _, _, rfl, rfl, TInv.none _, TB.none _, by rw [hvz]; exact HR.out.1, hO.to⟩)
    clear hO hbW hbox hbox2 hvs hvl b2 b3 b4 hS2
    go_wp2_with fail
    go_loopw [33] (fun v33 wr => ∃ i : Nat, v33 = .int .i64 i ∧ i ≤ p.ids.length ∧ Aside0 (ALp (adjR zs es) (srt zs) ⟨gt, gi, gl, gs, W.heap.size, fvO w.heap.size (w.heap.size + 1), W, .slice none 0 0, .slice none 0 0⟩ k r vs wr i)) (fun v33 _ => p.ids.length + 1 - (intOf v33).toNat)
    case atStart => exact ⟨0, rfl, Nat.zero_le _, HI⟩
    case round =>
      clear HI
      obtain ⟨i, rfl, hi, hrel⟩ := hrel
      obtain ⟨s, done, ws, st, ov, rows, hsp, hdl, hinv, htb, hal, hto⟩ := hrel.out
      by_cases hlt : i < p.ids.length
      · have hdk : decide ((i : Int) < (p.ids.length : Int)) = true := decide_eq_true (by omega)
        obtain ⟨x, ws', hws⟩ : ∃ x ws', ws = x :: ws' := by
          cases ws with
          | nil => have hlt2 := hlt; rw [← HVL.out, hsp, List.length_append] at hlt2; simp at hlt2; omega
          | cons x ws' => exact ⟨x, ws', rfl⟩
        subst hws
        have hxa : vs[i]? = some x := by rw [hsp, List.getElem?_append_right (by omega), hdl, Nat.sub_self]; rfl
        obtain ⟨gA, ccA, hvv, -, hcA, ⟨cur, hcur⟩⟩ := own_cells HN4.out (by omega)
        simp only [Value.slice.injEq] at hvv
        obtain ⟨rfl, -, rfl⟩ := hvv
        have hgA := blk_lt hcur
        have hcell : wr.cell? ⟨gA, i, none⟩ = some (.iface 272 (.int .i64 x)) := by
          have e1 : W.heap[gA]? = w4.heap[gA]? := HO.out.old.block gA hgA
          have e2 : wr.heap[gA]? = W.heap[gA]? := (TQ.kp hto).block gA (by show gA < W.heap.size; omega) (fun hm => by
            rcases hm with e | e | e | e | e | e
            · dsimp only at e; omega
            · dsimp only at e; omega
            · dsimp only at e; omega
            · dsimp only at e; omega
            · cases e
            · cases e)
          rw [World.cell?_of_block (e2.trans e1)]
          refine hcA i _ ?_
          unfold nodeVs
          rw [List.getElem?_map, hxa]
          rfl
        have hxz : x ∈ srt zs := by rw [← List.mem_reverse, ← hvz, hsp]; simp
        have hxw := HX.out.2.2.2.2 x ((mem_srt _ _).1 hxz)
        have m2 := meth_ID x
        have p2 : wr.cell? ⟨gt, 2, none⟩ = some (.map (some gi)) := (TQ.cells hto).2.2.1
        have hL := (TQ.ni (TQ.below hto (Below.refl _ _).drew)).look hxw
        dsimp only at hL
        have i0' : (0 : Int) ≤ (i : Int) := by omega
        have i1' : (i : Int) < (p.ids.length : Int) := by omega
        have HTO := Aside0.mk (TQ.below hto (Below.refl _ _).drew)
        have HS := Aside0.mk (And.intro hsp (And.intro hdl (And.intro hinv (And.intro htb hal))))
        clear hrel hto hsp hdl hinv htb hal hxa hcA hcur
        by_cases hn0 : s.num x = 0
        · have hb0 : ((s.num x : Int) == 0) = true := by simp [hn0]
          obtain ⟨s2, hs2, hal2⟩ : ∃ s2, strongT (adjR zs es) k x s = some s2 ∧ allT (adjR zs es) k ws' s2 = some r := by
            have a := HS.out.2.2.2.2
            rw [allT, if_pos hn0] at a
            exact Option.bind_eq_some_iff.1 a
          have HS2 := Aside0.mk (And.intro hs2 hal2)
          have HENV2 := Aside0.mk (HEO.out W wr.drew HENV.out (fun q a1 a2 a3 a4 a5 => (TQ.kp HTO.out).block q a1 (fun hm => by
            rcases hm with e | e | e | e | e | e
            · exact a2 e
            · exact a3 e
            · exact a4 e
            · exact a5 e
            · cases e
            · cases e)))
          clear hs2 hal2
          go_wp2_with fail
          go_region_held3 (fun w' => w'.cell? ⟨gt, 2, none⟩ = some (.map (some gi))) (go_keep) (first | (go_at_call 239; refine (nodeID_any x _).mono ?_; rintro e wi ⟨rfl, rfl⟩))
          go_wp2_with (go_at_call 100; refine (HSC.out [] x s s2 wr.drew st ov rows HS.out.2.2.1 hn0 (fun y hy => by cases hy) hxz HS.out.2.2.2.1 HS2.out.1 HENV2.out (TQ.restart HTO.out)).mono ?_; rintro e w7 ⟨rfl, st2, ov2, rows2, hto2⟩; have HC := Aside0.mk (TQ.resume HTO.out hto2); clear hto2)
          have hp := strongT_ok (adjR zs es) k [] x s s2 HS.out.2.2.1 hn0 (fun y hy => by cases hy) HS2.out.1
          have htb2 := strongT_tb HIN.out k [] x s s2 HS.out.2.2.1 hn0 (fun y hy => by cases hy) hxz HS.out.2.2.2.1 HS2.out.1
          exact ⟨⟨i + 1, by simp, by omega, ⟨s2, done ++ [x], ws', st2, ov2, rows2, by rw [HS.out.1]; simp, by simp [HS.out.2.1], hp.inv, htb2, HS2.out.2, HC.out⟩⟩, by simp [intOf]; omega⟩
        · have hb0 : ((s.num x : Int) == 0) = false := by rw [beq_eq_false_iff_ne]; omega
          have hal2 : allT (adjR zs es) k ws' s = some r := by
            have a := HS.out.2.2.2.2
            rw [allT, if_neg hn0] at a
            exact a
          have HS2 := Aside0.mk hal2
          clear hal2
          go_wp2_with fail
          go_region_held3 (fun w' => w'.cell? ⟨gt, 2, none⟩ = some (.map (some gi))) (go_keep) (first | (go_at_call 239; refine (nodeID_any x _).mono ?_; rintro e wi ⟨rfl, rfl⟩))
          go_wp2
          exact ⟨⟨i + 1, by simp, by omega, ⟨s, done ++ [x], ws', st, ov, rows, by rw [HS.out.1]; simp, by simp [HS.out.2.1], HS.out.2.2.1, HS.out.2.2.2.1, HS2.out, HTO.out⟩⟩, by simp [intOf]; omega⟩
      · have hdk : decide ((i : Int) < (p.ids.length : Int)) = false := decide_eq_false (by omega)
        obtain rfl : ws = [] := by
          cases ws with
          | nil => rfl
          | cons x ws' => have hlt2 := hlt; rw [← HVL.out, hsp, List.length_append, List.length_cons] at hlt2; omega
        simp only [allT, Option.some.injEq] at hal
        subst hal
        have p6 : wr.cell? ⟨gt, 6, none⟩ = some ov := (TQ.cells hto).2.2.2.2.2.2
        have HTO := Aside0.mk hto
        clear hrel hto hsp hdl hinv htb
        go_wp2
        go_ret
        refine ⟨ov, rows, rfl, RwsV.mono (TQ.out HTO.out) (by have := HB.out.size; dsimp only; omega), TQ.rs HTO.out, HB.out.trans ((TQ.kp HTO.out).below (by dsimp only; omega) (fun q hq => by
          rcases hq with e | e | e | e | e | e
          · dsimp only at e; omega
          · dsimp only at e; omega
          · dsimp only at e; omega
          · dsimp only at e; omega
          · cases e
          · cases e))⟩
end Go.Proofs.YtddklkgcodjijaaGreat.R

/- topo.SortStabilized (no order of its own: ascending) and impl.SortStabilized, exactly. -/
namespace Go.Proofs.YtddklkgcodjijaaGreat.R
open Go.RowKit Go.Lab Go.Maps Go.Proofs.YtddklkgcodjijaaGreatW.PrintWords Go.Proofs.YtddklkgcodjijaaGreatW.PrintLast Go.Proofs.YtddklkgcodjijaaGreatW.PrintMore PL

set_option maxHeartbeats 4000000 in
set_option maxRecDepth 100000 in
theorem sort30_any (base bp : Nat) (zs : List Int) (es : List S95) (p : Pl) (w : World) (h : GrOk w base bp zs es p) (wf : ∀ x ∈ zs, (Lit.int .i64 x).wf = true) (k : Nat) (r : TS) (hr : allT (adjR zs es) k (srt zs).reverse TS.none = some r) (hn : r.out.length ≤ 1000) (hl : ∀ q ∈ r.out, q.length ≤ 1000) :
    Calls Tryz.prog 30 #[.iface 57 (.agg #[.pointer (some ⟨bp, 0, none⟩)]), .nilFunc] w fun e w' => ∃ sv ev, e = .returned (.tuple #[sv, ev]) ∧ SFok w.heap.size w w' r.out sv ev := by
  have mq := eq_nilFunc
  go_enter Tryz.func30, Tryz.ntmps30
  go_wp2_with (first
    | (go_at_call 68; refine (tarjanO_any base bp zs es p _ h wf k r hr).mono ?_; rintro e w1 ⟨lv, rows, rfl, hrw, hrs, hb⟩; have H1 := Aside0.mk (And.intro hrw (And.intro hrs hb)); clear hrw hrs hb)
    | (go_at_call 69; refine (sortedFrom_any w.heap.size lv rows r.out _ H1.out.1 H1.out.2.1 H1.out.2.2.size hn hl).mono ?_; rintro e w2 ⟨sv, ev, rfl, hok⟩; have H2 := Aside0.mk hok; clear hok))
  go_ret2
  obtain ⟨a1, a2, a3⟩ := H2.out
  have hz := H1.out.2.2.size
  exact ⟨sv, ev, rfl, own_weaken a1 hz, a2, H1.out.2.2.trans a3⟩

/-- a place of the order -/
def slotS (p : List Int) : S36 := if p.length = 1 then ⟨false, p.headD 0⟩ else ⟨true, 0⟩
theorem slotS_cells (p : List Int) : [.bool (slotS p).f0, .int .i64 (slotS p).f1] = slotC p := by
  unfold slotS slotC
  split <;> rfl
theorem slotC_len (p : List Int) : (slotC p).length = 2 := by
  unfold slotC
  split <;> rfl
theorem slots_len (qs : List (List Int)) : (qs.flatMap slotC).length = qs.length * 2 := by
  induction qs with
  | nil => rfl
  | cons q qs ih => rw [List.flatMap_cons, List.length_append, slotC_len, ih, List.length_cons]; omega
theorem slots_at : ∀ (qs : List (List Int)) (j : Nat) (p : List Int), qs[j]? = some p → ((qs.flatMap slotC).drop (j * 2)).take 2 = slotC p
  | [], j, p, h => by simp at h
  | q :: qs, 0, p, h => by
    simp only [List.getElem?_cons_zero, Option.some.injEq] at h
    subst h
    rw [List.flatMap_cons, Nat.zero_mul, List.drop_zero]
    exact List.take_left' (slotC_len q)
  | q :: qs, j + 1, p, h => by
    rw [List.getElem?_cons_succ] at h
    rw [List.flatMap_cons, show (j + 1) * 2 = 2 + j * 2 by omega, ← List.drop_drop, List.drop_left' (slotC_len q)]
    exact slots_at qs j p h
theorem R_of_slots {w : World} {lo : Nat} {v : Value} {qs : List (List Int)} (h : w.ownsRow lo 36 2 v qs.length (qs.flatMap slotC)) : Kd.R k36 36 w lo (fun _ => True) v (qs.map slotS) := by
  refine ⟨fun _ _ => trivial, qs.flatMap slotC, by rw [List.length_map]; exact h, by rw [slots_len, List.length_map]; rfl, fun j p hj => ?_⟩
  rw [List.getElem?_map] at hj
  obtain ⟨q, hq, rfl⟩ := Option.map_eq_some_iff.1 hj
  show k36.M w lo _ (slotS q) (((qs.flatMap slotC).drop (j * 2)).take 2)
  rw [slots_at qs j q hq, ← slotS_cells q]
  exact k36_mkM _ _ _ _

set_option maxHeartbeats 4000000 in
set_option maxRecDepth 100000 in
theorem sortS_good (A1 A2 : Option Addr) (c1 c2 : Nat) (zs : List Int) (es : List S95) (w : World) (hN : Kd.C (Kd.int .i64) w A1 zs.length zs) (hE : Kd.C k95 w A2 es.length es) (hn : zs.length ≤ 1000) (he : es.length ≤ 1000000)
    (wf : ∀ x ∈ zs, (Lit.int .i64 x).wf = true) (hro : readOk zs es = true) (r : TS) (hr : allT (adjR zs es) 1000 (srt zs).reverse TS.none = some r) (hln1 : r.out.length ≤ 1000) (hln2 : ∀ q ∈ r.out, q.length ≤ 1000) :
    Calls Tryz.prog 8 #[.agg #[.bool true, .slice A1 zs.length c1, .slice A2 es.length c2]] w fun e w' => ∃ v1 v2, e = .returned (.tuple #[v1, v2, .bool (decide (cyc r.out = [])), .bool false]) ∧ Kd.R k36 36 w' w.heap.size (fun _ => True) v1 (r.out.reverse.map slotS) ∧ Kd.R (Kd.slice 3 (Kd.int .i64)) 22 w' w.heap.size (fun _ => True) v2 (cyc r.out).reverse ∧ Below w.heap.size w w' := by
  have HL := Aside0.mk (And.intro hln1 hln2)
  have hcl : (cyc r.out).reverse.length ≤ 1000 := by
    unfold cyc
    rw [List.length_reverse, List.length_map]
    exact Nat.le_trans (List.length_filter_le _ _) hln1
  have hcl2 : ∀ q ∈ (cyc r.out).reverse, q.length ≤ 1000 := fun q hq => by
    unfold cyc at hq
    obtain ⟨x, hx, rfl⟩ := List.mem_map.1 (List.mem_reverse.1 hq)
    rw [srt_length]
    exact hln2 x (List.mem_filter.1 hx).1
  have HC := Aside0.mk (And.intro hcl hcl2)
  have hb1 : Below w.heap.size w (w.alloc (.cells #[.bool true, .slice A1 zs.length c1, .slice A2 es.length c2] 25)) := (Below.refl _ _).alloc (Nat.le_refl _) _
  have HN := Aside0.mk (Kd.C_below hN hb1)
  have HE := Aside0.mk (Kd.C_below hE hb1)
  have HB1 := Aside0.mk hb1
  have HR := Aside0.mk hr
  have HWF := Aside0.mk wf
  have hrd : (readOk zs es && true) = true := by rw [hro]; rfl
  have HRD := Aside0.mk (And.intro hrd hro)
  obtain ⟨b, hbb⟩ : ∃ b, decide (cyc r.out = []) = b := ⟨_, rfl⟩
  have HBB := Aside0.mk hbb
  rw [hbb]
  clear hN hE hb1 hr wf hrd hro hbb hln1 hln2 hcl hcl2
  go_enter Tryz.func8, Tryz.ntmps8
  go_wp2_with (first
    | (go_at_call 29; refine (oneWay_any true A1 A2 c1 c2 zs es _ HN.out HE.out hn he).mono ?_; rintro e w1 ⟨base, bp, rfl, hbel, hpl⟩; rw [HRD.out.1]; have H1 := Aside0.mk (And.intro hbel (show GrOk w1 base bp zs es (plOf true zs es) from GrOk.mk' (w := w) (d := true) hn HRD.out.2 (hpl HRD.out.2))); clear hbel hpl)
    | (go_at_call 30; refine (sort30_any base bp zs es _ _ (H1.out.2.below ((Below.refl _ _).alloc (Nat.le_refl _) _)) HWF.out 1000 r HR.out HL.out.1 HL.out.2).mono ?_; rintro e w2 ⟨sv, ev, rfl, hok⟩; have H2 := Aside0.mk hok; have hz2 := hok.2.2.size; clear hok)
    | (go_at_call 31; refine (slots_any (w1.alloc (.cells #[.pointer (some ⟨bp, 0, none⟩)] 57)).heap.size (w1.alloc (.cells #[.pointer (some ⟨bp, 0, none⟩)] 57)).heap.size sv ev r.out.reverse (cyc r.out).reverse b _ (by rw [List.length_reverse, List.map_reverse]; exact H2.out.1) (by rw [List.length_reverse]; exact HL.out.1) HC.out.1 HC.out.2 (by rcases H2.out.2.1 with ⟨a, e⟩ | ⟨a, cv, rows2, e, b1⟩; exact .inl ⟨HBB.out.symm.trans (decide_eq_true a), by rw [a]; rfl, e⟩; exact .inr ⟨HBB.out.symm.trans (decide_eq_false a), cv, rows2, e, b1⟩)).mono ?_; rintro e w3 ⟨v1, v2, rr, rfl, ho3, hr3, hb3⟩; have H3 := Aside0.mk (And.intro ho3 (And.intro hr3 hb3)); clear ho3 hr3 hb3))
  have hz1 := H1.out.1.size
  simp at hz1 hz2
  have k1 := HB1.out.trans (H1.out.1.mono (by simp))
  have k2 := k1.alloc (by omega) (.cells #[.pointer (some ⟨bp, 0, none⟩)] 57)
  have k3 := (k2.trans (H2.out.2.2.mono (by simp; omega))).trans (H3.out.2.2.mono (by omega))
  exact bodyPost_ret (v := .tuple #[v1, v2, .bool b, .bool false]) (by simp [results, Tryz.results8, go_sem]) rfl ⟨v1, v2, rfl, R_of_slots (own_weaken H3.out.1 (by omega)), R_of_rows (H3.out.2.1.mono (by omega)), k3⟩

set_option maxHeartbeats 4000000 in
set_option maxRecDepth 100000 in
theorem sortS_bad (d : Bool) (A1 A2 : Option Addr) (c1 c2 : Nat) (zs : List Int) (es : List S95) (w : World) (hN : Kd.C (Kd.int .i64) w A1 zs.length zs) (hE : Kd.C k95 w A2 es.length es) (hn : zs.length ≤ 1000) (he : es.length ≤ 1000000) (hro : (readOk zs es && d) = false) :
    Calls Tryz.prog 8 #[.agg #[.bool d, .slice A1 zs.length c1, .slice A2 es.length c2]] w fun e w' => e = .returned (.tuple #[.slice none 0 0, .slice none 0 0, .bool false, .bool true]) ∧ Below w.heap.size w w' := by
  have hb1 : Below w.heap.size w (w.alloc (.cells #[.bool d, .slice A1 zs.length c1, .slice A2 es.length c2] 25)) := (Below.refl _ _).alloc (Nat.le_refl _) _
  have HN := Aside0.mk (Kd.C_below hN hb1)
  have HE := Aside0.mk (Kd.C_below hE hb1)
  have HB := Aside0.mk hb1
  have HRD := Aside0.mk hro
  clear hN hE hb1 hro
  go_enter Tryz.func8, Tryz.ntmps8
  go_wp2_with (go_at_call 29; refine (oneWay_any d A1 A2 c1 c2 zs es _ HN.out HE.out hn he).mono ?_; rintro e w1 ⟨base, bp, rfl, hbel, hpl⟩; rw [HRD.out]; have H1 := Aside0.mk hbel; have hz1 := hbel.size; clear hbel hpl)
  simp at hz1
  exact bodyPost_ret (v := .tuple #[.slice none 0 0, .slice none 0 0, .bool false, .bool true]) (by simp [results, Tryz.results8, go_sem]) rfl ⟨rfl, (HB.out.trans (H1.out.mono (by simp))).alloc (by omega) _⟩
end Go.Proofs.YtddklkgcodjijaaGreat.R

namespace Go.Proofs.YtddklkgcodjijaaGreat.PL
open Go.RowKit Go.Lab Go.Proofs.YtddklkgcodjijaaGreatW.PrintWords Go.Proofs.YtddklkgcodjijaaGreatW.PrintLast Go.Proofs.YtddklkgcodjijaaGreatW.PrintMore
/-- what impl.SortStabilized answers -/
def impl_SortStabilized.f (a0_0 : Bool) (l0_1 : List Int) (l0_2 : List S95) : Option (List S36 × List (List Int) × Bool × Bool) :=
  if l0_1.length ≤ 90 ∧ l0_2.length ≤ 1000000 ∧ (l0_1.all fun x => (Lit.int .i64 x).wf) = true then
    if (R.readOk l0_1 l0_2 && a0_0) = true then (R.allT (R.adjR l0_1 l0_2) 1000 (srt l0_1).reverse R.TS.none).bind fun r =>
      if r.out.length ≤ 1000 ∧ (r.out.all fun q => decide (q.length ≤ 1000)) = true then some (r.out.reverse.map R.slotS, (R.cyc r.out).reverse, decide (R.cyc r.out = []), false) else none
    else some ([], [], false, true)
  else none
theorem impl_SortStabilized.calls (a0_0 : Bool) (A0_1 : Option Addr) (c0_1 : Nat) (l0_1 : List Int) (A0_2 : Option Addr) (c0_2 : Nat) (l0_2 : List S95) (r1 : List S36) (r2 : List (List Int)) (r3 : Bool) (r4 : Bool) (w : World)
    (hr0_1 : Kd.C (Kd.int .i64) w A0_1 l0_1.length l0_1) (hc0_1 : l0_1.length ≤ c0_1) (hr0_2 : Kd.C k95 w A0_2 l0_2.length l0_2) (hc0_2 : l0_2.length ≤ c0_2) (h : impl_SortStabilized.f a0_0 l0_1 l0_2 = some (r1, r2, r3, r4)) :
    Calls Tryz.prog 8 #[.agg #[.bool a0_0, .slice A0_1 l0_1.length c0_1, .slice A0_2 l0_2.length c0_2]] w fun e w' => ∃ v1_ v2_ : Value, e = .returned (.tuple #[v1_, v2_, .bool r3, .bool r4]) ∧ Kd.R k36 36 w' w.heap.size (fun _ => True) v1_ r1 ∧ Kd.R (Kd.slice 3 (Kd.int .i64)) 22 w' w.heap.size (fun _ => True) v2_ r2 ∧ Below w.heap.size w w' := by
  unfold impl_SortStabilized.f at h
  split at h
  · rename_i hc
    obtain ⟨h1, h2, h4⟩ := hc
    split at h
    · rename_i hgood
      obtain ⟨r, hr, he⟩ := Option.bind_eq_some_iff.1 h
      split at he
      · rename_i hl
        simp only [Option.some.injEq, Prod.mk.injEq] at he
        obtain ⟨rfl, rfl, rfl, rfl⟩ := he
        simp only [Bool.and_eq_true] at hgood
        obtain ⟨hg1, rfl⟩ := hgood
        exact R.sortS_good A0_1 A0_2 c0_1 c0_2 l0_1 l0_2 w hr0_1 hr0_2 (by omega) h2 (List.all_eq_true.1 h4) hg1 r hr hl.1 (fun q hq => of_decide_eq_true (List.all_eq_true.1 hl.2 q hq))
      · cases he
    · rename_i hbad
      simp only [Option.some.injEq, Prod.mk.injEq] at h
      obtain ⟨rfl, rfl, rfl, rfl⟩ := h
      refine (R.sortS_bad a0_0 A0_1 A0_2 c0_1 c0_2 l0_1 l0_2 w hr0_1 hr0_2 (by omega) h2 (by simpa using hbad)).mono ?_
      rintro e w' ⟨rfl, hb⟩
      exact ⟨_, _, rfl, Kd.R_nil _ _ _ _ _, Kd.R_nil _ _ _ _ _, hb⟩
  · cases h
end Go.Proofs.YtddklkgcodjijaaGreat.PL

/- Tarjan's components come off in the order in which a walk depth first leaves the nodes at which it met them. -/
namespace Go.Proofs.YtddklkgcodjijaaGreat.R

/-- a plain walk depth first: the nodes as they are met, and as they are left -/
structure MS where
  met : List Int
  left : List Int
def succsM (rec : Int → MS → Option MS) : List Int → MS → Option MS
  | [], m => some m
  | w :: ws, m => if w ∈ m.met then succsM rec ws m else (rec w m).bind (succsM rec ws)
def visitM (adj : Int → List Int) : Nat → Int → MS → Option MS
  | 0, _, _ => none
  | k + 1, v, m => (succsM (visitM adj k) (adj v) ⟨m.met ++ [v], m.left⟩).map fun m' => ⟨m'.met, m'.left ++ [v]⟩

/-- the node of a component that is met first, by the numbers N -/
def Root (adj : Int → List Int) (N : Int → Nat) (v : Int) : Prop := ∀ x, RchW adj v x → RchW adj x v → N v ≤ N x
/-- of the nodes that are left, each that was met first leaves its component -/
inductive CMatch (adj : Int → List Int) (N : Int → Nat) : List Int → List (List Int) → Prop
  | nil : CMatch adj N [] []
  | root {L : List Int} {C : List (List Int)} {u : Int} {c : List Int} : CMatch adj N L C → Root adj N u → c.Nodup → (∀ y, y ∈ c ↔ RchW adj u y ∧ RchW adj y u) → CMatch adj N (L ++ [u]) (C ++ [c])
  | skip {L : List Int} {C : List (List Int)} {u : Int} : CMatch adj N L C → ¬ Root adj N u → CMatch adj N (L ++ [u]) C
theorem CMatch.append {adj : Int → List Int} {N : Int → Nat} {L1 L2 : List Int} {C1 C2 : List (List Int)} (h1 : CMatch adj N L1 C1) (h2 : CMatch adj N L2 C2) : CMatch adj N (L1 ++ L2) (C1 ++ C2) := by
  induction h2 with
  | nil => simpa using h1
  | root _ a b c ih => rw [← List.append_assoc, ← List.append_assoc]; exact ih.root a b c
  | skip _ a ih => rw [← List.append_assoc]; exact ih.skip a
/-- the nodes that were met are those with a number, in the order of the numbers -/
structure MetOk (s : TS) (m : MS) : Prop where
  seen : ∀ x, s.num x ≠ 0 ↔ x ∈ m.met
  ord : m.met.Pairwise fun x y => s.num x < s.num y
theorem MetOk.lower {s : TS} {m : MS} (h : MetOk s m) (v : Int) (n : Nat) : MetOk (s.lower v n) m := ⟨h.seen, h.ord⟩
theorem MetOk.enter {adj : Int → List Int} {g : List Int} {s : TS} {m : MS} (h : MetOk s m) (i : TInv adj g s) {v : Int} (hv : s.num v = 0) : MetOk (s.enter v) ⟨m.met ++ [v], m.left⟩ := by
  have hvv : (s.enter v).num v = s.idx + 1 := updN_eq _ _ _
  have hne : ∀ x, x ≠ v → (s.enter v).num x = s.num x := fun x hx => updN_ne _ _ hx
  have hm : ∀ x ∈ m.met, x ≠ v := fun x hx e => (h.seen x).2 hx (e ▸ hv)
  refine ⟨fun x => ?_, ?_⟩
  · by_cases e : x = v
    · subst e; rw [hvv]; simp
    · rw [hne x e, h.seen x]; simp [e]
  · show (m.met ++ [v]).Pairwise _
    refine List.pairwise_append.2 ⟨h.ord.imp_of_mem (fun {a b} ha hb hab => by rw [hne a (hm a ha), hne b (hm b hb)]; exact hab), List.pairwise_singleton _ _, fun a ha b hb => ?_⟩
    obtain rfl := List.mem_singleton.1 hb
    rw [hne a (hm a ha), hvv]
    have := i.bd a
    omega

section
variable {adj : Int → List Int} {g : List Int} {v : Int} {s0 : TS}
/-- numbers stay -/
theorem succs_num (i0 : TInv adj g s0) (hv : s0.num v = 0) (hg : ∀ x ∈ g, RchW adj x v) (k : Nat) : ∀ (ws done : List Int) (s r : TS), (∀ w ∈ ws, w ∈ adj v) → TLoop adj g v done s0 s → succsT (strongT adj k) v ws s = some r → ∀ x, s.num x ≠ 0 → r.num x = s.num x := by
  intro ws
  induction ws with
  | nil => intro done s r _ h hr x hx; simp only [succsT, Option.some.injEq] at hr; subst hr; rfl
  | cons w ws ih =>
    intro done s r hws h hr x hx
    have hw := hws w (by simp)
    have hws' : ∀ x ∈ ws, x ∈ adj v := fun x hx => hws x (by simp [hx])
    unfold succsT at hr
    by_cases hn : s.num w = 0
    · rw [if_pos hn] at hr
      obtain ⟨s', hs', hr'⟩ := Option.bind_eq_some_iff.1 hr
      have p := strongT_ok adj k (g ++ [v]) w s s' h.inv hn (fun x hx => by
        rcases List.mem_append.1 hx with hx | hx
        · exact (hg x hx).step hw
        · obtain rfl := List.mem_singleton.1 hx
          exact RchW.one hw) hs'
      have h2 := ih _ _ _ hws' (h.walked i0 hv hw hn p) hr' x (by show s'.num x ≠ 0; rw [p.num x hx]; exact hx)
      exact h2.trans (p.num x hx)
    · rw [if_neg hn] at hr
      by_cases hs : w ∈ s.stk
      · rw [if_pos hs] at hr
        exact ih _ _ _ hws' (h.onStk i0 hv hw hs) hr x hx
      · rw [if_neg hs] at hr
        exact ih _ _ _ hws' (h.gone i0 hn hs) hr x hx
end

theorem strong_left (adj : Int → List Int) (N : Int → Nat) : ∀ (k : Nat) (g : List Int) (v : Int) (s r : TS) (m : MS), TInv adj g s → s.num v = 0 → (∀ x ∈ g, RchW adj x v) → strongT adj k v s = some r → MetOk s m → (∀ x, r.num x ≠ 0 → r.num x = N x) →
    ∃ m', visitM adj k v m = some m' ∧ MetOk r m' ∧ ∃ L C, m'.left = m.left ++ L ∧ r.out = s.out ++ C ∧ CMatch adj N L C := by
  intro k
  induction k with
  | zero => intro g v s r m _ _ _ h _ _; simp [strongT] at h
  | succ k ih =>
    intro g v s r m i hv hg h hm hN
    unfold strongT at h
    obtain ⟨s', hs', rfl⟩ := Option.map_eq_some_iff.1 h
    rw [leave_num] at hN
    -- the successors
    have succs : ∀ (ws done : List Int) (s1 r1 : TS) (m1 : MS), (∀ w ∈ ws, w ∈ adj v) → TLoop adj g v done s s1 → succsT (strongT adj k) v ws s1 = some r1 → MetOk s1 m1 → (∀ x, r1.num x ≠ 0 → r1.num x = N x) →
        ∃ m', succsM (visitM adj k) ws m1 = some m' ∧ MetOk r1 m' ∧ ∃ L C, m'.left = m1.left ++ L ∧ r1.out = s1.out ++ C ∧ CMatch adj N L C := by
      intro ws
      induction ws with
      | nil =>
        intro done s1 r1 m1 _ hl hr hm hN
        simp only [succsT, Option.some.injEq] at hr
        subst hr
        exact ⟨m1, rfl, hm, [], [], by simp, by simp, .nil⟩
      | cons w ws ih2 =>
        intro done s1 r1 m1 hws hl hr hm hN
        have hw := hws w (by simp)
        have hws' : ∀ x ∈ ws, x ∈ adj v := fun x hx => hws x (by simp [hx])
        unfold succsT at hr
        by_cases hn : s1.num w = 0
        · rw [if_pos hn] at hr
          obtain ⟨s2, hs2, hr'⟩ := Option.bind_eq_some_iff.1 hr
          have hg' : ∀ x ∈ g ++ [v], RchW adj x w := fun x hx => by
            rcases List.mem_append.1 hx with hx | hx
            · exact (hg x hx).step hw
            · obtain rfl := List.mem_singleton.1 hx
              exact RchW.one hw
          have p := strongT_ok adj k (g ++ [v]) w s1 s2 hl.inv hn hg' hs2
          have hl2 := hl.walked i hv hw hn p
          have hn2 := succs_num i hv hg k ws _ _ _ hws' hl2 hr'
          have hN2 : ∀ x, s2.num x ≠ 0 → s2.num x = N x := fun x hx => by
            have e := hn2 x hx
            have e2 : (s2.lower v (s2.low w)).num x = s2.num x := rfl
            rw [e2] at e
            rw [← e]
            exact hN x (by rw [e]; exact hx)
          obtain ⟨m2, e1, k1, L1, C1, a1, a2, a3⟩ := ih (g ++ [v]) w s1 s2 m1 hl.inv hn hg' hs2 hm hN2
          obtain ⟨m3, e2, k2, L2, C2, b1, b2, b3⟩ := ih2 _ _ _ m2 hws' hl2 hr' (k1.lower v _) hN
          refine ⟨m3, ?_, k2, L1 ++ L2, C1 ++ C2, by rw [b1, a1, List.append_assoc], ?_, a3.append b3⟩
          · unfold succsM
            rw [if_neg (fun hh => (hm.seen w).2 hh hn), e1]
            exact e2
          · rw [b2]
            show s2.out ++ C2 = _
            rw [a2, List.append_assoc]
        · rw [if_neg hn] at hr
          have hin := (hm.seen w).1 hn
          by_cases hs : w ∈ s1.stk
          · rw [if_pos hs] at hr
            obtain ⟨m3, e2, k2, L2, C2, b1, b2, b3⟩ := ih2 _ _ _ m1 hws' (hl.onStk i hv hw hs) hr (hm.lower v _) hN
            exact ⟨m3, by unfold succsM; rw [if_pos hin]; exact e2, k2, L2, C2, b1, b2, b3⟩
          · rw [if_neg hs] at hr
            obtain ⟨m3, e2, k2, L2, C2, b1, b2, b3⟩ := ih2 _ _ _ m1 hws' (hl.gone i hn hs) hr hm hN
            exact ⟨m3, by unfold succsM; rw [if_pos hin]; exact e2, k2, L2, C2, b1, b2, b3⟩
    have he := i.enter hv hg
    have hl := succs_ok i hv hg (strongT adj k) (fun w s s' a b c d => strongT_ok adj k (g ++ [v]) w s s' a b c d) (adj v) [] (s.enter v) s' (fun _ h => h) he hs'
    rw [List.nil_append] at hl
    obtain ⟨m1, e1, k1, L, C, a1, a2, a3⟩ := succs (adj v) [] (s.enter v) s' ⟨m.met ++ [v], m.left⟩ (fun _ h => h) he hs' (hm.enter i hv) hN
    have p := hl.leave i hv hg (fun w hw => hw)
    have hvo := hl.vOut hv i
    obtain ⟨nw, e, _⟩ := hl.stk
    have a2' : s'.out = s.out ++ C := a2
    refine ⟨⟨m1.met, m1.left ++ [v]⟩, by unfold visitM; rw [e1]; rfl, ⟨fun x => by rw [leave_num]; exact k1.seen x, by rw [leave_num]; exact k1.ord⟩, ?_⟩
    have hvn : s'.num v ≠ 0 := by rw [hl.nv]; omega
    by_cases hlow : s'.low v = s'.num v
    · have ep : s'.leave v = ⟨s'.idx, s'.num, s'.low, s.stk, s'.out ++ [(v :: nw).reverse]⟩ := by
        obtain ⟨t1, t2⟩ := cut_at s.stk nw v hvo
        unfold TS.leave
        rw [if_pos hlow]
        unfold TS.pop
        rw [e, t1, t2]
      obtain ⟨hnd, ρ, hρ, hmm⟩ := p.inv.comp (v :: nw).reverse (by rw [ep]; simp)
      have hvc : v ∈ (v :: nw).reverse := by simp
      have hvr := (hmm v).1 hvc
      have hcm : ∀ y, y ∈ (v :: nw).reverse ↔ RchW adj v y ∧ RchW adj y v := fun y => by
        rw [hmm y]
        exact ⟨fun ⟨a, b⟩ => ⟨hvr.2.trans a, b.trans hvr.1⟩, fun ⟨a, b⟩ => ⟨hvr.1.trans a, b.trans hvr.2⟩⟩
      refine ⟨L ++ [v], C ++ [(v :: nw).reverse], by rw [a1, List.append_assoc], by rw [ep]; show s'.out ++ _ = _; rw [a2', List.append_assoc], a3.root (fun x hx1 hx2 => ?_) hnd hcm⟩
      have hx := (hcm x).2 ⟨hx1, hx2⟩
      rw [List.mem_reverse] at hx
      have hsrt := hl.inv.srt
      rw [e, List.pairwise_append] at hsrt
      rcases List.mem_cons.1 hx with rfl | hx
      · exact Nat.le_refl _
      · have h3 := (List.pairwise_cons.1 hsrt.2.1).1 x hx
        have h4 := hN v hvn
        have h5 := hN x (by omega)
        omega
    · have ep : s'.leave v = s' := by unfold TS.leave; rw [if_neg hlow]
      obtain ⟨z, hz, hzn, hzr⟩ := hl.lo.resolve_left hlow
      refine ⟨L ++ [v], C, by rw [a1, List.append_assoc], by rw [ep]; exact a2', a3.skip (fun hroot => ?_)⟩
      have hfwd := hl.inv.fwd
      rw [e, List.pairwise_append] at hfwd
      have hzv := hfwd.2.2 z hz v (by simp)
      have h1 := hl.olds i hz
      have h2 := hroot z hzr hzv
      have h3 := hN v hvn
      have h4 := hN z (by rw [h1.1]; exact i.vis z hz)
      omega

def allM (adj : Int → List Int) (k : Nat) : List Int → MS → Option MS
  | [], m => some m
  | v :: vs, m => if v ∈ m.met then allM adj k vs m else (visitM adj k v m).bind (allM adj k vs)
theorem all_num (adj : Int → List Int) (k : Nat) : ∀ (vs : List Int) (s r : TS), TInv adj [] s → allT adj k vs s = some r → ∀ x, s.num x ≠ 0 → r.num x = s.num x := by
  intro vs
  induction vs with
  | nil => intro s r _ h x _; simp only [allT, Option.some.injEq] at h; subst h; rfl
  | cons v vs ih =>
    intro s r i h x hx
    unfold allT at h
    by_cases hn : s.num v = 0
    · rw [if_pos hn] at h
      obtain ⟨s', hs', hr'⟩ := Option.bind_eq_some_iff.1 h
      have p := strongT_ok adj k [] v s s' i hn (fun x hx => by cases hx) hs'
      exact (ih s' r p.inv hr' x (by rw [p.num x hx]; exact hx)).trans (p.num x hx)
    · rw [if_neg hn] at h
      exact ih s r i h x hx
theorem all_left (adj : Int → List Int) (N : Int → Nat) (k : Nat) : ∀ (vs : List Int) (s r : TS) (m : MS), TInv adj [] s → allT adj k vs s = some r → MetOk s m → (∀ x, r.num x ≠ 0 → r.num x = N x) →
    ∃ m', allM adj k vs m = some m' ∧ MetOk r m' ∧ ∃ L C, m'.left = m.left ++ L ∧ r.out = s.out ++ C ∧ CMatch adj N L C := by
  intro vs
  induction vs with
  | nil => intro s r m _ h hm _; simp only [allT, Option.some.injEq] at h; subst h; exact ⟨m, rfl, hm, [], [], by simp, by simp, .nil⟩
  | cons v vs ih =>
    intro s r m i h hm hN
    unfold allT at h
    by_cases hn : s.num v = 0
    · rw [if_pos hn] at h
      obtain ⟨s', hs', hr'⟩ := Option.bind_eq_some_iff.1 h
      have hg : ∀ x ∈ ([] : List Int), RchW adj x v := fun x hx => by cases hx
      have p := strongT_ok adj k [] v s s' i hn hg hs'
      have hn2 := all_num adj k vs s' r p.inv hr'
      obtain ⟨m1, e1, k1, L1, C1, a1, a2, a3⟩ := strong_left adj N k [] v s s' m i hn hg hs' hm (fun x hx => by rw [← hn2 x hx]; exact hN x (by rw [hn2 x hx]; exact hx))
      obtain ⟨m2, e2, k2, L2, C2, b1, b2, b3⟩ := ih s' r m1 p.inv hr' k1 hN
      exact ⟨m2, by unfold allM; rw [if_neg (fun hh => (hm.seen v).2 hh hn), e1]; exact e2, k2, L1 ++ L2, C1 ++ C2, by rw [b1, a1, List.append_assoc], by rw [b2, a2, List.append_assoc], a3.append b3⟩
    · rw [if_neg hn] at h
      obtain ⟨m2, e2, k2, L2, C2, b1, b2, b3⟩ := ih s r m i h hm hN
      exact ⟨m2, by unfold allM; rw [if_pos ((hm.seen v).1 hn)]; exact e2, k2, L2, C2, b1, b2, b3⟩
/-- all in all -/
theorem sccs_left {adj : Int → List Int} {k : Nat} {vs : List Int} {r : TS} (h : allT adj k vs TS.none = some r) :
    ∃ m, allM adj k vs ⟨[], []⟩ = some m ∧ (∀ x, r.num x ≠ 0 ↔ x ∈ m.met) ∧ (m.met.Pairwise fun x y => r.num x < r.num y) ∧ CMatch adj r.num m.left r.out := by
  obtain ⟨m, e, k1, L, C, a1, a2, a3⟩ := all_left adj r.num k vs TS.none r ⟨[], []⟩ (TInv.none adj) h ⟨fun x => ⟨fun hh => absurd rfl hh, fun hh => by cases hh⟩, List.Pairwise.nil⟩ (fun _ _ => rfl)
  have e1 : m.left = L := by simpa using a1
  have e2 : r.out = C := by rw [a2]; rfl
  exact ⟨m, e, k1.seen, k1.ord, by rw [e1, e2]; exact a3⟩
end Go.Proofs.YtddklkgcodjijaaGreat.R

/- The order that comes of a walk depth first, and Tarjan's components: the same, turned round. -/
namespace Go.Proofs.YtddklkgcodjijaaGreat.R
open Go.RowKit Go.Lab Go.Proofs.YtddklkgcodjijaaGreatW.PrintWords PL Q
def firstL (l c : List Int) : Int := (l.find? fun x => decide (x ∈ c)).getD 0
def compL (ps : List (List Int)) (u : Int) : List Int := (ps.find? fun c => decide (u ∈ c)).getD []
/-- what a node that was left tells: the place of the order, and the cyclic component -/
def emitS (met : List Int) (ps : List (List Int)) (u : Int) : List (Bool × Int) :=
  if firstL met (compL ps u) ≠ u then [] else if 1 < (compL ps u).length then [(true, 0)] else [(false, u)]
def emitC (met : List Int) (ps : List (List Int)) (u : Int) : List (List Int) :=
  if firstL met (compL ps u) ≠ u then [] else if 1 < (compL ps u).length then [compL ps u] else []
def slotP (p : List Int) : Bool × Int := if p.length = 1 then (false, p.headD 0) else (true, 0)
def cyclicP (out : List (List Int)) : List (List Int) := (out.filter fun p => decide (p.length ≠ 1)).map srt

/-- the first of a component among those that were met is its root -/
theorem firstL_root {adj : Int → List Int} {N : Int → Nat} {met c : List Int} {u : Int} (hm : met.Pairwise fun x y => N x < N y) (hu : u ∈ met) (hc : ∀ y, y ∈ c ↔ RchW adj u y ∧ RchW adj y u) (hin : ∀ y ∈ c, y ∈ met) : firstL met c = u ↔ Root adj N u := by
  have huc : u ∈ c := (hc u).2 ⟨RchW.here, RchW.here⟩
  obtain ⟨x, hx⟩ : ∃ x, met.find? (fun x => decide (x ∈ c)) = some x := by
    cases e : met.find? (fun x => decide (x ∈ c)) with
    | some x => exact ⟨x, rfl⟩
    | none =>
      have := List.find?_eq_none.1 e u hu
      exact absurd (decide_eq_true huc) (by simpa using this)
  have e : firstL met c = x := by unfold firstL; rw [hx]; rfl
  rw [e]
  obtain ⟨hxc, pa, pb, hab, has⟩ := List.find?_eq_some_iff_append.1 hx
  have hxc := of_decide_eq_true hxc
  rw [hab] at hm
  have hbs := (List.pairwise_cons.1 (List.pairwise_append.1 hm).2.1).1
  have pos : ∀ y ∈ c, y = x ∨ N x < N y := fun y hy => by
    have h9 := hin y hy
    rw [hab] at h9
    rcases List.mem_append.1 h9 with h | h
    · have := has y h
      rw [decide_eq_true hy] at this
      cases this
    · rcases List.mem_cons.1 h with h | h
      · exact .inl h
      · exact .inr (hbs y h)
  constructor
  · rintro rfl y h1 h2
    rcases pos y ((hc y).2 ⟨h1, h2⟩) with rfl | h
    · exact Nat.le_refl _
    · omega
  · intro hr
    have h1 := hr x ((hc x).1 hxc).1 ((hc x).1 hxc).2
    rcases pos u huc with h | h
    · exact h.symm
    · omega

/-- the parts, by the definition: each ascending, all of them, each with what reaches its own -/
structure PartsOk (adj : Int → List Int) (ns : List Int) (ps : List (List Int)) : Prop where
  srt : ∀ c ∈ ps, c.Pairwise (· < ·)
  comp : ∀ c ∈ ps, ∀ u ∈ c, ∀ y, y ∈ c ↔ RchW adj u y ∧ RchW adj y u
  all : ∀ u ∈ ns, ∃ c ∈ ps, u ∈ c
theorem compL_ok {adj : Int → List Int} {ns : List Int} {ps : List (List Int)} (h : PartsOk adj ns ps) {u : Int} (hu : u ∈ ns) : (compL ps u).Pairwise (· < ·) ∧ ∀ y, y ∈ compL ps u ↔ RchW adj u y ∧ RchW adj y u := by
  obtain ⟨c0, hc0, hu0⟩ := h.all u hu
  obtain ⟨c, hc⟩ : ∃ c, ps.find? (fun c => decide (u ∈ c)) = some c := by
    cases e : ps.find? (fun c => decide (u ∈ c)) with
    | some x => exact ⟨x, rfl⟩
    | none =>
      have := List.find?_eq_none.1 e c0 hc0
      exact absurd (decide_eq_true hu0) (by simpa using this)
  have e : compL ps u = c := by unfold compL; rw [hc]; rfl
  have hm := List.mem_of_find?_eq_some hc
  have hp : u ∈ c := by
    have := List.find?_some hc
    simpa using this
  rw [e]
  exact ⟨h.srt c hm, h.comp c hm u hp⟩
theorem lt_ext {a b : List Int} (ha : a.Pairwise (· < ·)) (hb : b.Pairwise (· < ·)) (h : ∀ x, x ∈ a ↔ x ∈ b) : a = b :=
  ord_ext (fun x y : Int => x < y) (fun x y h1 h2 => by omega) ha hb h

theorem emit_root {adj : Int → List Int} {N : Int → Nat} {ns met : List Int} {ps : List (List Int)} (h : PartsOk adj ns ps) (hm : met.Pairwise fun x y => N x < N y) (hmn : ∀ x, x ∈ met ↔ x ∈ ns) (hcl : ∀ u ∈ ns, ∀ y, RchW adj u y → y ∈ ns) {u : Int} (hu : u ∈ ns) {c : List Int} (hr : Root adj N u) (hnd : c.Nodup) (hc : ∀ y, y ∈ c ↔ RchW adj u y ∧ RchW adj y u) :
    emitS met ps u = [slotP c] ∧ emitC met ps u = cyclicP [c] := by
  obtain ⟨h1, h2⟩ := compL_ok h hu
  have hf := (firstL_root hm ((hmn u).2 hu) h2 (fun y hy => (hmn y).2 (hcl u hu y ((h2 y).1 hy).1))).2 hr
  have e : srt c = compL ps u := lt_ext (srt_lt hnd) h1 fun x => by rw [mem_srt, hc x, h2 x]
  have hl : (compL ps u).length = c.length := by rw [← e, srt_length]
  have huc : u ∈ c := (hc u).2 ⟨RchW.here, RchW.here⟩
  have hpos : 0 < c.length := List.length_pos_of_mem huc
  unfold emitS emitC slotP cyclicP
  have c0 : ¬ firstL met (compL ps u) ≠ u := by simp [hf]
  rw [if_neg c0, if_neg c0, hl]
  by_cases h9 : c.length = 1
  · obtain ⟨x, rfl⟩ := List.length_eq_one_iff.1 h9
    obtain rfl := List.mem_singleton.1 huc
    simp
  · have c1 : 1 < c.length := by omega
    rw [if_pos c1, if_pos c1, if_neg h9]
    simp [h9, e]
theorem emit_skip {adj : Int → List Int} {N : Int → Nat} {ns met : List Int} {ps : List (List Int)} (h : PartsOk adj ns ps) (hm : met.Pairwise fun x y => N x < N y) (hmn : ∀ x, x ∈ met ↔ x ∈ ns) (hcl : ∀ u ∈ ns, ∀ y, RchW adj u y → y ∈ ns) {u : Int} (hu : u ∈ ns) (hr : ¬ Root adj N u) :
    emitS met ps u = [] ∧ emitC met ps u = [] := by
  obtain ⟨h1, h2⟩ := compL_ok h hu
  have hf : firstL met (compL ps u) ≠ u := fun e => hr ((firstL_root hm ((hmn u).2 hu) h2 (fun y hy => (hmn y).2 (hcl u hu y ((h2 y).1 hy).1))).1 e)
  unfold emitS emitC
  rw [if_pos hf, if_pos hf]
  exact ⟨rfl, rfl⟩
/-- the order, and the cyclic components, read off the nodes that were left -/
theorem emit_all {adj : Int → List Int} {N : Int → Nat} {ns met : List Int} {ps : List (List Int)} (h : PartsOk adj ns ps) (hm : met.Pairwise fun x y => N x < N y) (hmn : ∀ x, x ∈ met ↔ x ∈ ns) (hcl : ∀ u ∈ ns, ∀ y, RchW adj u y → y ∈ ns) :
    ∀ {L : List Int} {C : List (List Int)}, CMatch adj N L C → (∀ u ∈ L, u ∈ ns) → L.reverse.flatMap (emitS met ps) = (C.map slotP).reverse ∧ L.reverse.flatMap (emitC met ps) = (cyclicP C).reverse := by
  intro L C hh
  induction hh with
  | nil => intro _; exact ⟨rfl, rfl⟩
  | @root L C u c _ hr hnd hc ih =>
    intro hL
    obtain ⟨i1, i2⟩ := ih fun x hx => hL x (by simp [hx])
    obtain ⟨e1, e2⟩ := emit_root h hm hmn hcl (hL u (by simp)) hr hnd hc
    rw [List.reverse_append, List.reverse_singleton, List.flatMap_append, List.flatMap_append, i1, i2]
    simp only [List.flatMap_cons, List.flatMap_nil, List.append_nil, e1, e2]
    refine ⟨by simp, ?_⟩
    unfold cyclicP
    rw [List.filter_append, List.map_append, List.reverse_append]
    congr 1
    by_cases h9 : c.length = 1 <;> simp [h9]
  | @skip L C u _ hr ih =>
    intro hL
    obtain ⟨i1, i2⟩ := ih fun x hx => hL x (by simp [hx])
    obtain ⟨e1, e2⟩ := emit_skip h hm hmn hcl (hL u (by simp)) hr
    rw [List.reverse_append, List.reverse_singleton, List.flatMap_append, List.flatMap_append, i1, i2]
    simp [e1, e2]
/-- what was left was met -/
theorem succsM_left {ns : List Int} (rec : Int → MS → Option MS) (hrec : ∀ v m m', v ∈ ns → rec v m = some m' → (∀ x ∈ m.left, x ∈ ns) → ∀ x ∈ m'.left, x ∈ ns) : ∀ (ws : List Int) (m m' : MS), (∀ w ∈ ws, w ∈ ns) → succsM rec ws m = some m' → (∀ x ∈ m.left, x ∈ ns) → ∀ x ∈ m'.left, x ∈ ns := by
  intro ws
  induction ws with
  | nil => intro m m' _ h hm; simp only [succsM, Option.some.injEq] at h; subst h; exact hm
  | cons w ws ih =>
    intro m m' hw h hm
    unfold succsM at h
    split at h
    · exact ih m m' (fun x hx => hw x (by simp [hx])) h hm
    · obtain ⟨m1, h1, h2⟩ := Option.bind_eq_some_iff.1 h
      exact ih m1 m' (fun x hx => hw x (by simp [hx])) h2 (hrec w m m1 (hw w (by simp)) h1 hm)
theorem visitM_left {adj : Int → List Int} {ns : List Int} (hin : ∀ u, ∀ x ∈ adj u, x ∈ ns) : ∀ (k : Nat) (v : Int) (m m' : MS), v ∈ ns → visitM adj k v m = some m' → (∀ x ∈ m.left, x ∈ ns) → ∀ x ∈ m'.left, x ∈ ns := by
  intro k
  induction k with
  | zero => intro v m m' _ h; simp [visitM] at h
  | succ k ih =>
    intro v m m' hv h hm
    unfold visitM at h
    obtain ⟨m1, h1, rfl⟩ := Option.map_eq_some_iff.1 h
    intro x hx
    rcases List.mem_append.1 hx with hx | hx
    · exact succsM_left (visitM adj k) ih (adj v) _ m1 (hin v) h1 hm x hx
    · rw [List.mem_singleton.1 hx]; exact hv
theorem allM_left {adj : Int → List Int} {ns : List Int} (hin : ∀ u, ∀ x ∈ adj u, x ∈ ns) (k : Nat) : ∀ (vs : List Int) (m m' : MS), (∀ v ∈ vs, v ∈ ns) → allM adj k vs m = some m' → (∀ x ∈ m.left, x ∈ ns) → ∀ x ∈ m'.left, x ∈ ns := by
  intro vs
  induction vs with
  | nil => intro m m' _ h hm; simp only [allM, Option.some.injEq] at h; subst h; exact hm
  | cons v vs ih =>
    intro m m' hw h hm
    unfold allM at h
    split at h
    · exact ih m m' (fun x hx => hw x (by simp [hx])) h hm
    · obtain ⟨m1, h1, h2⟩ := Option.bind_eq_some_iff.1 h
      exact ih m1 m' (fun x hx => hw x (by simp [hx])) h2 (visitM_left hin k v m m1 (hw v (by simp)) h1 hm)
/-- THE TWO ROADS: what the walk's nodes tell is Tarjan's order, turned round -/
theorem stable_is {adj : Int → List Int} {k : Nat} {vs ns : List Int} {ps : List (List Int)} {r : TS} (h : allT adj k vs TS.none = some r) (hvs : ∀ x, x ∈ vs ↔ x ∈ ns) (hin : ∀ u, ∀ x ∈ adj u, x ∈ ns) (hgn : ∀ x, r.num x ≠ 0 → x ∈ ns) (hp : PartsOk adj ns ps) :
    ∃ m, allM adj k vs ⟨[], []⟩ = some m ∧ m.left.reverse.flatMap (emitS m.met ps) = (r.out.map slotP).reverse ∧ m.left.reverse.flatMap (emitC m.met ps) = (cyclicP r.out).reverse ∧ (∀ x ∈ m.left, x ∈ ns) ∧ (∀ x ∈ m.met, x ∈ ns) ∧ m.met.Nodup := by
  obtain ⟨m, e, hs, ho, hcm⟩ := sccs_left h
  obtain ⟨_, _, hv⟩ := allT_ok adj k vs TS.none r (TInv.none adj) h
  have hmn : ∀ x, x ∈ m.met ↔ x ∈ ns := fun x => ⟨fun hx => hgn x ((hs x).2 hx), fun hx => (hs x).1 (hv x ((hvs x).2 hx))⟩
  have hL := allM_left hin k vs ⟨[], []⟩ m (fun v hv => (hvs v).1 hv) e (fun x hx => by cases hx)
  obtain ⟨a, b⟩ := emit_all hp ho hmn (fun u hu y hy => hy (fun z => z ∈ ns) hu fun z _ w hw => hin z w hw) hcm hL
  exact ⟨m, e, a, b, hL, fun x hx => (hmn x).1 hx, ho.imp fun {a b} hab e => by subst e; omega⟩
end Go.Proofs.YtddklkgcodjijaaGreat.R

/- The reference's walk: its state; and componentOf. -/
namespace Go.Proofs.YtddklkgcodjijaaGreat.R
open Go.RowKit Go.Lab Go.Maps Go.Proofs.YtddklkgcodjijaaGreatW.PrintWords Go.Proofs.YtddklkgcodjijaaGreatW.PrintLast Go.Proofs.YtddklkgcodjijaaGreatW.PrintMore PL Q

theorem ints_of_R {w : World} {base : Nat} {e : Nat} {ok : Nat → Prop} {v : Value} {xs : List Int} (h : Kd.R (Kd.int .i64) e w base ok v xs) : w.ownsRow base e 1 v xs.length (nums .i64 xs) := by
  obtain ⟨_, inner, ho, hl, hM⟩ := h
  have hl' : inner.length = xs.length := hl.trans (Nat.mul_one _)
  have he : inner = nums .i64 xs := by
    refine List.ext_getElem? fun j => ?_
    by_cases hj : j < xs.length
    · have h1 : List.take 1 (List.drop (j * 1) inner) = [.int .i64 xs[j]] := hM j xs[j] (List.getElem?_eq_getElem hj)
      rw [Nat.mul_one, List.drop_eq_getElem_cons (by omega)] at h1
      have h2 : inner[j] = .int .i64 xs[j] := (List.cons.inj h1).1
      rw [List.getElem?_eq_getElem (by omega), h2]
      simp [nums, hj]
    · rw [List.getElem?_eq_none (by omega), List.getElem?_eq_none (by rw [nums_length]; omega)]
  rw [← he]
  exact ho
theorem rows_of_R {w : World} {lo : Nat} {ok : Nat → Prop} {v : Value} {ps : List (List Int)} (h : Kd.R (Kd.slice 3 (Kd.int .i64)) 22 w lo ok v ps) : ∃ rows, RwsV kpI lo w v rows ps := by
  obtain ⟨_, rows, ho, hl, hM⟩ := h
  have hl' : rows.length = ps.length := hl.trans (Nat.mul_one _)
  refine ⟨rows, by rw [hl']; exact ho, hl', fun i hi => ?_⟩
  have hip : i < ps.length := by omega
  obtain ⟨u, hu, hr⟩ : ∃ u, List.take 1 (List.drop (i * 1) rows) = [u] ∧ Kd.R (Kd.int .i64) 3 w lo _ u ps[i] := hM i ps[i] (List.getElem?_eq_getElem hip)
  rw [Nat.mul_one, List.drop_eq_getElem_cons hi] at hu
  have hu2 : rows[i] = u := (List.cons.inj hu).1
  have hq : ps.getD i [] = ps[i] := by rw [List.getD_eq_getElem?_getD, List.getElem?_eq_getElem hip]; rfl
  rw [hq, hu2]
  exact ints_of_R hr
theorem C_of_own {w : World} {base : Nat} {e : Nat} {A : Option Addr} {c : Nat} {xs : List Int} (h : w.ownsRow base e 1 (.slice A xs.length c) xs.length (nums .i64 xs)) : xs.length ≤ c ∧ Kd.C (Kd.int .i64) w A xs.length xs := (Kd.R_reads' (R_of_ints h)).2

theorem compL_cons (q : List Int) (ps : List (List Int)) (u : Int) : compL (q :: ps) u = if u ∈ q then q else compL ps u := by
  unfold compL
  rw [List.find?_cons]
  by_cases h : u ∈ q
  · rw [decide_eq_true h, if_pos h]; rfl
  · rw [decide_eq_false h, if_neg h]

set_option maxHeartbeats 4000000 in
set_option maxRecDepth 100000 in
theorem compOf_any (lo : Nat) (lv : Value) (rows : List Value) (ps : List (List Int)) (u : Int) (w : World) (h : RwsV kpI lo w lv rows ps) (hn : ps.length ≤ 1000) (hl : ∀ c ∈ ps, c.length ≤ 1000) :
    Calls Tryz.prog 36 #[lv, .int .i64 u] w fun e w' => ∃ v, e = .returned v ∧ w'.ownsRow lo 3 1 v (compL ps u).length (nums .i64 (compL ps u)) ∧ Below w.heap.size w w' := by
  obtain ⟨A, c, rfl⟩ := own_slice h.own
  have HRL := Aside0.mk h.len
  have hrn : rows.length ≤ 1000 := by rw [h.len]; exact hn
  have HH := Aside0.mk (And.intro h hl)
  clear h hl hn
  go_enter Tryz.func36, Tryz.ntmps36
  go_wp2
  go_loopw [9] (fun i wr => ∃ k : Nat, k ≤ rows.length ∧ i = .int .i64 k ∧ Aside0 (compL ps u = compL (ps.drop k) u ∧ Below w.heap.size w wr)) (fun i _ => rows.length - (intOf i).toNat)
  case atStart => exact ⟨0, Nat.zero_le _, rfl, ⟨by simp, Below.refl _ _⟩⟩
  case round =>
    obtain ⟨k, hk, rfl, HR⟩ := hrel
    by_cases hlt : k < rows.length
    · have hkp : k < ps.length := by have := HRL.out; omega
      obtain ⟨g, c', he, hc', hcell, ⟨cur, hcur⟩⟩ := own_cells HH.out.1.own (by omega)
      simp only [Value.slice.injEq] at he
      obtain ⟨rfl, -, rfl⟩ := he
      have hrow := HH.out.1.each k hlt
      have hdr : compL (ps.drop k) u = if u ∈ ps[k] then ps[k] else compL (ps.drop (k + 1)) u := by rw [List.drop_eq_getElem_cons hkp, compL_cons]
      have hq1 : ps[k].length ≤ 1000 := HH.out.2 _ (List.getElem_mem _)
      have hqg : ps.getD k [] = ps[k] := by rw [List.getD_eq_getElem?_getD, List.getElem?_eq_getElem hkp]; rfl
      rw [hqg] at hrow
      obtain ⟨q, hq⟩ : ∃ q, ps[k] = q := ⟨_, rfl⟩
      rw [hq] at hrow hdr hq1
      obtain ⟨A2, c2, hrk⟩ := own_slice hrow
      have hce : wr.cell? ⟨g, k, none⟩ = some (.slice A2 q.length c2) := by
        rw [World.cell?_of_block (HR.out.2.block g (blk_lt hcur)), ← hrk]
        exact hcell k _ (by simp [hlt])
      rw [hrk] at hrow
      have hrow2 : wr.ownsRow lo 3 1 (.slice A2 q.length c2) q.length (nums .i64 q) := own_of_heap hrow fun k hk => HR.out.2.block k (by obtain ⟨cc, hcc⟩ := own_block hrow hk; exact blk_lt hcc)
      have HROW := Aside0.mk hrow2
      have HCC := Aside0.mk (C_of_own hrow2)
      obtain ⟨kk, hev⟩ := (hasI_ev q u (by omega)).rounds
      have HEV := Aside0.mk hev
      have HDR := Aside0.mk hdr
      have HSZ := Aside0.mk HR.out.2.size
      clear hrow hrow2 hdr hqg hq hrk hcell hcur hev hkp
      by_cases hb : u ∈ q
      · have hd : decide (u ∈ q) = true := decide_eq_true hb
        have HB := Aside0.mk hb
        clear hb
        go_wp2_with (go_at_call 33; refine (spec_hasInt.calls kk _ _ q u _ _ HCC.out.2 HCC.out.1 HEV.out).mono ?_; rintro e w1 ⟨rfl, hdw⟩; rw [hd]; have HD := Aside0.mk hdw; clear hdw)
        go_ret
        refine ⟨_, rfl, ?_, HR.out.2.trans (HD.out.below.mono HSZ.out)⟩
        rw [HR.out.1, HDR.out, if_pos HB.out]
        exact own_of_heap HROW.out fun k hk => HD.out.below.block k (by obtain ⟨cc, hcc⟩ := own_block HROW.out hk; exact blk_lt hcc)
      · have hd : decide (u ∈ q) = false := decide_eq_false hb
        have HB := Aside0.mk hb
        clear hb
        go_wp2_with (go_at_call 33; refine (spec_hasInt.calls kk _ _ q u _ _ HCC.out.2 HCC.out.1 HEV.out).mono ?_; rintro e w1 ⟨rfl, hdw⟩; rw [hd]; have HD := Aside0.mk hdw; clear hdw)
        go_roundw
        case rel => exact ⟨k + 1, by omega, by go_num, ⟨by rw [HR.out.1, HDR.out, if_neg HB.out], HR.out.2.trans (HD.out.below.mono HSZ.out)⟩⟩
        case measure => simp [intOf]; omega
    · have hnil : compL ps u = [] := by
        rw [HR.out.1, List.drop_eq_nil_of_le (by have := HRL.out; omega)]; rfl
      have HNIL := Aside0.mk hnil
      clear hnil
      go_wp2
      go_ret
      exact ⟨_, rfl, by rw [HNIL.out]; exact World.ownsRow_nil _ _ _ _, HR.out.2⟩

/-- a walk of the reference's: its block, its graph, and the world before it -/
structure WE where
  gp : Nat
  A1 : Option Addr
  c1 : Nat
  A2 : Option Addr
  c2 : Nat
  zs : List Int
  es : List S95
  w0 : World
structure WEok (c : WE) : Prop where
  n1 : Kd.C (Kd.int .i64) c.w0 c.A1 c.zs.length c.zs
  n2 : Kd.C k95 c.w0 c.A2 c.es.length c.es
  l1 : c.zs.length ≤ c.c1
  l2 : c.es.length ≤ c.c2
  lo : c.w0.heap.size ≤ c.gp
  hz : c.zs.length ≤ 300
  he : c.es.length ≤ 100000
structure VQ (c : WE) (w : World) (mv lv : Value) (met left : List Int) : Prop where
  blk : w.heap[c.gp]? = some (.cells #[.bool true, .slice c.A1 c.zs.length c.c1, .slice c.A2 c.es.length c.c2, mv, lv] 69 (0, 0))
  om : w.ownsRow (c.gp + 1) 3 1 mv met.length (nums .i64 met)
  ol : w.ownsRow (c.gp + 1) 3 1 lv left.length (nums .i64 left)
  sep : ∀ q, mv.ownBlock = some q → lv.ownBlock ≠ some q
  old : Below c.w0.heap.size c.w0 w
/-- from one world to a later one -/
structure VK (c : WE) (w w' : World) (mv lv mv' lv' : Value) : Prop where
  old : Below c.w0.heap.size w w'
  blk : ∀ k, k < w.heap.size → k ≠ c.gp → mv.ownBlock ≠ some k → lv.ownBlock ≠ some k → w'.heap[k]? = w.heap[k]?
  m : ∀ q, mv'.ownBlock = some q → mv.ownBlock = some q ∨ w.heap.size ≤ q
  l : ∀ q, lv'.ownBlock = some q → lv.ownBlock = some q ∨ w.heap.size ≤ q
section
variable {c : WE} {w w1 w2 : World} {mv lv mv1 lv1 mv2 lv2 : Value} {met left : List Int}
theorem VK.refl (c : WE) (w : World) (mv lv : Value) : VK c w w mv lv mv lv := ⟨Below.refl _ _, fun _ _ _ _ _ => rfl, fun _ h => .inl h, fun _ h => .inl h⟩
theorem VK.trans (h : VK c w w1 mv lv mv1 lv1) (k : VK c w1 w2 mv1 lv1 mv2 lv2) : VK c w w2 mv lv mv2 lv2 := by
  have hs := h.old.size
  refine ⟨h.old.trans k.old, fun q a b d e => (k.blk q (by omega) b (fun f => ?_) (fun f => ?_)).trans (h.blk q a b d e), fun q hq => ?_, fun q hq => ?_⟩
  · rcases h.m q f with f | f
    · exact d f
    · omega
  · rcases h.l q f with f | f
    · exact e f
    · omega
  · rcases k.m q hq with f | f
    · exact h.m q f
    · exact .inr (by omega)
  · rcases k.l q hq with f | f
    · exact h.l q f
    · exact .inr (by omega)
theorem VQ.mLt (h : VQ c w mv lv met left) {q : Nat} (hq : mv.ownBlock = some q) : c.gp < q ∧ q < w.heap.size := by
  obtain ⟨cc, hc⟩ := own_block h.om hq
  exact ⟨own_base h.om q hq, blk_lt hc⟩
theorem VQ.lLt (h : VQ c w mv lv met left) {q : Nat} (hq : lv.ownBlock = some q) : c.gp < q ∧ q < w.heap.size := by
  obtain ⟨cc, hc⟩ := own_block h.ol hq
  exact ⟨own_base h.ol q hq, blk_lt hc⟩
theorem VQ.below (h : VQ c w mv lv met left) (hlo : c.w0.heap.size ≤ c.gp) (hb : Below w.heap.size w w1) : VQ c w1 mv lv met left ∧ VK c w w1 mv lv mv lv := by
  have hs := h.old.size
  exact ⟨⟨(hb.block _ (blk_lt h.blk)).trans h.blk, own_of_heap h.om fun k hk => hb.block k (h.mLt hk).2, own_of_heap h.ol fun k hk => hb.block k (h.lLt hk).2, h.sep, h.old.trans (hb.mono hs)⟩,
    ⟨hb.mono hs, fun k hk _ _ _ => hb.block k hk, fun _ hq => .inl hq, fun _ hq => .inl hq⟩⟩
theorem VQ.cells (h : VQ c w mv lv met left) : w.cell? ⟨c.gp, 0, none⟩ = some (.bool true) ∧ w.cell? ⟨c.gp, 1, none⟩ = some (.slice c.A1 c.zs.length c.c1) ∧ w.cell? ⟨c.gp, 2, none⟩ = some (.slice c.A2 c.es.length c.c2) ∧ w.cell? ⟨c.gp, 3, none⟩ = some mv ∧ w.cell? ⟨c.gp, 4, none⟩ = some lv :=
  ⟨(blk_cell h.blk 0).trans rfl, (blk_cell h.blk 1).trans rfl, (blk_cell h.blk 2).trans rfl, (blk_cell h.blk 3).trans rfl, (blk_cell h.blk 4).trans rfl⟩
/-- the nodes that were met: one more -/
theorem VQ.setM (h : VQ c w mv lv met left) (hlo : c.w0.heap.size ≤ c.gp) (hg : w.grownBy w1 mv.ownBlock) {met' : List Int} (ho : w1.ownsRow (c.gp + 1) 3 1 mv1 met'.length (nums .i64 met')) (hat : mv1.ownBlock = mv.ownBlock ∨ ∀ q, mv1.ownBlock = some q → w.heap.size ≤ q) :
    VQ c (w1.setCell ⟨c.gp, 3, none⟩ mv1) mv1 lv met' left ∧ VK c w (w1.setCell ⟨c.gp, 3, none⟩ mv1) mv lv mv1 lv := by
  have hs := h.old.size
  have hgm : ∀ q, mv1.ownBlock = some q → q ≠ c.gp := fun q hq e => by have := own_base ho q hq; omega
  have hgl : ∀ q, lv.ownBlock = some q → q ≠ c.gp := fun q hq e => by have := (h.lLt hq).1; omega
  have hbg : w1.heap[c.gp]? = some (.cells #[.bool true, .slice c.A1 c.zs.length c.c1, .slice c.A2 c.es.length c.c2, mv, lv] 69 (0, 0)) := (hg.block _ (blk_lt h.blk) (fun e => by have := (h.mLt e.symm).1; omega)).trans h.blk
  have hm : ∀ q, mv1.ownBlock = some q → mv.ownBlock = some q ∨ w.heap.size ≤ q := fun q hq => by
    rcases hat with e | e
    · exact .inl (e ▸ hq)
    · exact .inr (e q hq)
  have hB1 : Below c.w0.heap.size w w1 := (Below.refl _ _).grown hg hs (fun q hq => by have := (h.mLt hq).1; omega)
  have hB : Below c.w0.heap.size w (w1.setCell ⟨c.gp, 3, none⟩ mv1) := hB1.setCell hlo _
  refine ⟨⟨blk_put (cs := #[.bool true, .slice c.A1 c.zs.length c.c1, .slice c.A2 c.es.length c.c2, mv, lv]) hbg 3 _ rfl, own_of_heap ho fun k hk => Below.heap_setCell _ _ _ _ (hgm k hk), own_of_heap h.ol fun k hk => (Below.heap_setCell _ _ _ _ (hgl k hk)).trans (hg.block k (h.lLt hk).2 (fun e => h.sep k e.symm hk)), fun q hq e => ?_, h.old.trans hB⟩, ⟨hB, fun k a b d e => (Below.heap_setCell _ _ _ _ b).trans (hg.block k a (fun f => d f.symm)), hm, fun _ hq => .inl hq⟩⟩
  rcases hm q hq with f | f
  · exact h.sep q f e
  · have := (h.lLt e).2; omega
/-- the nodes that were left: one more -/
theorem VQ.setL (h : VQ c w mv lv met left) (hlo : c.w0.heap.size ≤ c.gp) (hg : w.grownBy w1 lv.ownBlock) {left' : List Int} (ho : w1.ownsRow (c.gp + 1) 3 1 lv1 left'.length (nums .i64 left')) (hat : lv1.ownBlock = lv.ownBlock ∨ ∀ q, lv1.ownBlock = some q → w.heap.size ≤ q) :
    VQ c (w1.setCell ⟨c.gp, 4, none⟩ lv1) mv lv1 met left' ∧ VK c w (w1.setCell ⟨c.gp, 4, none⟩ lv1) mv lv mv lv1 := by
  have hs := h.old.size
  have hgl : ∀ q, lv1.ownBlock = some q → q ≠ c.gp := fun q hq e => by have := own_base ho q hq; omega
  have hgm : ∀ q, mv.ownBlock = some q → q ≠ c.gp := fun q hq e => by have := (h.mLt hq).1; omega
  have hbg : w1.heap[c.gp]? = some (.cells #[.bool true, .slice c.A1 c.zs.length c.c1, .slice c.A2 c.es.length c.c2, mv, lv] 69 (0, 0)) := (hg.block _ (blk_lt h.blk) (fun e => by have := (h.lLt e.symm).1; omega)).trans h.blk
  have hm : ∀ q, lv1.ownBlock = some q → lv.ownBlock = some q ∨ w.heap.size ≤ q := fun q hq => by
    rcases hat with e | e
    · exact .inl (e ▸ hq)
    · exact .inr (e q hq)
  have hB1 : Below c.w0.heap.size w w1 := (Below.refl _ _).grown hg hs (fun q hq => by have := (h.lLt hq).1; omega)
  have hB : Below c.w0.heap.size w (w1.setCell ⟨c.gp, 4, none⟩ lv1) := hB1.setCell hlo _
  refine ⟨⟨blk_put (cs := #[.bool true, .slice c.A1 c.zs.length c.c1, .slice c.A2 c.es.length c.c2, mv, lv]) hbg 4 _ rfl, own_of_heap h.om fun k hk => (Below.heap_setCell _ _ _ _ (hgm k hk)).trans (hg.block k (h.mLt hk).2 (fun e => h.sep k hk e.symm)), own_of_heap ho fun k hk => Below.heap_setCell _ _ _ _ (hgl k hk), fun q hq e => ?_, h.old.trans hB⟩, ⟨hB, fun k a b d e => (Below.heap_setCell _ _ _ _ b).trans (hg.block k a (fun f => e f.symm)), fun _ hq => .inl hq, hm⟩⟩
  rcases hm q e with f | f
  · exact h.sep q hq f
  · have := (h.mLt hq).2; omega
end
/-- the plain walk's bounds -/
structure MB (ns : List Int) (n : Nat) (m : MS) : Prop where
  nd : m.met.Nodup
  inn : ∀ x ∈ m.met, x ∈ ns
  le : m.left.length + n ≤ m.met.length
theorem MB.mono {ns : List Int} {n n' : Nat} {m : MS} (h : MB ns n m) (hn : n' ≤ n) : MB ns n' m := ⟨h.nd, h.inn, by have := h.le; omega⟩
theorem MB.len {ns : List Int} {n : Nat} {m : MS} (h : MB ns n m) : m.met.length ≤ ns.length ∧ m.left.length ≤ ns.length := by
  have h1 := nodup_len h.nd h.inn
  have := h.le
  exact ⟨h1, by omega⟩
theorem MB.enter {ns : List Int} {n : Nat} {m : MS} (h : MB ns n m) {v : Int} (hv : v ∈ ns) (hm : v ∉ m.met) : MB ns (n + 1) ⟨m.met ++ [v], m.left⟩ := by
  refine ⟨List.nodup_append.2 ⟨h.nd, by simp, fun a ha b hb e => ?_⟩, fun x hx => ?_, by have := h.le; simp; omega⟩
  · rw [List.mem_singleton.1 hb] at e
    exact hm (e ▸ ha)
  · rcases List.mem_append.1 hx with hx | hx
    · exact h.inn x hx
    · rw [List.mem_singleton.1 hx]; exact hv
theorem succsM_mb {ns : List Int} (rec : Int → MS → Option MS) (hrec : ∀ n v m m', v ∈ ns → v ∉ m.met → MB ns n m → rec v m = some m' → MB ns n m') : ∀ (ws : List Int) (n : Nat) (m m' : MS), (∀ w ∈ ws, w ∈ ns) → MB ns n m → succsM rec ws m = some m' → MB ns n m' := by
  intro ws
  induction ws with
  | nil => intro n m m' _ h e; simp only [succsM, Option.some.injEq] at e; subst e; exact h
  | cons w ws ih =>
    intro n m m' hw h e
    unfold succsM at e
    split at e
    · exact ih n m m' (fun x hx => hw x (by simp [hx])) h e
    · rename_i hm
      obtain ⟨m1, h1, h2⟩ := Option.bind_eq_some_iff.1 e
      exact ih n m1 m' (fun x hx => hw x (by simp [hx])) (hrec n w m m1 (hw w (by simp)) hm h h1) h2
theorem visitM_mb {adj : Int → List Int} {ns : List Int} (hin : ∀ u, ∀ x ∈ adj u, x ∈ ns) : ∀ (k n : Nat) (v : Int) (m m' : MS), v ∈ ns → v ∉ m.met → MB ns n m → visitM adj k v m = some m' → MB ns n m' := by
  intro k
  induction k with
  | zero => intro n v m m' _ _ _ h; simp [visitM] at h
  | succ k ih =>
    intro n v m m' hv hm h e
    unfold visitM at e
    obtain ⟨m1, h1, rfl⟩ := Option.map_eq_some_iff.1 e
    have := succsM_mb (visitM adj k) ih (adj v) (n + 1) _ m1 (hin v) (h.enter hv hm) h1
    exact ⟨this.nd, this.inn, by have := this.le; simp; omega⟩
end Go.Proofs.YtddklkgcodjijaaGreat.R

/- What the reference's functions answer: From, reached, Reaches, SCC, firstOf; and slots that are the same. -/
namespace Go.Proofs.YtddklkgcodjijaaGreat.R
open Go.RowKit Go.Lab Go.Proofs.YtddklkgcodjijaaGreatW.PrintWords PL Q

theorem nodesS (zs : List Int) (es : List S95) (hz : zs.length ≤ 100000) : spec_Nodes.f true zs es = some (srt zs) := by
  unfold spec_Nodes.f spec_sortInts.f
  rw [if_pos hz]
  rfl
theorem fromS_l0 (zs : List Int) (es : List S95) (u : Int) (he : es.length ≤ 100000) (l : List Int) (hl : l.length ≤ 100000) : ∀ m i, l.length - i ≤ m → i ≤ l.length → ∀ acc : List Int, acc.length ≤ i →
    Ev (fun k => spec_From.l0 k u acc l (l.length : Int) (i : Int) true zs es) (acc ++ (l.drop i).filter fun v => (arcW es u v).isSome)
  | 0, i, hm, hi, acc, ha => by
    refine Ev.step (fun k => ?_) (Ev.now _)
    simp only [spec_From.l0]
    rw [if_neg (by omega), List.drop_eq_nil_of_le (by omega)]
    simp
  | m + 1, i, hm, hi, acc, ha => by
    by_cases hlt : i < l.length
    · have w2 : wrap64 ((i : Int) + 1) = ((i + 1 : Nat) : Int) := by unfold wrap64; omega
      rw [List.drop_eq_getElem_cons hlt]
      have hr := rdE l i hlt
      generalize l[i] = v at hr
      have hj := joinedS_ev zs es u v he
      refine Ev.step (f := fun k => (spec_Joined.f k true zs es u v).bind fun t158 => (if t158 = true then (if acc.length < 17592186044416 then (spec_From.l0 k u (acc ++ [v]) l (l.length : Int) ((i + 1 : Nat) : Int) true zs es) else (none)) else (spec_From.l0 k u acc l (l.length : Int) ((i + 1 : Nat) : Int) true zs es))) (fun k => ?_) ?_
      · simp only [spec_From.l0]
        rw [if_pos (by omega), if_pos (by omega), if_pos (by omega), hr, w2]
      · by_cases hb : (arcW es u v).isSome = true
        · rw [List.filter_cons, if_pos hb]
          rw [hb] at hj
          refine Ev.bind hj (Ev.congr (fun k => ?_) (by have := fromS_l0 zs es u he l hl m (i + 1) (by omega) (by omega) (acc ++ [v]) (by simp; omega); rw [List.append_assoc] at this; exact this))
          rw [if_pos rfl, if_pos (by omega)]
        · have hb' : (arcW es u v).isSome = false := by simpa using hb
          rw [List.filter_cons, if_neg hb]
          rw [hb'] at hj
          exact Ev.bind hj (Ev.congr (fun k => if_neg (by simp)) (fromS_l0 zs es u he l hl m (i + 1) (by omega) (by omega) acc (by omega)))
    · refine Ev.step (fun k => ?_) (Ev.now _)
      simp only [spec_From.l0]
      rw [if_neg (by omega), List.drop_eq_nil_of_le (by omega)]
      simp
theorem fromS_ev (zs : List Int) (es : List S95) (u : Int) (hz : zs.length ≤ 100000) (he : es.length ≤ 100000) : Ev (fun k => spec_From.f k true zs es u) (outN zs es u) := by
  have h := fromS_l0 zs es u he (srt zs) (by rw [srt_length]; exact hz) (srt zs).length 0 (by omega) (Nat.zero_le _) [] (by simp)
  refine Ev.congr (fun k => ?_) h
  unfold spec_From.f
  rw [nodesS zs es hz]
  rfl

/-- reached so far: what stands ahead of place i is done -/
structure RInv (adj : Int → List Int) (zs : List Int) (u : Int) (out : List Int) (i : Nat) : Prop where
  nd : out.Nodup
  me : u ∈ out
  rch : ∀ x ∈ out, RchW adj u x
  inn : ∀ x ∈ out, x ∈ zs
  cl : ∀ j (h : j < out.length), j < i → ∀ y ∈ adj out[j], y ∈ out
  le : i ≤ out.length
def RGood (adj : Int → List Int) (u : Int) (r : List Int) : Prop := r.Pairwise (· < ·) ∧ ∀ x, x ∈ r ↔ RchW adj u x
set_option maxHeartbeats 2000000 in
theorem reachedS_l1 (zs : List Int) (es : List S95) (u : Int) (hz : zs.length ≤ 1000) (out0 : List Int) (i : Nat) (h0 : RInv (outN zs es) zs u out0 i) (hi : i < out0.length)
    (hnext : ∀ out', RInv (outN zs es) zs u out' (i + 1) → ∃ r, Ev (fun k => spec_reached.l0 k out' ((i + 1 : Nat) : Int) true zs es) r ∧ RGood (outN zs es) u r) (ws : List Int) (hws : outN zs es out0[i] = ws) :
    ∀ m j, ws.length - j ≤ m → j ≤ ws.length → ∀ ad : List Int, (out0 ++ ad).Nodup → (∀ x ∈ ad, x ∈ ws) → (∀ x ∈ ws.take j, x ∈ out0 ++ ad) →
      ∃ r, Ev (fun k => spec_reached.l1 k (out0 ++ ad) (i : Int) ws (ws.length : Int) (j : Int) true zs es) r ∧ RGood (outN zs es) u r := by
  have hwl : ws.length ≤ 1000 := by
    rw [← hws]
    exact Nat.le_trans (List.length_filter_le _ _) (by rw [srt_length]; exact hz)
  have hwz : ∀ x ∈ ws, x ∈ zs ∧ RchW (outN zs es) u x := fun x hx => by
    rw [← hws] at hx
    exact ⟨(outN_mem' hx).1, (h0.rch _ (List.getElem_mem hi)).step hx⟩
  have hol : out0.length ≤ 1000 := Nat.le_trans (nodup_len h0.nd h0.inn) hz
  have hw1 : wrap64 ((i : Int) + 1) = ((i + 1 : Nat) : Int) := by unfold wrap64; omega
  have ends : ∀ ad : List Int, (out0 ++ ad).Nodup → (∀ x ∈ ad, x ∈ ws) → (∀ x ∈ ws, x ∈ out0 ++ ad) → RInv (outN zs es) zs u (out0 ++ ad) (i + 1) := fun ad hn ha hw => by
    refine ⟨hn, List.mem_append.2 (.inl h0.me), fun x hx => ?_, fun x hx => ?_, fun j hj hji y hy => ?_, by rw [List.length_append]; omega⟩
    · rcases List.mem_append.1 hx with h | h
      · exact h0.rch x h
      · exact (hwz x (ha x h)).2
    · rcases List.mem_append.1 hx with h | h
      · exact h0.inn x h
      · exact (hwz x (ha x h)).1
    · have hj0 : j < out0.length := by omega
      rw [List.getElem_append_left hj0] at hy
      rcases Nat.lt_or_ge j i with h | h
      · exact List.mem_append.2 (.inl (h0.cl j hj0 h y hy))
      · obtain rfl : j = i := by omega
        rw [hws] at hy
        exact hw y hy
  intro m
  induction m with
  | zero =>
    intro j hm hj ad hn ha hw
    obtain ⟨r, hr, hg⟩ := hnext _ (ends ad hn ha (by rw [List.take_of_length_le (by omega)] at hw; exact hw))
    refine ⟨r, Ev.step (fun k => ?_) hr, hg⟩
    simp only [spec_reached.l1]
    rw [if_neg (by omega), hw1]
  | succ m ih =>
    intro j hm hj ad hn ha hw
    by_cases hlt : j < ws.length
    · have w2 : wrap64 ((j : Int) + 1) = ((j + 1 : Nat) : Int) := by unfold wrap64; omega
      have hr := rdE ws j hlt
      have htk : ws.take (j + 1) = ws.take j ++ [ws[j]] := List.take_succ_eq_append_getElem hlt
      have hvw : ws[j] ∈ ws := List.getElem_mem hlt
      generalize ws[j] = v at hr htk hvw
      have hal : (out0 ++ ad).length ≤ 1000 := Nat.le_trans (nodup_len hn fun x hx => by
        rcases List.mem_append.1 hx with h | h
        · exact h0.inn x h
        · exact (hwz x (ha x h)).1) hz
      have hh := hasI_ev (out0 ++ ad) v (by omega)
      by_cases hb : v ∈ out0 ++ ad
      · rw [decide_eq_true hb] at hh
        obtain ⟨r, h1, h2⟩ := ih (j + 1) (by omega) (by omega) ad hn ha (fun x hx => by
          rw [htk] at hx
          rcases List.mem_append.1 hx with h | h
          · exact hw x h
          · rw [List.mem_singleton.1 h]; exact hb)
        refine ⟨r, Ev.step (f := fun k => (spec_hasInt.f k (out0 ++ ad) v).bind fun t174 => if t174 = true then spec_reached.l1 k (out0 ++ ad) (i : Int) ws (ws.length : Int) ((j + 1 : Nat) : Int) true zs es else if (out0 ++ ad).length < 17592186044416 then spec_reached.l1 k (out0 ++ ad ++ [v]) (i : Int) ws (ws.length : Int) ((j + 1 : Nat) : Int) true zs es else none) (fun k => ?_) (Ev.bind hh (Ev.congr (fun k => if_pos rfl) h1)), h2⟩
        simp only [spec_reached.l1]
        rw [if_pos (by omega), if_pos (by omega), if_pos (by omega), hr, w2]
      · rw [decide_eq_false hb] at hh
        obtain ⟨r, h1, h2⟩ := ih (j + 1) (by omega) (by omega) (ad ++ [v]) (by
          rw [← List.append_assoc]
          refine List.nodup_append.2 ⟨hn, by simp, fun a ha b hb2 e => ?_⟩
          rw [List.mem_singleton.1 hb2] at e
          exact hb (e ▸ ha)) (fun x hx => by
          rcases List.mem_append.1 hx with h | h
          · exact ha x h
          · rw [List.mem_singleton.1 h]; exact hvw) (fun x hx => by
          rw [htk] at hx
          rw [← List.append_assoc]
          rcases List.mem_append.1 hx with h | h
          · exact List.mem_append.2 (.inl (hw x h))
          · exact List.mem_append.2 (.inr h))
        rw [← List.append_assoc] at h1
        refine ⟨r, Ev.step (f := fun k => (spec_hasInt.f k (out0 ++ ad) v).bind fun t174 => if t174 = true then spec_reached.l1 k (out0 ++ ad) (i : Int) ws (ws.length : Int) ((j + 1 : Nat) : Int) true zs es else if (out0 ++ ad).length < 17592186044416 then spec_reached.l1 k (out0 ++ ad ++ [v]) (i : Int) ws (ws.length : Int) ((j + 1 : Nat) : Int) true zs es else none) (fun k => ?_) (Ev.bind hh (Ev.congr (fun k => ?_) h1)), h2⟩
        · simp only [spec_reached.l1]
          rw [if_pos (by omega), if_pos (by omega), if_pos (by omega), hr, w2]
        · rw [if_neg (by simp), if_pos (by omega)]
    · obtain ⟨r, hr, hg⟩ := hnext _ (ends ad hn ha (by rw [List.take_of_length_le (by omega)] at hw; exact hw))
      refine ⟨r, Ev.step (fun k => ?_) hr, hg⟩
      simp only [spec_reached.l1]
      rw [if_neg (by omega), hw1]
theorem reachedS_l0 (zs : List Int) (es : List S95) (u : Int) (hz : zs.length ≤ 1000) (he : es.length ≤ 100000) : ∀ m i out, zs.length - i ≤ m → RInv (outN zs es) zs u out i →
    ∃ r, Ev (fun k => spec_reached.l0 k out (i : Int) true zs es) r ∧ RGood (outN zs es) u r := by
  intro m
  induction m with
  | zero =>
    intro i out hm h
    have hol : out.length ≤ zs.length := nodup_len h.nd h.inn
    have hi := h.le
    refine ⟨srt out, Ev.step (fun k => ?_) (Ev.now _), srt_lt h.nd, fun x => ⟨fun hx => h.rch x ((mem_srt _ _).1 hx), fun hx => (mem_srt _ _).2 (hx (fun z => z ∈ out) h.me fun z hz2 y hy => ?_)⟩⟩
    · simp only [spec_reached.l0]
      rw [if_neg (by omega)]
      unfold spec_sortInts.f
      rw [if_pos (by omega)]
      rfl
    · obtain ⟨j, hj, rfl⟩ := List.mem_iff_getElem.1 hz2
      exact h.cl j hj (by omega) y hy
  | succ m ih =>
    intro i out hm h
    have hol : out.length ≤ zs.length := nodup_len h.nd h.inn
    have hi := h.le
    by_cases hlt : i < out.length
    · have hr := rdE out i hlt
      obtain ⟨r, h1, h2⟩ := reachedS_l1 zs es u hz out i h hlt (fun out' h' => ih (i + 1) out' (by omega) h') (outN zs es out[i]) rfl (outN zs es out[i]).length 0 (by omega) (Nat.zero_le _) [] (by simpa using h.nd) (by simp) (by simp)
      rw [List.append_nil] at h1
      have hf := fromS_ev zs es out[i] (by omega) he
      refine ⟨r, Ev.step (f := fun k => (spec_From.f k true zs es out[i]).bind fun t170 => spec_reached.l1 k out (i : Int) t170 (t170.length : Int) 0 true zs es) (fun k => ?_) (Ev.bind hf h1), h2⟩
      simp only [spec_reached.l0]
      rw [if_pos (by omega), if_pos (by omega), hr]
    · refine ⟨srt out, Ev.step (fun k => ?_) (Ev.now _), srt_lt h.nd, fun x => ⟨fun hx => h.rch x ((mem_srt _ _).1 hx), fun hx => (mem_srt _ _).2 (hx (fun z => z ∈ out) h.me fun z hz2 y hy => ?_)⟩⟩
      · simp only [spec_reached.l0]
        rw [if_neg (by omega)]
        unfold spec_sortInts.f
        rw [if_pos (by omega)]
        rfl
      · obtain ⟨j, hj, rfl⟩ := List.mem_iff_getElem.1 hz2
        exact h.cl j hj (by omega) y hy
theorem reachedS_ev (zs : List Int) (es : List S95) (u : Int) (hz : zs.length ≤ 1000) (he : es.length ≤ 100000) (hu : u ∈ zs) : ∃ r, Ev (fun k => spec_reached.f k true zs es u) r ∧ RGood (outN zs es) u r :=
  reachedS_l0 zs es u hz he zs.length 0 [u] (by omega) ⟨by simp, by simp, fun x hx => by rw [List.mem_singleton.1 hx]; exact RchW.here, fun x hx => by rw [List.mem_singleton.1 hx]; exact hu, fun j _ hj => absurd hj (Nat.not_lt_zero _), Nat.zero_le _⟩
theorem RGood.len {zs : List Int} {es : List S95} {u : Int} {r : List Int} (h : RGood (outN zs es) u r) (hu : u ∈ zs) : r.length ≤ zs.length ∧ ∀ x ∈ r, x ∈ zs := by
  have hin : ∀ x ∈ r, x ∈ zs := fun x hx => (h.2 x).1 hx (fun z => z ∈ zs) hu fun z _ y hy => (outN_mem' hy).1
  exact ⟨nodup_len (h.1.imp fun hab e => by omega) hin, hin⟩
theorem reachesS_ev (zs : List Int) (es : List S95) (u v : Int) (hz : zs.length ≤ 1000) (he : es.length ≤ 100000) (hu : u ∈ zs) : ∃ b : Bool, Ev (fun k => spec_Reaches.f k true zs es u v) b ∧ (b = true ↔ RchW (outN zs es) u v) := by
  obtain ⟨r, h1, h2⟩ := reachedS_ev zs es u hz he hu
  have hl := (h2.len hu).1
  refine ⟨decide (v ∈ r), ?_, by rw [decide_eq_true_iff]; exact h2.2 v⟩
  exact Ev.bind h1 (Ev.bind (hasI_ev r v (by omega)) (Ev.now _))
theorem firstS_l0 (l c : List Int) (hl : l.length ≤ 100000) (hc : c.length ≤ 100000) : ∀ m i, l.length - i ≤ m → i ≤ l.length → Ev (fun k => spec_firstOf.l0 k c l (l.length : Int) (i : Int)) (firstL (l.drop i) c)
  | 0, i, hm, hi => by
    refine Ev.step (fun k => ?_) (Ev.now _)
    simp only [spec_firstOf.l0]
    rw [if_neg (by omega), List.drop_eq_nil_of_le (by omega)]; rfl
  | m + 1, i, hm, hi => by
    by_cases hlt : i < l.length
    · have w2 : wrap64 ((i : Int) + 1) = ((i + 1 : Nat) : Int) := by unfold wrap64; omega
      rw [List.drop_eq_getElem_cons hlt]
      have hr := rdE l i hlt
      generalize l[i] = v at hr
      have hh := hasI_ev c v hc
      refine Ev.step (f := fun k => (spec_hasInt.f k c v).bind fun t206 => if t206 = true then some v else spec_firstOf.l0 k c l (l.length : Int) ((i + 1 : Nat) : Int)) (fun k => ?_) ?_
      · simp only [spec_firstOf.l0]
        rw [if_pos (by omega), if_pos (by omega), if_pos (by omega), hr, w2]
      · by_cases hb : v ∈ c
        · rw [decide_eq_true hb] at hh
          have e : firstL (v :: l.drop (i + 1)) c = v := by unfold firstL; rw [List.find?_cons, decide_eq_true hb]; rfl
          rw [e]
          exact Ev.bind hh (Ev.congr (fun k => if_pos rfl) (Ev.now _))
        · rw [decide_eq_false hb] at hh
          have e : firstL (v :: l.drop (i + 1)) c = firstL (l.drop (i + 1)) c := by unfold firstL; rw [List.find?_cons, decide_eq_false hb]
          rw [e]
          exact Ev.bind hh (Ev.congr (fun k => if_neg (by simp)) (firstS_l0 l c hl hc m (i + 1) (by omega) (by omega)))
    · refine Ev.step (fun k => ?_) (Ev.now _)
      simp only [spec_firstOf.l0]
      rw [if_neg (by omega), List.drop_eq_nil_of_le (by omega)]; rfl
theorem firstS_ev (l c : List Int) (hl : l.length ≤ 100000) (hc : c.length ≤ 100000) : Ev (fun k => spec_firstOf.f k l c) (firstL l c) := by
  have := firstS_l0 l c hl hc l.length 0 (by omega) (Nat.zero_le _)
  rw [List.drop_zero] at this
  exact this
theorem slotSame_l0 (l : List S36) (hl : l.length ≤ 100000) : ∀ m i, l.length - i ≤ m → i ≤ l.length → Ev (fun k => impl_Slot.l0 k l l (l.length : Int) (i : Int)) true
  | 0, i, hm, hi => by
    refine Ev.step (fun k => ?_) (Ev.now _)
    simp only [impl_Slot.l0]
    rw [if_neg (by omega)]
  | m + 1, i, hm, hi => by
    by_cases hlt : i < l.length
    · have w2 : wrap64 ((i : Int) + 1) = ((i + 1 : Nat) : Int) := by unfold wrap64; omega
      refine Ev.step (fun k => ?_) (slotSame_l0 l hl m (i + 1) (by omega) (by omega))
      simp only [impl_Slot.l0]
      rw [if_pos (by omega), if_pos (by omega), if_pos (by omega), if_pos (by omega), if_neg (by simp), w2]
    · refine Ev.step (fun k => ?_) (Ev.now _)
      simp only [impl_Slot.l0]
      rw [if_neg (by omega)]
theorem slotSame_ev (l : List S36) (hl : l.length ≤ 100000) : Ev (fun k => impl_Slot.f k l l) true := by
  refine Ev.congr (fun k => ?_) (slotSame_l0 l hl l.length 0 (by omega) (Nat.zero_le _))
  unfold impl_Slot.f
  rw [if_pos rfl]
  rfl
end Go.Proofs.YtddklkgcodjijaaGreat.R

/- The reference's walk: visit. -/
namespace Go.Proofs.YtddklkgcodjijaaGreat.R
open Go.RowKit Go.Lab Go.Maps Go.Proofs.YtddklkgcodjijaaGreatW.PrintWords Go.Proofs.YtddklkgcodjijaaGreatW.PrintLast Go.Proofs.YtddklkgcodjijaaGreatW.PrintMore PL Q

theorem srt_id {l : List Int} (h : l.Pairwise (· ≤ ·)) : srt l = l :=
  (srt_perm l).eq_of_pairwise (le := (· ≤ ·)) (fun a b _ _ h1 h2 => Int.le_antisymm h1 h2) (srt_le l) h
theorem adjR_rev (zs : List Int) (es : List S95) (u : Int) : adjR zs es u = (outN zs es u).reverse := by
  unfold adjR
  rw [show srt (outN zs es u) = outN zs es u from srt_id (by unfold outN; exact (srt_le zs).filter _)]

/-- the contract of visit, to a depth -/
def VisitAt (c : WE) (k : Nat) : Prop := ∀ (u : Int) (m m' : MS) (n : Nat) (w : World) (mv lv : Value), u ∈ c.zs → u ∉ m.met → MB c.zs n m → visitM (adjR c.zs c.es) k u m = some m' → VQ c w mv lv m.met m.left →
  Calls Tryz.prog 34 #[.pointer (some ⟨c.gp, 0, none⟩), .int .i64 u] w fun e w' => e = .returned (.tuple #[]) ∧ ∃ mv' lv', VQ c w' mv' lv' m'.met m'.left ∧ VK c w w' mv lv mv' lv'

/-- the state of visit's loop, j nodes ahead -/
structure VL (c : WE) (k n : Nat) (m2 : MS) (nx : List Int) (wa : World) (mva lva : Value) (wr : World) (j : Nat) : Prop where
  ex : ∃ m1 mv1 lv1, succsM (visitM (adjR c.zs c.es) k) (nx.take j).reverse m1 = some m2 ∧ MB c.zs (n + 1) m1 ∧ VQ c wr mv1 lv1 m1.met m1.left ∧ VK c wa wr mva lva mv1 lv1

theorem take_rev {nx : List Int} {j : Nat} (h : j < nx.length) : (nx.take (j + 1)).reverse = nx[j] :: (nx.take j).reverse := by
  rw [List.take_add_one, List.getElem?_eq_getElem h]
  simp

set_option maxHeartbeats 16000000 in
set_option maxRecDepth 100000 in
theorem visit_step (c : WE) (hc : WEok c) (k : Nat) (ih : VisitAt c k) : VisitAt c (k + 1) := by
  intro u m m' n w mv lv hu hum hmb hv hq
  obtain ⟨m2, hm2, rfl⟩ : ∃ m2, succsM (visitM (adjR c.zs c.es) k) (adjR c.zs c.es u) ⟨m.met ++ [u], m.left⟩ = some m2 ∧ (⟨m2.met, m2.left ++ [u]⟩ : MS) = m' := by
    unfold visitM at hv
    exact Option.map_eq_some_iff.1 hv
  rw [adjR_rev] at hm2
  have hmb1 := hmb.enter hu hum
  have hml := hmb.len.1
  have hhz := hc.hz
  have hoz : (outN c.zs c.es u).length ≤ c.zs.length := Nat.le_trans (List.length_filter_le _ _) (by rw [srt_length]; exact Nat.le_refl _)
  have hin : ∀ x ∈ outN c.zs c.es u, x ∈ c.zs := fun x hx => (outN_mem' hx).1
  have hmb2 : MB c.zs (n + 1) m2 := succsM_mb (visitM (adjR c.zs c.es) k) (visitM_mb (fun a x hx => (outN_mem' (adjR_mem.1 hx)).1) k) _ (n + 1) _ m2 (fun x hx => hin x (List.mem_reverse.1 hx)) hmb1 hm2
  have hm2l := hmb2.len.2
  obtain ⟨kf, hfr⟩ := (fromS_ev c.zs c.es u (by omega) hc.he).rounds
  obtain ⟨nx, hnx⟩ : ∃ nx, outN c.zs c.es u = nx := ⟨_, rfl⟩
  rw [hnx] at hm2 hoz hin hfr
  have hnx3 : nx.length ≤ 300 := by omega
  have HF := Aside0.mk hfr
  obtain ⟨Am, cm, rfl⟩ := own_slice hq.om
  obtain ⟨d0, d1, d2, d3, d4⟩ := hq.cells
  have hgl := blk_lt hq.blk
  have hf3 := blk_frozen hq.blk 3
  obtain ⟨i0, hi, hz0, hz1, hz2⟩ := info_parts Tryz.info3
  have HI := Aside0.mk (And.intro hi (And.intro hz0 (And.intro hz1 hz2)))
  have HC := Aside0.mk hc
  have HQ := Aside0.mk hq
  have HM := Aside0.mk (And.intro hm2 (And.intro hmb1 (And.intro hmb2 (And.intro hm2l hin))))
  have HIH := Aside0.mk ih
  have HU := Aside0.mk (And.intro hu hml)
  have HNX := Aside0.mk hnx
  have hlo : ∀ q, (Value.slice Am m.met.length cm).ownBlock = some q → c.gp < q := fun q h => (hq.mLt h).1
  clear hc hq hm2 hmb1 hmb2 hm2l hin ih hfr hi hz0 hz1 hz2 hmb hv hum hu hnx d0 d1 d2 d4
  go_enter Tryz.func34, Tryz.ntmps34
  go_wp2_with (at_builtin; refine wpList_append_own_at _ rfl _ _ 22 rfl (c.gp + 1) 3 i0 (.int .i64 0) 1 8 Tryz.underlying22 HI.out.1 HI.out.2.1 HI.out.2.2.1 HI.out.2.2.2 rfl (by decide) _ m.met.length (nums .i64 m.met) rfl (World.ownsRow.alloc HQ.out.om _) ⟨w.heap.size, 0, none⟩ 1 1 [.int .i64 u] rfl rfl (cell_one_new _ _ _) ?q2 ?q3 ?q4 ?q5 ?_)
  case q2 => intro u hu; simp at hu; subst hu; rfl
  case q3 => unfold maxLen; omega
  case q4 => omega
  case q5 => simp; omega
  intro v' w1 hown hgr _ hat
  obtain ⟨A', c', rfl⟩ := own_slice hown
  have hg0 := (World.grownBy_alloc w (.cells #[.int .i64 u] 3) (Value.slice Am m.met.length cm).ownBlock).trans hgr
  have hblk := (hg0.block c.gp hgl (fun e => by have := hlo _ e.symm; omega)).trans HQ.out.blk
  have hc3 : w1.cell? ⟨c.gp, 3, none⟩ = some (.slice Am m.met.length cm) := (blk_cell hblk 3).trans rfl
  have hfz := blk_frozen hblk 3
  have HV := Aside0.mk (HQ.out.setM HC.out.lo hg0 (mv1 := .slice A' (m.met.length + 1) c') (met' := m.met ++ [u]) (by rw [List.length_append]; have := hown; simpa [nums] using this) (hat.imp id (fun h q hq => by rw [h] at hq; have := Option.some.inj hq; omega)))
  obtain ⟨e0, e1, e2, e3, e4⟩ := HV.out.1.cells
  clear hown hgr hg0 hat hblk
  go_wp2_with (go_at_call 71; refine (spec_From.calls kf true _ _ c.zs _ _ c.es u nx _ (Kd.C_below HC.out.n1 HV.out.1.old) HC.out.l1 (Kd.C_below HC.out.n2 HV.out.1.old) HC.out.l2 HF.out).mono ?_; rintro e wa ⟨v0, rfl, hr0, hb⟩; have ho := ints_of_R hr0; obtain ⟨AN, cN, rfl⟩ := own_slice ho; have HA := Aside0.mk (And.intro (HV.out.1.below HC.out.lo hb) ho); clear hb ho hr0)
  have HW := Aside0.mk (HV.out.2.trans HA.out.1.2)
  have HSEP := Aside0.mk (show ∀ q, (Value.slice AN nx.length cN).ownBlock = some q → q < wa.heap.size ∧ q ≠ c.gp ∧ (Value.slice A' (m.met.length + 1) c').ownBlock ≠ some q ∧ lv.ownBlock ≠ some q from fun q hq => by
    have h1 := own_base HA.out.2 q hq
    obtain ⟨cc, hcc⟩ := own_block HA.out.2 hq
    have h2 := blk_lt hcc
    have h3 := HV.out.1.old.size
    refine ⟨h2, fun e => ?_, fun e => ?_, fun e => ?_⟩
    · have := blk_lt HV.out.1.blk; omega
    · have := (HV.out.1.mLt e).2; omega
    · have := (HV.out.1.lLt e).2; omega)
  have HL0 := Aside0.mk (show VL c k n m2 nx wa (Value.slice A' (m.met.length + 1) c') lv wa nx.length from ⟨⟨_, _, _, by rw [List.take_length]; exact HM.out.1, HM.out.2.1, HA.out.1.1, VK.refl _ _ _ _⟩⟩)
  clear e0 e1 e2 e3 e4 hc3 hfz
  go_wp2_with fail
  go_loopw [5] (fun v5 wr => ∃ j : Nat, j ≤ nx.length ∧ v5 = .int .i64 ((j : Int) - 1) ∧ Aside0 (VL c k n m2 nx wa (Value.slice A' (m.met.length + 1) c') lv wr j)) (fun v5 _ => (intOf v5 + 1).toNat)
  case atStart => exact ⟨nx.length, Nat.le_refl _, by go_num, HL0⟩
  case round =>
    obtain ⟨j, hj, rfl, hrel⟩ := hrel
    obtain ⟨m1, mv1, lv1, hsu, hmb, hvq, hvk⟩ := hrel.out.ex
    obtain ⟨A1, c1, rfl⟩ := own_slice hvq.om
    have hml1 := hmb.len
    have hm1l : m1.met.length ≤ 300 := by omega
    obtain ⟨e0, e1, e2, e3, e4⟩ := hvq.cells
    have hown1 := own_of_heap HA.out.2 fun q hq => hvk.blk q (HSEP.out q hq).1 (HSEP.out q hq).2.1 (HSEP.out q hq).2.2.1 (HSEP.out q hq).2.2.2
    have HT := Aside0.mk (And.intro hsu (And.intro hmb (And.intro hvq (And.intro hvk hown1))))
    cases j with
    | succ j =>
      have hjj : ((j + 1 : Nat) : Int) - 1 = (j : Int) := by omega
      rw [hjj]
      have hlt : j < nx.length := by omega
      obtain ⟨gN, cc, hvv, hc', hcell, ⟨cur, hcur⟩⟩ := own_cells hown1 (by omega)
      simp only [Value.slice.injEq] at hvv
      obtain ⟨rfl, -, rfl⟩ := hvv
      obtain ⟨x, hx⟩ : ∃ x, nx[j] = x := ⟨_, rfl⟩
      have hcx : wr.cell? ⟨gN, j, none⟩ = some (.int .i64 x) := hcell j _ (by simp [nums, hlt, hx])
      obtain ⟨kk, hev⟩ := (hasI_ev m1.met x (by omega)).rounds
      have HEV := Aside0.mk hev
      have hxin : x ∈ nx := by rw [← hx]; exact List.getElem_mem hlt
      have HX := Aside0.mk (HM.out.2.2.2.2 x hxin)
      have hsu2 : succsM (visitM (adjR c.zs c.es) k) (x :: (nx.take j).reverse) m1 = some m2 := by rw [← hx, ← take_rev hlt]; exact hsu
      unfold succsM at hsu2
      have hj0 : (0 : Int) ≤ (j : Int) := by omega
      have hj1 : (j : Int) < (nx.length : Int) := by omega
      have HCC := Aside0.mk (C_of_own hvq.om)
      clear hrel hsu hmb hvq hvk hown1 hcell hcur hxin hx hev hjj e0 e1 e2 e4
      by_cases hb : x ∈ m1.met
      · have hd : decide (x ∈ m1.met) = true := decide_eq_true hb
        rw [if_pos hb] at hsu2
        have HS2 := Aside0.mk hsu2
        clear hb hsu2
        go_wp2_with fail
        go_region_held3 (fun w' => w'.cell? ⟨c.gp, 3, none⟩ = some (.slice A1 m1.met.length c1) ∧ w'.cell? ⟨gN, j, none⟩ = some (.int .i64 x))
          (first | exact ⟨below_cellOf hbel (by simpa using e3), below_cellOf hbel (by simpa using hcx)⟩ | go_keep)
          (first
            | (go_at_call 33; refine (spec_hasInt.calls kk _ _ m1.met x _ _ (Kd.C_drew HCC.out.2) HCC.out.1 HEV.out).mono ?_; rintro e w3 ⟨rfl, hdw⟩; rw [hd]; have hbel := hdw.below; clear hdw))
        have h3 := Aside0.mk (HT.out.2.2.1.below HC.out.lo ((Below.refl _ _).drew.trans (hbel.mono (by simp))))
        go_wp2
        go_roundw
        case rel =>
          exact ⟨j, by omega, by go_num, ⟨⟨m1, _, _, HS2.out, HT.out.2.1, h3.out.1, HT.out.2.2.2.1.trans h3.out.2⟩⟩⟩
        case measure => first | (simp [intOf]; done) | (simp [intOf]; omega)
      · have hd : decide (x ∈ m1.met) = false := decide_eq_false hb
        rw [if_neg hb] at hsu2
        obtain ⟨m3, hv3, hs3⟩ := Option.bind_eq_some_iff.1 hsu2
        have HS2 := Aside0.mk (And.intro hv3 (And.intro hs3 hb))
        clear hb hsu2 hv3 hs3
        go_wp2_with fail
        go_region_held3 (fun w' => w'.cell? ⟨c.gp, 3, none⟩ = some (.slice A1 m1.met.length c1) ∧ w'.cell? ⟨gN, j, none⟩ = some (.int .i64 x))
          (first | exact ⟨below_cellOf hbel (by simpa using e3), below_cellOf hbel (by simpa using hcx)⟩ | go_keep)
          (first
            | (go_at_call 33; refine (spec_hasInt.calls kk _ _ m1.met x _ _ (Kd.C_drew HCC.out.2) HCC.out.1 HEV.out).mono ?_; rintro e w3 ⟨rfl, hdw⟩; rw [hd]; have hbel := hdw.below; clear hdw))
        have h3 := Aside0.mk (HT.out.2.2.1.below HC.out.lo ((Below.refl _ _).drew.trans (hbel.mono (by simp))))
        have hcx3 : w3.cell? ⟨gN, j, none⟩ = some (.int .i64 x) := below_cellOf hbel (by simpa using hcx)
        clear hbel
        go_wp2_with (go_at_call 34; refine (HIH.out x m1 m3 (n + 1) _ _ _ HX.out HS2.out.2.2 HT.out.2.1 HS2.out.1 h3.out.1).mono ?_; rintro e w4 ⟨rfl, mv4, lv4, hq4, hk4⟩; have H4 := Aside0.mk (And.intro hq4 hk4); clear hq4 hk4)
        go_roundw
        case rel =>
          exact ⟨j, by omega, by go_num, ⟨⟨m3, _, _, HS2.out.2.1, visitM_mb (fun a x hx => (outN_mem' (adjR_mem.1 hx)).1) k (n + 1) x m1 m3 HX.out HS2.out.2.2 HT.out.2.1 HS2.out.1, H4.out.1, (HT.out.2.2.2.1.trans h3.out.2).trans H4.out.2⟩⟩⟩
        case measure => first | (simp [intOf]; done) | (simp [intOf]; omega)
    | zero =>
      have hjj : ((0 : Nat) : Int) - 1 = -1 := rfl
      rw [hjj]
      have hm12 : m1 = m2 := by
        have := hsu
        simp only [List.take_zero, List.reverse_nil, succsM, Option.some.injEq] at this
        exact this
      subst hm12
      obtain ⟨A2, c2, rfl⟩ := own_slice hvq.ol
      have hgl1 := blk_lt hvq.blk
      have hlo1 : ∀ q, (Value.slice A2 m1.left.length c2).ownBlock = some q → c.gp < q := fun q h => (hvq.lLt h).1
      have hf4 := blk_frozen hvq.blk 4
      have hl1l : m1.left.length ≤ 300 := by omega
      clear hrel hsu hmb hvq hvk hown1 hjj e0 e1 e2 e3
      go_wp2_with (at_builtin; refine wpList_append_own_at _ rfl _ _ 22 rfl (c.gp + 1) 3 i0 (.int .i64 0) 1 8 Tryz.underlying22 HI.out.1 HI.out.2.1 HI.out.2.2.1 HI.out.2.2.2 rfl (by decide) _ m1.left.length (nums .i64 m1.left) rfl (World.ownsRow.alloc HT.out.2.2.1.ol _) ⟨wr.heap.size, 0, none⟩ 1 1 [.int .i64 u] rfl rfl (cell_one_new _ _ _) ?q2 ?q3 ?q4 ?q5 ?_)
      case q2 => intro u hu; simp at hu; subst hu; rfl
      case q3 => unfold maxLen; omega
      case q4 => omega
      case q5 => simp; omega
      intro v' w5 hown hgr _ hat
      obtain ⟨A5, c5, rfl⟩ := own_slice hown
      have hg0 := (World.grownBy_alloc wr (.cells #[.int .i64 u] 3) (Value.slice A2 m1.left.length c2).ownBlock).trans hgr
      have hblk := (hg0.block c.gp hgl1 (fun e => by have := hlo1 _ e.symm; omega)).trans HT.out.2.2.1.blk
      have hc5 : w5.cell? ⟨c.gp, 4, none⟩ = some (.slice A2 m1.left.length c2) := (blk_cell hblk 4).trans rfl
      have hf5 := blk_frozen hblk 4
      have H5 := Aside0.mk (HT.out.2.2.1.setL HC.out.lo hg0 (lv1 := .slice A5 (m1.left.length + 1) c5) (left' := m1.left ++ [u]) (by rw [List.length_append]; have := hown; simpa [nums] using this) (hat.imp id (fun h q hq => by rw [h] at hq; have := Option.some.inj hq; omega)))
      clear hown hgr hg0 hat hblk
      go_wp2
      go_end0
      exact ⟨rfl, _, _, H5.out.1, (HW.out.trans HT.out.2.2.2.1).trans H5.out.2⟩
theorem visit_any (c : WE) (hc : WEok c) : ∀ k, VisitAt c k
  | 0 => fun u m m' n w mv lv _ _ _ hv _ => by simp [visitM] at hv
  | k + 1 => visit_step c hc k (visit_any c hc k)
end Go.Proofs.YtddklkgcodjijaaGreat.R
