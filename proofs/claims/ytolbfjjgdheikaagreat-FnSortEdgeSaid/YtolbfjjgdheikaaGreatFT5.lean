import Derived.Test.YtolbfjjgdheikaaGreatFT4
import Derived.Test.YtolbfjjgdheikaaGreatFP1
import Derived.Test.YtolbfjjgdheikaaGreatFKA
import Derived.Test.YtolbfjjgdheikaaGreatFT3
set_option linter.unusedVariables false
set_option linter.unusedSimpArgs false
/- topo.TarjanSCC: its object is made, and all nodes are walked from. -/
namespace Go.Proofs.YtolbfjjgdheikaaGreat.R
open Go.RowKit Go.Lab Go.Maps Go.Proofs.YtolbfjjgdheikaaGreatW.PrintWords Go.Proofs.YtolbfjjgdheikaaGreatW.PrintLast Go.Proofs.YtolbfjjgdheikaaGreatW.PrintMore PL

theorem strong_all (adj : Int → List Int) (adj_len : ∀ u, (adj u).length ≤ 100000000) (ns : List Int) (lo gt gi gl gs gb : Nat) (Env : World → Prop) (hns : ns.length ≤ 1000) (hwf : ∀ x ∈ ns, (Lit.int .i64 x).wf = true) (hin : ∀ u, ∀ x ∈ adj u, x ∈ ns) (hS : SuccOk adj ns gb Env) (hE : EnvOk lo gt gi gl gs Env) :
    ∀ k, StrongAt adj ns lo gt gi gl gs gb Env k
  | 0 => by
    intro g v s r w st ov rows _ _ _ _ _ h _ _
    simp [strongT] at h
  | k + 1 => strong_step adj adj_len ns lo gt gi gl gs gb Env hns hwf hin hS hE k (strong_all adj adj_len ns lo gt gi gl gs gb Env hns hwf hin hS hE k)

theorem run_map150 (n : Nat) (w : World) : (Instr.makeMap 150 (some (.int .i64 (n : Int)))).run Tryz.prog w = .ok (.map (some w.heap.size)) (w.alloc (.map #[] 0)) := by
  simp [Instr.makeMap, run_underlying Tryz.underlying150, asInt, asIntOf]
theorem objZero (w : World) : (zeroValue 152).run Tryz.prog w = .ok (.agg #[.nilFunc, .int .i64 0, .map none, .map none, .map none, .slice none 0 0, .slice none 0 0]) w := by kernel_rfl
theorem eq_nilFunc (w : World) : (binOp .eql 125 .nilFunc .nilFunc).run Tryz.prog w = .ok (.bool true) w := by kernel_rfl
theorem run_store_f80 (gb : Nat) (a : Addr) (m : Mode) (w : World) : (store a (.func (.func 80) #[] #[.pointer (some ⟨gb, 0, none⟩)]) m).run Tryz.prog w = stored Tryz.prog w a (.func (.func 80) #[] #[.pointer (some ⟨gb, 0, none⟩)]) m := run_store Tryz.prog w a _ m rfl

/-- Tarjan's object and its maps, made -/
structure ObjNew (w0 w : World) (gt gi gl gs gb : Nat) : Prop where
  t0 : w0.heap.size ≤ gt
  i0 : w0.heap.size ≤ gi
  l0 : w0.heap.size ≤ gl
  s0 : w0.heap.size ≤ gs
  il : gi ≠ gl
  is : gi ≠ gs
  ls : gl ≠ gs
  old : Below w0.heap.size w0 w
  blk : w.heap[gt]? = some (.cells #[fvT gb, .int .i64 0, .map (some gi), .map (some gl), .map (some gs), .slice none 0 0, .slice none 0 0] 152 (0, 0))
  mi : w.heap[gi]? = some (.map #[] 0)
  ml : w.heap[gl]? = some (.map #[] 0)
  ms : w.heap[gs]? = some (.map #[] 0)
theorem four_new (w : World) (o1 o2 o3 o4 : Obj) : ((((w.alloc o1).alloc o2).alloc o3).alloc o4).drew.heap[w.heap.size]? = some o1 ∧ ((((w.alloc o1).alloc o2).alloc o3).alloc o4).drew.heap[w.heap.size + 1]? = some o2 ∧ ((((w.alloc o1).alloc o2).alloc o3).alloc o4).drew.heap[w.heap.size + 1 + 1]? = some o3 ∧ ((((w.alloc o1).alloc o2).alloc o3).alloc o4).drew.heap[w.heap.size + 1 + 1 + 1]? = some o4 ∧
    Below w.heap.size w ((((w.alloc o1).alloc o2).alloc o3).alloc o4).drew := by
  refine ⟨?_, ?_, ?_, ?_, ((((Below.refl _ _).alloc (Nat.le_refl _) _).alloc (by simp) _).alloc (by simp; omega) _).alloc (by simp; omega) _ |>.drew⟩
  · exact (Below.heap_alloc _ _ _ (by simp; omega)).trans ((Below.heap_alloc _ _ _ (by simp; omega)).trans ((Below.heap_alloc _ _ _ (by simp)).trans (heap_alloc_new _ _)))
  · exact (Below.heap_alloc _ _ _ (by simp)).trans ((Below.heap_alloc _ _ _ (by simp)).trans (by have := heap_alloc_new (w.alloc o1) o2; simpa using this))
  · exact (Below.heap_alloc _ _ _ (by simp)).trans (by have := heap_alloc_new ((w.alloc o1).alloc o2) o3; simpa using this)
  · show ((((w.alloc o1).alloc o2).alloc o3).alloc o4).heap[w.heap.size + 1 + 1 + 1]? = some o4
    have := heap_alloc_new (((w.alloc o1).alloc o2).alloc o3) o4
    simpa using this
theorem NumOk.fresh {w : World} {gi : Nat} (h : w.heap[gi]? = some (.map #[] 0)) : NumOk w gi (fun _ => 0) 0 := by
  obtain ⟨D, ⟨es, clock, hb, hr⟩, h2, h3⟩ := (NumOk.made w).ex
  rw [heap_alloc_new] at hb
  simp only [Option.some.injEq, Obj.map.injEq] at hb
  obtain ⟨rfl, rfl⟩ := hb
  exact ⟨D, ⟨_, _, h, hr⟩, h2, h3⟩
theorem SetOk.fresh {w : World} {gs : Nat} (h : w.heap[gs]? = some (.map #[] 0)) : SetOk w gs [] := by
  obtain ⟨n, D, ⟨es, clock, hb, hr⟩, h2, h3⟩ := (SetOk.made w).ex
  rw [heap_alloc_new] at hb
  simp only [Option.some.injEq, Obj.map.injEq] at hb
  obtain ⟨rfl, rfl⟩ := hb
  exact ⟨n, D, ⟨_, _, h, hr⟩, h2, h3⟩
theorem ObjNew.to {w0 w : World} {gt gi gl gs gb : Nat} (h : ObjNew w0 w gt gi gl gs gb) : TO ⟨gt, gi, gl, gs, w.heap.size, fvT gb, w, .slice none 0 0, .slice none 0 0⟩ w TS.none (.slice none 0 0) (.slice none 0 0) [] :=
  ⟨h.blk, NumOk.fresh h.mi, NumOk.fresh h.ml, SetOk.fresh h.ms, World.ownsRow_nil _ _ _ _, ⟨World.ownsRow_nil _ _ _ _, rfl, fun i hi => absurd hi (Nat.not_lt_zero _)⟩, fun v hv => (by cases hv), h.il, h.is, h.ls,
    ⟨blk_lt h.blk, (NumOk.fresh h.mi).lt, (NumOk.fresh h.ml).lt, (SetOk.fresh h.ms).lt⟩, Nat.le_refl _, KeepF.refl _ _, .inl rfl, .inl rfl, List.Pairwise.nil⟩
theorem GEnv.ok {wE : World} {gb base bp lo gt gi gl gs : Nat} {zs : List Int} {es : List S34} {p : Pl} (h0 : wE.heap.size ≤ gb) (hl : gb < lo) (ht : gb < gt) (hi : gb < gi) (hll : gb < gl) (hs : gb < gs) : EnvOk lo gt gi gl gs (GEnv wE gb base bp zs es p) :=
  fun w w' h hk => ⟨h.gr, fun k hk2 => (hk k (by omega) (by omega) (by omega) (by omega) (by omega)).trans (h.old k hk2), (hk gb hl (by omega) (by omega) (by omega) (by omega)).trans h.box⟩
/-- all nodes, at the i-th one -/
def ALp (adj : Int → List Int) (ns : List Int) (c : TA) (k : Nat) (r : TS) (vs : List Int) (wr : World) (i : Nat) : Prop :=
  ∃ s done ws st ov rows, vs = done ++ ws ∧ done.length = i ∧ TInv adj [] s ∧ TB ns s ∧ allT adj k ws s = some r ∧ TO c wr s st ov rows

attribute [local go_sem] run_store_f80
set_option maxHeartbeats 16000000 in
set_option maxRecDepth 100000 in
theorem tarjan_any (base bp : Nat) (zs : List Int) (es : List S34) (p : Pl) (w : World) (h : GrOk w base bp zs es p) (wf : ∀ x ∈ zs, (Lit.int .i64 x).wf = true) (k : Nat) (r : TS) (hr : allT (outN zs es) k (srt zs) TS.none = some r) :
    Calls Tryz.prog 57 #[.iface 64 (.agg #[.pointer (some ⟨bp, 0, none⟩)]), .nilFunc] w fun e w' => ∃ lv rows, e = .returned lv ∧ RwsV kpN w.heap.size w' lv rows r.out ∧ (rows.Pairwise fun u v => ∀ k, u.ownBlock = some k → v.ownBlock ≠ some k) ∧ Below w.heap.size w w' := by
  have hn := h.hn
  have hb1 : Below w.heap.size w ((w.alloc (.cells #[.iface 64 (.agg #[.pointer (some ⟨bp, 0, none⟩)])] 108)).alloc (.cells #[.nilFunc] 125)) := ((Below.refl _ _).alloc (Nat.le_refl _) _).alloc (by simp) _
  have hk0 : ((w.alloc (.cells #[.iface 64 (.agg #[.pointer (some ⟨bp, 0, none⟩)])] 108)).alloc (.cells #[.nilFunc] 125)).heap[w.heap.size]? = some (.cells #[.iface 64 (.agg #[.pointer (some ⟨bp, 0, none⟩)])] 108 (0, 0)) := (Below.heap_alloc _ _ _ (by simp)).trans (heap_alloc_new _ _)
  have hk1 : ((w.alloc (.cells #[.iface 64 (.agg #[.pointer (some ⟨bp, 0, none⟩)])] 108)).alloc (.cells #[.nilFunc] 125)).heap[w.heap.size + 1]? = some (.cells #[.nilFunc] 125 (0, 0)) := by
    have := heap_alloc_new (w.alloc (.cells #[.iface 64 (.agg #[.pointer (some ⟨bp, 0, none⟩)])] 108)) (.cells #[.nilFunc] 125)
    simpa using this
  have hsz : ((w.alloc (.cells #[.iface 64 (.agg #[.pointer (some ⟨bp, 0, none⟩)])] 108)).alloc (.cells #[.nilFunc] 125)).heap.size = w.heap.size + 2 := by simp
  have hids : p.ids = srt zs := h.adj.ids
  have HG := Aside0.mk (h.below hb1)
  have HX := Aside0.mk (And.intro hb1 (And.intro hk0 (And.intro hk1 (And.intro hsz wf))))
  have HR := Aside0.mk (And.intro hr (And.intro h hids))
  have m1 := meth_DNodes ⟨bp, 0, none⟩
  have hpl : p.ids.length ≤ 1000 := by rw [hids, srt_length]; exact hn
  have mq := eq_nilFunc
  have rm1 := run_map150 p.ids.length
  have rm2 := run_map78
  have hz := objZero
  clear h wf hr hb1 hk0 hk1 hsz hids
  go_enter Tryz.func57, Tryz.ntmps57
  go_wp2_with (first
    | (go_at_call 201; refine (nodes_any base bp p _ HG.out.ok hpl).mono ?_; rintro e w1 ⟨b, rfl, hit, hbel⟩; have H1 := Aside0.mk (And.intro hit hbel); clear hit hbel)
    | (go_at_call 79; refine (nodesOf_any _ _ b p.ids _ H1.out.1 (by omega)).mono ?_; rintro e w2 ⟨vv, rfl, h1, h2, h3⟩; obtain ⟨AV, cV, rfl⟩ := own_slice h1; have hcc : w2.cell? ⟨w.heap.size + 1, 0, none⟩ = some .nilFunc := (blk_cell (((H1.out.2.trans (h3.below (by have := H1.out.2.size; omega))).block _ (by have := HX.out.2.2.2.1; omega)).trans HX.out.2.2.1) 0).trans rfl; have H2 := Aside0.mk (And.intro h1 (And.intro h2 h3)); clear h1 h2 h3))
  refine Code.wp_mono (Q := fun e a W => e = .normal ∧ ∃ gt gi gl gs, ObjNew w2 W gt gi gl gs w.heap.size ∧ a = ⟨#[.iface 64 (.agg #[.pointer (some ⟨bp, 0, none⟩)]), .nilFunc, .pointer (some ⟨w.heap.size, 0, none⟩), .pointer (some ⟨w.heap.size + 1, 0, none⟩), .slice none 0 0, .slice AV p.ids.length cV, fvT w.heap.size, .pointer (some ⟨gt, 0, none⟩), undef, undef,
    .iface 64 (.agg #[.pointer (some ⟨bp, 0, none⟩)]), .iface 255 (.pointer (some ⟨b, 0, none⟩)), .slice AV p.ids.length cV, .nilFunc, .bool true, fvT w.heap.size, undef, undef, undef, undef, undef, undef, fvT w.heap.size, .slice AV p.ids.length cV, .int .i64 p.ids.length, .map (some gi), .slice AV p.ids.length cV, .int .i64 p.ids.length, .map (some gl), .map (some gs),
    .agg #[fvT w.heap.size, .int .i64 0, .map (some gi), .map (some gl), .map (some gs), .slice none 0 0, .slice none 0 0], undef, undef, undef, undef, undef, undef, undef, undef, undef, undef, undef, undef, undef, undef, undef, undef, undef], []⟩) ?next ?made
  case made =>
    clear m1 mq hcc
    go_region_held3 (fun _ => True) (trivial) (fail)
    all_goals
      refine ⟨rfl, _, _, _, _, ?_, rfl⟩
      refine ⟨by omega, by omega, by omega, by omega, by omega, by omega, by omega, (four_new w2 _ _ _ _).2.2.2.2, ?_, ?_, ?_, ?_⟩
      all_goals first | exact (four_new w2 _ _ _ _).1 | exact (four_new w2 _ _ _ _).2.1 | exact (four_new w2 _ _ _ _).2.2.1 | exact (four_new w2 _ _ _ _).2.2.2.1
  case next =>
    clear mq rm1 rm2 hz hcc m1
    rintro _ _ W ⟨rfl, gt, gi, gl, gs, hO, rfl⟩
    have hw2 : w.heap.size + 2 ≤ w2.heap.size := by
      have h1 := HX.out.2.2.2.1
      have h2 := H1.out.2.size
      have h3 := H2.out.2.2.size
      omega
    have hbW : Below w.heap.size w W := (HX.out.1.trans ((H1.out.2.trans (H2.out.2.2.below H1.out.2.size)).mono (by have := HX.out.2.2.2.1; omega))).trans (hO.old.mono (by omega))
    have hbox : W.heap[w.heap.size]? = some (.cells #[.iface 64 (.agg #[.pointer (some ⟨bp, 0, none⟩)])] 108 (0, 0)) :=
      (hO.old.block _ (by omega)).trans (((H1.out.2.trans (H2.out.2.2.below H1.out.2.size)).block _ (by have := HX.out.2.2.2.1; omega)).trans HX.out.2.1)
    have HENV := Aside0.mk (show GEnv w w.heap.size base bp zs es p W from ⟨HR.out.2.1, fun q hq => hbW.block q hq, hbox⟩)
    have HWL := hO.old.size
    have h1t := hO.t0
    have h1i := hO.i0
    have h1l := hO.l0
    have h1s := hO.s0
    have HEO := Aside0.mk (show EnvOk W.heap.size gt gi gl gs (GEnv w w.heap.size base bp zs es p) from GEnv.ok (Nat.le_refl _) (by omega) (by omega) (by omega) (by omega) (by omega))
    have HIN := Aside0.mk (show ∀ u, ∀ x ∈ outN zs es u, x ∈ srt zs from fun u x hx => (mem_srt _ _).2 (outN_mem' hx).1)
    have HSC := Aside0.mk (strong_all (outN zs es) (fun u => by have := outN_len zs es u; omega) (srt zs) W.heap.size gt gi gl gs w.heap.size (GEnv w w.heap.size base bp zs es p) (by rw [srt_length]; exact hn) (fun x hx => HX.out.2.2.2.2 x ((mem_srt _ _).1 hx)) HIN.out (fun w' v hE hv => succ80_any w w.heap.size base bp zs es p w' v hE ((mem_srt _ _).1 hv)) HEO.out k)
    have HT := Aside0.mk hO.to
    have HO := Aside0.mk hO
    have HB := Aside0.mk hbW
    have HI := Aside0.mk (show ALp (outN zs es) (srt zs) ⟨gt, gi, gl, gs, W.heap.size, fvT w.heap.size, W, .slice none 0 0, .slice none 0 0⟩ k r p.ids W 0 from ⟨TS.none, [], p.ids, _, _, _, rfl, rfl, TInv.none _, TB.none _, by rw [HR.out.2.2]; exact HR.out.1, hO.to⟩)
    clear hO hbW hbox
    go_wp2_with fail
    go_loopw [33] (fun v33 wr => ∃ i : Nat, v33 = .int .i64 i ∧ i ≤ p.ids.length ∧ Aside0 (ALp (outN zs es) (srt zs) ⟨gt, gi, gl, gs, W.heap.size, fvT w.heap.size, W, .slice none 0 0, .slice none 0 0⟩ k r p.ids wr i)) (fun v33 _ => p.ids.length + 1 - (intOf v33).toNat)
    case atStart => exact ⟨0, rfl, Nat.zero_le _, HI⟩
    case round =>
      clear HI
      obtain ⟨i, rfl, hi, hrel⟩ := hrel
      obtain ⟨s, done, ws, st, ov, rows, hsp, hdl, hinv, htb, hal, hto⟩ := hrel.out
      by_cases hlt : i < p.ids.length
      · have hdk : decide ((i : Int) < (p.ids.length : Int)) = true := decide_eq_true (by omega)
        obtain ⟨x, ws', hws⟩ : ∃ x ws', ws = x :: ws' := by
          cases ws with
          | nil => rw [hsp, List.length_append] at hlt; simp at hlt; omega
          | cons x ws' => exact ⟨x, ws', rfl⟩
        subst hws
        have hxa : p.ids[i]? = some x := by rw [hsp, List.getElem?_append_right (by omega), hdl, Nat.sub_self]; rfl
        obtain ⟨gA, ccA, hvv, -, hcA, ⟨cur, hcur⟩⟩ := own_cells H2.out.1 (by omega)
        simp only [Value.slice.injEq] at hvv
        obtain ⟨rfl, -, rfl⟩ := hvv
        have hgA := blk_lt hcur
        have hcell : wr.cell? ⟨gA, i, none⟩ = some (.iface 97 (.int .i64 x)) := by
          have e1 : W.heap[gA]? = w2.heap[gA]? := HO.out.old.block gA hgA
          have e2 : wr.heap[gA]? = W.heap[gA]? := (TQ.kp hto).block gA (by show gA < W.heap.size; omega) (fun hm => by
            rcases hm with e | e | e | e | e | e
            · dsimp only at e; omega
            · dsimp only at e; omega
            · dsimp only at e; omega
            · dsimp only at e; omega
            · cases e
            · cases e)
          rw [World.cell?_of_block (e2.trans e1)]
          refine hcA i _ ?_
          unfold nodeVs
          rw [List.getElem?_map, hxa]
          rfl
        have hxz : x ∈ srt zs := by rw [← HR.out.2.2, hsp]; simp
        have hxw := HX.out.2.2.2.2 x ((mem_srt _ _).1 hxz)
        have m2 := meth_ID x
        have p2 : wr.cell? ⟨gt, 2, none⟩ = some (.map (some gi)) := (TQ.cells hto).2.2.1
        have hL := (TQ.ni (TQ.below hto (Below.refl _ _).drew)).look hxw
        dsimp only at hL
        have i0' : (0 : Int) ≤ (i : Int) := by omega
        have i1' : (i : Int) < (p.ids.length : Int) := by omega
        have HTO := Aside0.mk (TQ.below hto (Below.refl _ _).drew)
        have HS := Aside0.mk (And.intro hsp (And.intro hdl (And.intro hinv (And.intro htb hal))))
        clear hrel hto hsp hdl hinv htb hal hxa hcA hcur
        by_cases hn0 : s.num x = 0
        · have hb0 : ((s.num x : Int) == 0) = true := by simp [hn0]
          obtain ⟨s2, hs2, hal2⟩ : ∃ s2, strongT (outN zs es) k x s = some s2 ∧ allT (outN zs es) k ws' s2 = some r := by
            have a := HS.out.2.2.2.2
            rw [allT, if_pos hn0] at a
            exact Option.bind_eq_some_iff.1 a
          have HS2 := Aside0.mk (And.intro hs2 hal2)
          have HENV2 := Aside0.mk (HEO.out W wr.drew HENV.out (fun q a1 a2 a3 a4 a5 => (TQ.kp HTO.out).block q a1 (fun hm => by
            rcases hm with e | e | e | e | e | e
            · exact a2 e
            · exact a3 e
            · exact a4 e
            · exact a5 e
            · cases e
            · cases e)))
          clear hs2 hal2
          go_wp2_with fail
          go_region_held3 (fun w' => w'.cell? ⟨gt, 2, none⟩ = some (.map (some gi))) (go_keep) (first | (go_at_call 202; refine (nodeID_any x _).mono ?_; rintro e wi ⟨rfl, rfl⟩))
          go_wp2_with (go_at_call 83; refine (HSC.out [] x s s2 wr.drew st ov rows HS.out.2.2.1 hn0 (fun y hy => by cases hy) hxz HS.out.2.2.2.1 HS2.out.1 HENV2.out (TQ.restart HTO.out)).mono ?_; rintro e w7 ⟨rfl, st2, ov2, rows2, hto2⟩; have HC := Aside0.mk (TQ.resume HTO.out hto2); clear hto2)
          have hp := strongT_ok (outN zs es) k [] x s s2 HS.out.2.2.1 hn0 (fun y hy => by cases hy) HS2.out.1
          have htb2 := strongT_tb HIN.out k [] x s s2 HS.out.2.2.1 hn0 (fun y hy => by cases hy) hxz HS.out.2.2.2.1 HS2.out.1
          exact ⟨⟨i + 1, by simp, by omega, ⟨s2, done ++ [x], ws', st2, ov2, rows2, by rw [HS.out.1]; simp, by simp [HS.out.2.1], hp.inv, htb2, HS2.out.2, HC.out⟩⟩, by simp [intOf]; omega⟩
        · have hb0 : ((s.num x : Int) == 0) = false := by rw [beq_eq_false_iff_ne]; omega
          have hal2 : allT (outN zs es) k ws' s = some r := by
            have a := HS.out.2.2.2.2
            rw [allT, if_neg hn0] at a
            exact a
          have HS2 := Aside0.mk hal2
          clear hal2
          go_wp2_with fail
          go_region_held3 (fun w' => w'.cell? ⟨gt, 2, none⟩ = some (.map (some gi))) (go_keep) (first | (go_at_call 202; refine (nodeID_any x _).mono ?_; rintro e wi ⟨rfl, rfl⟩))
          go_wp2
          exact ⟨⟨i + 1, by simp, by omega, ⟨s, done ++ [x], ws', st, ov, rows, by rw [HS.out.1]; simp, by simp [HS.out.2.1], HS.out.2.2.1, HS.out.2.2.2.1, HS2.out, HTO.out⟩⟩, by simp [intOf]; omega⟩
      · have hdk : decide ((i : Int) < (p.ids.length : Int)) = false := decide_eq_false (by omega)
        obtain rfl : ws = [] := by
          cases ws with
          | nil => rfl
          | cons x ws' => rw [hsp, List.length_append, List.length_cons] at hlt; omega
        simp only [allT, Option.some.injEq] at hal
        subst hal
        have p6 : wr.cell? ⟨gt, 6, none⟩ = some ov := (TQ.cells hto).2.2.2.2.2.2
        have HTO := Aside0.mk hto
        clear hrel hto hsp hdl hinv htb
        go_wp2
        go_ret
        refine ⟨ov, rows, rfl, RwsV.mono (TQ.out HTO.out) (by have := HB.out.size; dsimp only; omega), TQ.rs HTO.out, HB.out.trans ((TQ.kp HTO.out).below (by dsimp only; omega) (fun q hq => by
          rcases hq with e | e | e | e | e | e
          · dsimp only at e; omega
          · dsimp only at e; omega
          · dsimp only at e; omega
          · dsimp only at e; omega
          · cases e
          · cases e))⟩
end Go.Proofs.YtolbfjjgdheikaaGreat.R

/- impl.SCC. -/
namespace Go.Proofs.YtolbfjjgdheikaaGreat.R
open Go.RowKit Go.Lab Go.Maps Go.Proofs.YtolbfjjgdheikaaGreatW.PrintWords Go.Proofs.YtolbfjjgdheikaaGreatW.PrintLast Go.Proofs.YtolbfjjgdheikaaGreatW.PrintMore PL

theorem SccOk.lens {adj : Int → List Int} {ns : List Int} {out : List (List Int)} (h : SccOk adj ns out) (hsub : ∀ c ∈ out, ∀ x ∈ c, x ∈ ns) : out.length ≤ ns.length ∧ ∀ c ∈ out, c.length ≤ ns.length := by
  refine ⟨?_, fun c hc => nodup_len (h.comp c hc).1 (hsub c hc)⟩
  have hd : ∀ c ∈ out, c.headD 0 ∈ c := fun c hc => by
    obtain ⟨_, r, hr, _⟩ := h.comp c hc
    cases c with
    | nil => cases hr
    | cons a l => simp
  have hnd : (out.map fun c => c.headD 0).Nodup := List.pairwise_map.2 (h.dis.imp_of_mem fun {a b} ha hb hab e => hab _ (hd a ha) (e ▸ hd b hb))
  have := nodup_len (xs := ns) hnd (fun x hx => by
    obtain ⟨c, hc, rfl⟩ := List.mem_map.1 hx
    exact hsub c hc _ (hd c hc))
  rwa [List.length_map] at this

set_option maxHeartbeats 4000000 in
set_option maxRecDepth 100000 in
theorem scc36_any (base bp : Nat) (zs : List Int) (es : List S34) (p : Pl) (w : World) (h : GrOk w base bp zs es p) (wf : ∀ x ∈ zs, (Lit.int .i64 x).wf = true) (k : Nat) (r : TS) (hr : allT (outN zs es) k (srt zs) TS.none = some r) :
    Calls Tryz.prog 36 #[.iface 64 (.agg #[.pointer (some ⟨bp, 0, none⟩)])] w fun e w' => ∃ lv rows, e = .returned lv ∧ RwsV kpN w.heap.size w' lv rows r.out ∧ (rows.Pairwise fun u v => ∀ k, u.ownBlock = some k → v.ownBlock ≠ some k) ∧ Below w.heap.size w w' := by
  go_enter Tryz.func36, Tryz.ntmps36
  go_wp2_with (go_at_call 57; refine (tarjan_any base bp zs es p w h wf k r hr).mono ?_; rintro e w1 ⟨lv, rows, rfl, hrw, hrs, hb⟩; have H1 := Aside0.mk (And.intro hrw (And.intro hrs hb)); clear hrw hrs hb)
  go_ret
  exact ⟨lv, rows, rfl, H1.out.1, H1.out.2.1, H1.out.2.2⟩

end Go.Proofs.YtolbfjjgdheikaaGreat.R

namespace Go.Proofs.YtolbfjjgdheikaaGreat.PL
open Go.RowKit Go.Lab Go.Proofs.YtolbfjjgdheikaaGreatW.PrintWords Go.Proofs.YtolbfjjgdheikaaGreatW.PrintLast Go.Proofs.YtolbfjjgdheikaaGreatW.PrintMore
end Go.Proofs.YtolbfjjgdheikaaGreat.PL

/- impl.slots: it ends, and tells whether there was an error. -/
namespace Go.Proofs.YtolbfjjgdheikaaGreat.R
open Go.RowKit Go.Lab Go.Maps Go.Proofs.YtolbfjjgdheikaaGreatW.PrintWords Go.Proofs.YtolbfjjgdheikaaGreatW.PrintLast Go.Proofs.YtolbfjjgdheikaaGreatW.PrintMore PL

theorem Tryz.info127 : (Tryz.prog.info? 127).map (fun i => (i.zero, i.size, i.bytes)) = some (some (.agg #[.bool false, .int .i64 0]), 2, 16) := by kernel_rfl
theorem cell_two_new (w : World) (x y : Value) (t : TypeId) : ∀ j u, [x, y][j]? = some u → (w.alloc (.cells #[x, y] t)).cell? ((⟨w.heap.size, 0, none⟩ : Addr).add j) = some u := by
  intro j u hj
  match j, hj with
  | 0, hj =>
    have : (⟨w.heap.size, 0, none⟩ : Addr).add 0 = ⟨w.heap.size, 0, none⟩ := by unfold Addr.add; rfl
    rw [this, blk_cell (heap_alloc_new w _)]
    simpa using hj
  | 1, hj =>
    have : (⟨w.heap.size, 0, none⟩ : Addr).add 1 = ⟨w.heap.size, 1, none⟩ := by unfold Addr.add; rfl
    rw [this, blk_cell (heap_alloc_new w _)]
    simpa using hj
theorem err_as (v : Value) (w : World) : (Instr.typeAssert (.iface 128 v) 87 128 true).run Tryz.prog w = .ok (.tuple #[v, .bool true]) w := by kernel_rfl
theorem err_eq (A : Option Addr) (n c : Nat) (w : World) : (binOp .eql 87 (.iface 128 (.slice A n c)) .nilIface).run Tryz.prog w = .ok (.bool false) w := by kernel_rfl
theorem err_eq0 (w : World) : (binOp .eql 87 .nilIface .nilIface).run Tryz.prog w = .ok (.bool true) w := by kernel_rfl
theorem node_eq (x : Int) (w : World) : (binOp .eql 72 (.iface 97 (.int .i64 x)) .nilIface).run Tryz.prog w = .ok (.bool false) w := by kernel_rfl
theorem node_eq0 (w : World) : (binOp .eql 72 .nilIface .nilIface).run Tryz.prog w = .ok (.bool true) w := by kernel_rfl
/-- rows of nodes, each as it may be -/
def RowsQ (lo : Nat) (w : World) (rows : List Value) : Prop := ∀ u ∈ rows, ∃ q : List Int, q.length ≤ 1000 ∧ w.ownsRow lo 72 1 u q.length (nodeVs q)

set_option maxHeartbeats 16000000 in
set_option maxRecDepth 100000 in
theorem slots_any (base lo : Nat) (sv ev : Value) (vs : List Value) (b : Bool) (w : World) (hs : w.ownsRow base 72 1 sv vs.length vs) (hv : NVs vs) (hn : vs.length ≤ 1000)
    (he : (b = true ∧ ev = .nilIface) ∨ (b = false ∧ ∃ cv rows2, ev = .iface 128 cv ∧ w.ownsRow base 68 1 cv rows2.length rows2 ∧ rows2.length ≤ 1000 ∧ RowsQ lo w rows2)) :
    Calls Tryz.prog 45 #[sv, ev] w fun e w' => ∃ v1 v2, e = .returned (.tuple #[v1, v2, .bool b]) ∧ Below w.heap.size w w' := by
  obtain ⟨A, c, rfl⟩ := own_slice hs
  obtain ⟨i0, hi, hz0, hz1, hz2⟩ := info_parts Tryz.info127
  have HI := Aside0.mk (And.intro hi (And.intro hz0 (And.intro hz1 hz2)))
  obtain ⟨j0, gi, gz0, gz1, gz2⟩ := info_parts Tryz.info22
  have HJ := Aside0.mk (And.intro gi (And.intro gz0 (And.intro gz1 gz2)))
  have HS := Aside0.mk (And.intro hs hv)
  have HE := Aside0.mk he
  clear hs hv he hi hz0 hz1 hz2 gi gz0 gz1 gz2
  go_enter Tryz.func45, Tryz.ntmps45
  go_wp2_with fail
  go_loopw [4, 15] (fun v4 v15 wr => ∃ i : Nat, v15 = .int .i64 i ∧ i ≤ vs.length ∧ Aside0 (∃ vals, wr.ownsRow w.heap.size 127 2 v4 i vals ∧ Below w.heap.size w wr)) (fun _ v15 _ => vs.length + 1 - (intOf v15).toNat)
  case atStart => exact ⟨0, rfl, Nat.zero_le _, ⟨[], World.ownsRow_nil _ _ _ _, Below.refl _ _⟩⟩
  case round =>
    obtain ⟨i, rfl, hi, hrel⟩ := hrel
    obtain ⟨vals, hO, hB⟩ := hrel.out
    have hL := hB.size
    by_cases hlt : i < vs.length
    · have hdk : decide ((i : Int) < (vs.length : Int)) = true := decide_eq_true (by omega)
      obtain ⟨g, c', he, -, hcell, ⟨cur, hcur⟩⟩ := own_cells HS.out.1 (by omega)
      simp only [Value.slice.injEq] at he
      obtain ⟨rfl, -, rfl⟩ := he
      obtain ⟨u, hu⟩ : ∃ u, vs[i] = u := ⟨_, rfl⟩
      have hce : wr.cell? ⟨g, i, none⟩ = some u := by
        rw [World.cell?_of_block (hB.block g (blk_lt hcur))]
        exact hcell i _ (by rw [List.getElem?_eq_getElem hlt, hu])
      have huk := HS.out.2 u (by rw [← hu]; exact List.getElem_mem hlt)
      have hi0 : (0 : Int) ≤ (i : Int) := by omega
      have hi1 : (i : Int) < (vs.length : Int) := by omega
      obtain ⟨A4, c4, rfl⟩ := own_slice hO
      have HO := Aside0.mk (And.intro hO hB)
      clear hrel hO hB hcell hcur hu
      rcases huk with rfl | ⟨x, rfl⟩
      · have m1 := node_eq0
        go_wp2_with (at_builtin; refine wpList_append_own_at _ rfl _ _ 46 rfl w.heap.size 127 i0 (.agg #[.bool false, .int .i64 0]) 2 16 Tryz.underlying46 HI.out.1 HI.out.2.1 HI.out.2.2.1 HI.out.2.2.2 rfl (by decide) _ i vals rfl (World.ownsRow.alloc HO.out.1 _) ⟨wr.heap.size, 0, none⟩ 1 1 [.bool true, .int .i64 0] rfl rfl (cell_two_new _ _ _ _) ?q2 ?q3 ?q4 ?q5 ?_)
        case q2 => intro u hu; simp at hu; rcases hu with rfl | rfl <;> rfl
        case q3 => unfold maxLen; omega
        case q4 => omega
        case q5 => simp; omega
        intro v' w2 hown hgr _ hat
        have H2 := Aside0.mk (And.intro hown ((HO.out.2.alloc hL _).grown hgr (by simp; omega) (fun q hq => own_base HO.out.1 q hq)))
        clear hown hgr hat
        go_wp2
        exact ⟨⟨i + 1, by simp, by omega, ⟨_, H2.out⟩⟩, by simp [intOf]; omega⟩
      · have m1 := node_eq x
        go_wp2_with (first
          | (go_at_call 40; refine (number_any x _).mono ?_; rintro e w9 ⟨rfl, rfl⟩)
          | (at_builtin; refine wpList_append_own_at _ rfl _ _ 46 rfl w.heap.size 127 i0 (.agg #[.bool false, .int .i64 0]) 2 16 Tryz.underlying46 HI.out.1 HI.out.2.1 HI.out.2.2.1 HI.out.2.2.2 rfl (by decide) _ i vals rfl (World.ownsRow.alloc HO.out.1 _) ⟨wr.heap.size, 0, none⟩ 1 1 [.bool false, .int .i64 x] rfl rfl (cell_two_new _ _ _ _) ?q2 ?q3 ?q4 ?q5 ?_))
        case q2 => intro u hu; simp at hu; rcases hu with rfl | rfl <;> rfl
        case q3 => unfold maxLen; omega
        case q4 => omega
        case q5 => simp; omega
        intro v' w2 hown hgr _ hat
        have H2 := Aside0.mk (And.intro hown ((HO.out.2.alloc hL _).grown hgr (by simp; omega) (fun q hq => own_base HO.out.1 q hq)))
        clear hown hgr hat
        go_wp2
        exact ⟨⟨i + 1, by simp, by omega, ⟨_, H2.out⟩⟩, by simp [intOf]; omega⟩
    · have hdk : decide ((i : Int) < (vs.length : Int)) = false := decide_eq_false (by omega)
      have HB := Aside0.mk hB
      clear hrel hO hB
      rcases HE.out with ⟨rfl, rfl⟩ | ⟨rfl, cv, rows2, rfl, hc, hrn, hrq⟩
      · have m1 := err_eq0
        go_wp2
        exact bodyPost_ret (v := .tuple #[u4, .slice none 0 0, .bool true]) (by simp [results, Tryz.results45, go_sem]) rfl (by first | exact ⟨⟨_, _, rfl⟩, HB.out⟩ | exact ⟨_, _, rfl, HB.out⟩)
      · obtain ⟨A3, c3, rfl⟩ := own_slice hc
        have m1 := err_eq A3 rows2.length c3
        have m2 := err_as (.slice A3 rows2.length c3)
        have HC := Aside0.mk (And.intro hc hrq)
        clear hc hrq
        go_wp2_with fail
        go_loopw [5, 42] (fun v5 v42 wq => ∃ j : Nat, v42 = .int .i64 j ∧ j ≤ rows2.length ∧ Aside0 (∃ rr, wq.ownsRow w.heap.size 22 1 v5 j rr ∧ Below w.heap.size w wq)) (fun _ v42 _ => rows2.length + 1 - (intOf v42).toNat)
        case atStart => exact ⟨0, rfl, Nat.zero_le _, ⟨[], World.ownsRow_nil _ _ _ _, HB.out⟩⟩
        case round =>
          clear m1 m2 HB hL
          obtain ⟨j, rfl, hj, hrel⟩ := hrel
          obtain ⟨rr, hO, hB⟩ := hrel.out
          have hL := hB.size
          by_cases hjt : j < rows2.length
          · have hdj : decide ((j : Int) < (rows2.length : Int)) = true := decide_eq_true (by omega)
            obtain ⟨g, c', he, -, hcell, ⟨cur, hcur⟩⟩ := own_cells HC.out.1 (by omega)
            simp only [Value.slice.injEq] at he
            obtain ⟨rfl, -, rfl⟩ := he
            obtain ⟨q, hq1, hq2⟩ := HC.out.2 rows2[j] (List.getElem_mem hjt)
            obtain ⟨A2, c2, hrk⟩ := own_slice hq2
            have hce : wr.cell? ⟨g, j, none⟩ = some (.slice A2 q.length c2) := by
              rw [World.cell?_of_block (hB.block g (blk_lt hcur)), ← hrk]
              exact hcell j _ (by rw [List.getElem?_eq_getElem hjt])
            rw [hrk] at hq2
            have hqn : q.length ≤ 100000 := by omega
            have HQ := Aside0.mk (own_of_heap hq2 fun k hk => hB.block k (by obtain ⟨cc, hcc⟩ := own_block hq2 hk; exact blk_lt hcc))
            have hj0 : (0 : Int) ≤ (j : Int) := by omega
            have hj1 : (j : Int) < (rows2.length : Int) := by omega
            obtain ⟨A5, c5, rfl⟩ := own_slice hO
            have HO := Aside0.mk (And.intro hO hB)
            clear hrel hO hB hcell hcur hrk hq2 hq1
            go_wp2_with (first
              | (go_at_call 37; refine (numbers_any lo _ q _ HQ.out hqn).mono ?_; rintro e w2 ⟨v1, rfl, ho1, hb1⟩; obtain ⟨B1, d1, rfl⟩ := own_slice ho1; have H1 := Aside0.mk (And.intro ho1 (And.intro hb1 (own_of_heap HO.out.1 (fun k hk => hb1.block k (by obtain ⟨cc, hcc⟩ := own_block HO.out.1 hk; exact blk_lt hcc))))); have hz1 := hb1.size; clear ho1 hb1)
              | (at_builtin; refine wpList_append_own_at _ rfl _ _ 29 rfl w.heap.size 22 j0 (.slice none 0 0) 1 24 Tryz.underlying29 HJ.out.1 HJ.out.2.1 HJ.out.2.2.1 HJ.out.2.2.2 rfl (by decide) _ j rr rfl (World.ownsRow.alloc H1.out.2.2 _) ⟨w2.heap.size, 0, none⟩ 1 1 [.slice B1 q.length d1] rfl rfl (cell_one_new _ _ _) ?q2 ?q3 ?q4 ?q5 ?_))
            case q2 => intro u hu; simp at hu; subst hu; rfl
            case q3 => unfold maxLen; omega
            case q4 => omega
            case q5 => simp; omega
            intro v' w3 hown hgr _ hat
            have H3 := Aside0.mk (And.intro hown ((((HO.out.2.trans (H1.out.2.1.mono hL)).alloc (by omega) (.cells #[.slice B1 q.length d1] 22))).grown hgr (by simp; omega) (fun q hq => own_base HO.out.1 q hq)))
            clear hown hgr hat
            go_wp2
            exact ⟨⟨j + 1, by simp, by omega, ⟨_, H3.out⟩⟩, by simp [intOf]; omega⟩
          · have hdj : decide ((j : Int) < (rows2.length : Int)) = false := decide_eq_false (by omega)
            have HB := Aside0.mk hB
            clear hrel hO hB
            go_wp2
            exact bodyPost_ret (v := .tuple #[u4, u5, .bool false]) (by simp [results, Tryz.results45, go_sem]) rfl (by first | exact ⟨⟨_, _, rfl⟩, HB.out⟩ | exact ⟨_, _, rfl, HB.out⟩)
end Go.Proofs.YtolbfjjgdheikaaGreat.R

/- topo.Sort, impl.Sort: is there an order? -/
namespace Go.Proofs.YtolbfjjgdheikaaGreat.R
open Go.RowKit Go.Lab Go.Maps Go.Proofs.YtolbfjjgdheikaaGreatW.PrintWords Go.Proofs.YtolbfjjgdheikaaGreatW.PrintLast Go.Proofs.YtolbfjjgdheikaaGreatW.PrintMore PL

/-- each component is one node -/
def ones (out : List (List Int)) : Bool := out.all fun p => decide (p.length = 1)
theorem ones_iff {out : List (List Int)} : ones out = true ↔ ∀ p ∈ out, p.length = 1 := by
  unfold ones
  rw [List.all_eq_true]
  exact ⟨fun h p hp => of_decide_eq_true (h p hp), fun h p hp => decide_eq_true (h p hp)⟩
/-- what topo.Sort answers -/
def S44 (w w' : World) (out : List (List Int)) (sv : Value) (vs : List Value) (ev : Value) : Prop :=
  w'.ownsRow w.heap.size 72 1 sv vs.length vs ∧ vs.length ≤ 1000 ∧ NVs vs ∧
    ((ones out = true ∧ ev = .nilIface) ∨ (ones out = false ∧ ∃ cv rows2, ev = .iface 128 cv ∧ w'.ownsRow w.heap.size 68 1 cv rows2.length rows2 ∧ rows2.length ≤ 1000 ∧ RowsQ w.heap.size w' rows2)) ∧ Below w.heap.size w w'

set_option maxHeartbeats 4000000 in
set_option maxRecDepth 100000 in
theorem sort44_any (base bp : Nat) (zs : List Int) (es : List S34) (p : Pl) (w : World) (h : GrOk w base bp zs es p) (wf : ∀ x ∈ zs, (Lit.int .i64 x).wf = true) (k : Nat) (r : TS) (hr : allT (outN zs es) k (srt zs) TS.none = some r) (hn : r.out.length ≤ 1000) (hl : ∀ q ∈ r.out, q.length ≤ 1000) :
    Calls Tryz.prog 44 #[.iface 64 (.agg #[.pointer (some ⟨bp, 0, none⟩)])] w fun e w' => ∃ sv vs ev, e = .returned (.tuple #[sv, ev]) ∧ S44 w w' r.out sv vs ev := by
  go_enter Tryz.func44, Tryz.ntmps44
  go_wp2_with (first
    | (go_at_call 36; refine (scc36_any base bp zs es p w h wf k r hr).mono ?_; rintro e w1 ⟨lv, rows, rfl, hrw, hrs, hb⟩; have H1 := Aside0.mk (And.intro hrw (And.intro hrs hb)); clear hrw hrs hb)
    | (go_at_call 68; refine (sortedFrom_any w.heap.size lv rows r.out _ H1.out.1 H1.out.2.1 H1.out.2.2.size hn hl).mono ?_; rintro e w2 ⟨sv, vs, ev, rfl, hok⟩; have H2 := Aside0.mk hok; clear hok))
  go_ret2
  obtain ⟨a1, a2, a3, a4, a5⟩ := H2.out
  have hz := H1.out.2.2.size
  refine ⟨sv, vs, ev, rfl, own_weaken a1 hz, by omega, a3, ?_, H1.out.2.2.trans a5⟩
  rcases a4 with ⟨a, b⟩ | ⟨a, cv, rows2, b1, b2, b3, b4⟩
  · exact .inl ⟨ones_iff.2 a, b⟩
  · exact .inr ⟨Bool.eq_false_iff.2 fun hh => a (ones_iff.1 hh), cv, rows2, b1, own_weaken b2 hz, by omega, b4⟩

set_option maxHeartbeats 4000000 in
set_option maxRecDepth 100000 in
theorem sort_good (A1 A2 : Option Addr) (c1 c2 : Nat) (zs : List Int) (es : List S34) (w : World) (hN : Kd.C (Kd.int .i64) w A1 zs.length zs) (hE : Kd.C k34 w A2 es.length es) (hn : zs.length ≤ 1000) (he : es.length ≤ 1000000)
    (wf : ∀ x ∈ zs, (Lit.int .i64 x).wf = true) (hro : readOk zs es = true) (r : TS) (hr : allT (outN zs es) 1000 (srt zs) TS.none = some r) :
    Calls Tryz.prog 22 #[.agg #[.bool true, .slice A1 zs.length c1, .slice A2 es.length c2]] w fun e w' => ∃ v1 v2, e = .returned (.tuple #[v1, v2, .bool (ones r.out), .bool false]) ∧ Below w.heap.size w w' := by
  obtain ⟨r', hr', hok, _, hsub⟩ := sccs_all (adj := outN zs es) (ns := srt zs) (fun u x hx => (mem_srt _ _).2 (outN_mem' hx).1) 1000 (by rw [srt_length]; exact hn)
  rw [hr] at hr'
  obtain rfl := Option.some.inj hr'
  have hln := hok.lens hsub
  rw [srt_length] at hln
  have HL := Aside0.mk (show r.out.length ≤ 1000 ∧ ∀ q ∈ r.out, q.length ≤ 1000 from ⟨by omega, fun q hq => by have := hln.2 q hq; omega⟩)
  have hb1 : Below w.heap.size w (w.alloc (.cells #[.bool true, .slice A1 zs.length c1, .slice A2 es.length c2] 25)) := (Below.refl _ _).alloc (Nat.le_refl _) _
  have HN := Aside0.mk (Kd.C_below hN hb1)
  have HE := Aside0.mk (Kd.C_below hE hb1)
  have HB1 := Aside0.mk hb1
  have HR := Aside0.mk hr
  have HWF := Aside0.mk wf
  have hrd : (readOk zs es && true) = true := by rw [hro]; rfl
  have HRD := Aside0.mk (And.intro hrd hro)
  obtain ⟨b, hbb⟩ : ∃ b, ones r.out = b := ⟨_, rfl⟩
  have HBB := Aside0.mk hbb
  rw [hbb]
  clear hN hE hb1 hok hsub hln hr wf hrd hro hbb
  go_enter Tryz.func22, Tryz.ntmps22
  go_wp2_with (first
    | (go_at_call 35; refine (oneWay_any true A1 A2 c1 c2 zs es _ HN.out HE.out hn he).mono ?_; rintro e w1 ⟨base, bp, rfl, hbel, hpl⟩; rw [HRD.out.1]; have H1 := Aside0.mk (And.intro hbel (show GrOk w1 base bp zs es (plOf true zs es) from GrOk.mk' (w := w) (d := true) hn HRD.out.2 (hpl HRD.out.2))); clear hbel hpl)
    | (go_at_call 44; refine (sort44_any base bp zs es _ _ (H1.out.2.below ((Below.refl _ _).alloc (Nat.le_refl _) _)) HWF.out 1000 r HR.out HL.out.1 HL.out.2).mono ?_; rintro e w2 ⟨sv, vs, ev, rfl, hok⟩; have H2 := Aside0.mk hok; have hz2 := hok.2.2.2.2.size; clear hok)
    | (go_at_call 45; refine (slots_any (w1.alloc (.cells #[.pointer (some ⟨bp, 0, none⟩)] 64)).heap.size (w1.alloc (.cells #[.pointer (some ⟨bp, 0, none⟩)] 64)).heap.size sv ev vs b _ H2.out.1 H2.out.2.2.1 H2.out.2.1 (by rcases H2.out.2.2.2.1 with ⟨a, e⟩ | ⟨a, cv, rows2, e, b1, b2, b3⟩; exact .inl ⟨HBB.out.symm.trans a, e⟩; exact .inr ⟨HBB.out.symm.trans a, cv, rows2, e, b1, b2, b3⟩)).mono ?_; rintro e w3 ⟨v1, v2, rfl, hb3⟩; have H3 := Aside0.mk hb3; clear hb3))
  have hz1 := H1.out.1.size
  simp at hz1 hz2
  have k1 := HB1.out.trans (H1.out.1.mono (by simp))
  have k2 := k1.alloc (by omega) (.cells #[.pointer (some ⟨bp, 0, none⟩)] 64)
  have k3 := (k2.trans (H2.out.2.2.2.2.mono (by simp; omega))).trans (H3.out.mono (by omega))
  exact bodyPost_ret (v := .tuple #[v1, v2, .bool b, .bool false]) (by simp [results, Tryz.results22, go_sem]) rfl ⟨v1, v2, rfl, k3⟩

set_option maxHeartbeats 4000000 in
set_option maxRecDepth 100000 in
theorem sort_bad (d : Bool) (A1 A2 : Option Addr) (c1 c2 : Nat) (zs : List Int) (es : List S34) (w : World) (hN : Kd.C (Kd.int .i64) w A1 zs.length zs) (hE : Kd.C k34 w A2 es.length es) (hn : zs.length ≤ 1000) (he : es.length ≤ 1000000) (hro : (readOk zs es && d) = false) :
    Calls Tryz.prog 22 #[.agg #[.bool d, .slice A1 zs.length c1, .slice A2 es.length c2]] w fun e w' => ∃ v1 v2, e = .returned (.tuple #[v1, v2, .bool false, .bool true]) ∧ Below w.heap.size w w' := by
  have hb1 : Below w.heap.size w (w.alloc (.cells #[.bool d, .slice A1 zs.length c1, .slice A2 es.length c2] 25)) := (Below.refl _ _).alloc (Nat.le_refl _) _
  have HN := Aside0.mk (Kd.C_below hN hb1)
  have HE := Aside0.mk (Kd.C_below hE hb1)
  have HB := Aside0.mk hb1
  have HRD := Aside0.mk hro
  clear hN hE hb1 hro
  go_enter Tryz.func22, Tryz.ntmps22
  go_wp2_with (go_at_call 35; refine (oneWay_any d A1 A2 c1 c2 zs es _ HN.out HE.out hn he).mono ?_; rintro e w1 ⟨base, bp, rfl, hbel, hpl⟩; rw [HRD.out]; have H1 := Aside0.mk hbel; have hz1 := hbel.size; clear hbel hpl)
  simp at hz1
  exact bodyPost_ret (v := .tuple #[.slice none 0 0, .slice none 0 0, .bool false, .bool true]) (by simp [results, Tryz.results22, go_sem]) rfl (by first | exact ⟨_, _, rfl, (HB.out.trans (H1.out.mono (by simp))).alloc (by omega) _⟩ | exact ⟨⟨_, _, rfl⟩, (HB.out.trans (H1.out.mono (by simp))).alloc (by omega) _⟩)
end Go.Proofs.YtolbfjjgdheikaaGreat.R

namespace Go.Proofs.YtolbfjjgdheikaaGreat.PL
open Go.RowKit Go.Lab Go.Proofs.YtolbfjjgdheikaaGreatW.PrintWords Go.Proofs.YtolbfjjgdheikaaGreatW.PrintLast Go.Proofs.YtolbfjjgdheikaaGreatW.PrintMore
/-- what impl.Sort tells: is there an order, is the graph bad (the order itself, and the cyclic components, are left open) -/
def impl_Sort.f (a0_0 : Bool) (l0_1 : List Int) (l0_2 : List S34) : Option (Bool × Bool) :=
  if l0_1.length ≤ 90 ∧ l0_2.length ≤ 1000000 ∧ (l0_1.all fun x => (Lit.int .i64 x).wf) = true then
    if (R.readOk l0_1 l0_2 && a0_0) = true then (R.allT (R.outN l0_1 l0_2) 1000 (srt l0_1) R.TS.none).map fun r => (R.ones r.out, false)
    else some (false, true)
  else none
theorem impl_Sort.calls (a0_0 : Bool) (A0_1 : Option Addr) (c0_1 : Nat) (l0_1 : List Int) (A0_2 : Option Addr) (c0_2 : Nat) (l0_2 : List S34) (r1 : Bool) (r2 : Bool) (w : World)
    (hr0_1 : Kd.C (Kd.int .i64) w A0_1 l0_1.length l0_1) (hc0_1 : l0_1.length ≤ c0_1) (hr0_2 : Kd.C k34 w A0_2 l0_2.length l0_2) (hc0_2 : l0_2.length ≤ c0_2) (h : impl_Sort.f a0_0 l0_1 l0_2 = some (r1, r2)) :
    Calls Tryz.prog 22 #[.agg #[.bool a0_0, .slice A0_1 l0_1.length c0_1, .slice A0_2 l0_2.length c0_2]] w fun e w' => ∃ v1_ v2_ : Value, e = .returned (.tuple #[v1_, v2_, .bool r1, .bool r2]) ∧ Below w.heap.size w w' := by
  unfold impl_Sort.f at h
  split at h
  · rename_i hc
    obtain ⟨h1, h2, h4⟩ := hc
    split at h
    · rename_i hgood
      obtain ⟨r, hr, he⟩ := Option.map_eq_some_iff.1 h
      simp only [Prod.mk.injEq] at he
      obtain ⟨rfl, rfl⟩ := he
      simp only [Bool.and_eq_true] at hgood
      obtain ⟨hg1, rfl⟩ := hgood
      exact R.sort_good A0_1 A0_2 c0_1 c0_2 l0_1 l0_2 w hr0_1 hr0_2 (by omega) h2 (List.all_eq_true.1 h4) hg1 r hr
    · rename_i hbad
      simp only [Option.some.injEq, Prod.mk.injEq] at h
      obtain ⟨rfl, rfl⟩ := h
      exact R.sort_bad a0_0 A0_1 A0_2 c0_1 c0_2 l0_1 l0_2 w hr0_1 hr0_2 (by omega) h2 (by simpa using hbad)
  · cases h
end Go.Proofs.YtolbfjjgdheikaaGreat.PL

/- The contracts of impl.Sort, impl.PathExistsIn, impl.IsPathIn as the law's walk asks for them. -/
namespace Go.Proofs.YtolbfjjgdheikaaGreat.PL
open Go.RowKit Go.Lab Go.Proofs.YtolbfjjgdheikaaGreatW.PrintWords Go.Proofs.YtolbfjjgdheikaaGreatW.PrintLast Go.Proofs.YtolbfjjgdheikaaGreatW.PrintMore
/-- what impl.Sort tells (the order, and the cyclic components, are left open: two empty lists stand for them) -/
def impl_SortO.f (a0_0 : Bool) (l0_1 : List Int) (l0_2 : List S34) : Option (List Int × List (List Int) × Bool × Bool) :=
  (impl_Sort.f a0_0 l0_1 l0_2).map fun r => ([], [], r.1, r.2)
theorem impl_SortO.calls (a0_0 : Bool) (A0_1 : Option Addr) (c0_1 : Nat) (l0_1 : List Int) (A0_2 : Option Addr) (c0_2 : Nat) (l0_2 : List S34) (r1 : List Int) (r2 : List (List Int)) (r3 : Bool) (r4 : Bool) (w : World)
    (hr0_1 : Kd.C (Kd.int .i64) w A0_1 l0_1.length l0_1) (hc0_1 : l0_1.length ≤ c0_1) (hr0_2 : Kd.C k34 w A0_2 l0_2.length l0_2) (hc0_2 : l0_2.length ≤ c0_2) (h : impl_SortO.f a0_0 l0_1 l0_2 = some (r1, r2, r3, r4)) :
    Calls Tryz.prog 22 #[.agg #[.bool a0_0, .slice A0_1 l0_1.length c0_1, .slice A0_2 l0_2.length c0_2]] w fun e w' => ∃ v1_ v2_ : Value, e = .returned (.tuple #[v1_, v2_, .bool r3, .bool r4]) ∧ Kd.R (Kd.int .i64) 3 w' w.heap.size (fun _ => True) (.slice none 0 0) r1 ∧ Kd.S (Kd.slice 3 (Kd.int .i64)) 22 w' w.heap.size (fun _ => True) (.slice none 0 0) r2 ∧ Below w.heap.size w w' := by
  unfold impl_SortO.f at h
  obtain ⟨⟨a, b⟩, hr, he⟩ := Option.map_eq_some_iff.1 h
  simp only [Prod.mk.injEq] at he
  obtain ⟨rfl, rfl, rfl, rfl⟩ := he
  refine (impl_Sort.calls a0_0 A0_1 c0_1 l0_1 A0_2 c0_2 l0_2 a b w hr0_1 hc0_1 hr0_2 hc0_2 hr).mono ?_
  rintro e w' ⟨v1, v2, rfl, hb⟩
  exact ⟨v1, v2, rfl, Kd.R_nil _ _ _ _ _, Kd.S_nil _ _ _ _ _, hb⟩
def impl_PathExistsIn.f (a0_0 : Bool) (l0_1 : List Int) (l0_2 : List S34) (u v : Int) : Option (Bool × Bool) :=
  if l0_1.length ≤ 90 ∧ l0_2.length ≤ 1000000 ∧ (l0_1.all fun x => (Lit.int .i64 x).wf) = true ∧ (R.readOk l0_1 l0_2 && a0_0) = true ∧ u ∈ l0_1 then
    (R.bfsT (R.outN l0_1 l0_2) v 9000 [u] []).map fun b => (b, false)
  else none
theorem impl_PathExistsIn.calls (a0_0 : Bool) (A0_1 : Option Addr) (c0_1 : Nat) (l0_1 : List Int) (A0_2 : Option Addr) (c0_2 : Nat) (l0_2 : List S34) (u v : Int) (r1 : Bool) (r2 : Bool) (w : World)
    (hr0_1 : Kd.C (Kd.int .i64) w A0_1 l0_1.length l0_1) (hc0_1 : l0_1.length ≤ c0_1) (hr0_2 : Kd.C k34 w A0_2 l0_2.length l0_2) (hc0_2 : l0_2.length ≤ c0_2) (h : impl_PathExistsIn.f a0_0 l0_1 l0_2 u v = some (r1, r2)) :
    Calls Tryz.prog 23 #[.agg #[.bool a0_0, .slice A0_1 l0_1.length c0_1, .slice A0_2 l0_2.length c0_2], .int .i64 u, .int .i64 v] w fun e w' => e = .returned (.tuple #[.bool r1, .bool r2]) ∧ Below w.heap.size w w' := by
  unfold impl_PathExistsIn.f at h
  split at h
  · rename_i hc
    obtain ⟨h1, h2, h4, hg, hu⟩ := hc
    obtain ⟨b, hr, he⟩ := Option.map_eq_some_iff.1 h
    simp only [Prod.mk.injEq] at he
    obtain ⟨rfl, rfl⟩ := he
    simp only [Bool.and_eq_true] at hg
    obtain ⟨hg1, rfl⟩ := hg
    exact R.path23_any A0_1 A0_2 c0_1 c0_2 l0_1 l0_2 u v w hr0_1 hr0_2 (by omega) h2 (List.all_eq_true.1 h4) hg1 hu 9000 (Nat.le_refl _) b hr
  · cases h
def impl_IsPathIn.f (a0_0 : Bool) (l0_1 : List Int) (l0_2 : List S34) (l : List Int) : Option (Bool × Bool) :=
  if l0_1.length ≤ 90 ∧ l0_2.length ≤ 1000000 ∧ (R.readOk l0_1 l0_2 && a0_0) = true ∧ l = [] then some (true, false) else none
theorem impl_IsPathIn.calls (a0_0 : Bool) (A0_1 : Option Addr) (c0_1 : Nat) (l0_1 : List Int) (A0_2 : Option Addr) (c0_2 : Nat) (l0_2 : List S34) (A3 : Option Addr) (c3 : Nat) (l : List Int) (r1 : Bool) (r2 : Bool) (w : World)
    (hr0_1 : Kd.C (Kd.int .i64) w A0_1 l0_1.length l0_1) (hc0_1 : l0_1.length ≤ c0_1) (hr0_2 : Kd.C k34 w A0_2 l0_2.length l0_2) (hc0_2 : l0_2.length ≤ c0_2) (hr3 : Kd.C (Kd.int .i64) w A3 l.length l) (hc3 : l.length ≤ c3) (h : impl_IsPathIn.f a0_0 l0_1 l0_2 l = some (r1, r2)) :
    Calls Tryz.prog 24 #[.agg #[.bool a0_0, .slice A0_1 l0_1.length c0_1, .slice A0_2 l0_2.length c0_2], .slice A3 l.length c3] w fun e w' => e = .returned (.tuple #[.bool r1, .bool r2]) ∧ Below w.heap.size w w' := by
  unfold impl_IsPathIn.f at h
  split at h
  · rename_i hc
    obtain ⟨h1, h2, hg, rfl⟩ := hc
    simp only [Option.some.injEq, Prod.mk.injEq] at h
    obtain ⟨rfl, rfl⟩ := h
    simp only [Bool.and_eq_true] at hg
    obtain ⟨hg1, rfl⟩ := hg
    exact R.isPath_nil A0_1 A0_2 A3 c0_1 c0_2 c3 l0_1 l0_2 w hr0_1 hr0_2 (by omega) h2 hg1
  · cases h
end Go.Proofs.YtolbfjjgdheikaaGreat.PL
