import Derived.Test.YtolbfjjgdheikaaGreatETJ
import Derived.Test.YtolbfjjgdheikaaGreatEK8
import Derived.Test.YtolbfjjgdheikaaGreatET4
import Derived.Test.YtolbfjjgdheikaaGreatEKA
import Derived.Test.YtolbfjjgdheikaaGreatEB2
set_option linter.unusedVariables false
set_option linter.unusedSimpArgs false
/- The successors of a node, as the closure that Tarjan's object holds tells them. -/
namespace Go.Proofs.YtolbfjjgdheikaaGreat.R
open Go.RowKit Go.Lab Go.Maps Go.Proofs.YtolbfjjgdheikaaGreatW.PrintWords Go.Proofs.YtolbfjjgdheikaaGreatW.PrintLast Go.Proofs.YtolbfjjgdheikaaGreatW.PrintMore PL

theorem meth_DFrom (a : Addr) (w : World) : (method 363 64 (.agg #[.pointer (some a)]) "From").run Tryz.prog w = .ok (197, .agg #[.pointer (some a)]) w := by kernel_rfl
theorem meth_DNodes (a : Addr) (w : World) : (method 363 64 (.agg #[.pointer (some a)]) "Nodes").run Tryz.prog w = .ok (201, .agg #[.pointer (some a)]) w := by kernel_rfl
/-- the graph stands, and the box that names it -/
structure GEnv (wE : World) (gb base bp : Nat) (zs : List Int) (es : List S34) (p : Pl) (w : World) : Prop where
  gr : GrOk wE base bp zs es p
  old : ∀ k, k < wE.heap.size → w.heap[k]? = wE.heap[k]?
  box : w.heap[gb]? = some (.cells #[.iface 64 (.agg #[.pointer (some ⟨bp, 0, none⟩)])] 108 (0, 0))
theorem GEnv.now {wE w : World} {gb base bp : Nat} {zs : List Int} {es : List S34} {p : Pl} (h : GEnv wE gb base bp zs es p w) : GrOk w base bp zs es p :=
  ⟨h.gr.ok.kinds (fun k c t hk _ => h.old k (blk_lt hk)), h.gr.good, h.gr.adj, h.gr.hs, h.gr.hn⟩

set_option maxHeartbeats 4000000 in
set_option maxRecDepth 100000 in
theorem succ80_any (wE : World) (gb base bp : Nat) (zs : List Int) (es : List S34) (p : Pl) (w : World) (v : Int) (h : GEnv wE gb base bp zs es p w) (hv : v ∈ zs) :
    Calls Tryz.prog 80 #[.int .i64 v, .pointer (some ⟨gb, 0, none⟩)] w fun e w' => ∃ vv, e = .returned vv ∧ w'.ownsRow w.heap.size 72 1 vv (outN zs es v).length (nodeVs (outN zs es v)) ∧ Below w.heap.size w w' := by
  have hn := h.gr.hn
  have hl : (outN zs es v).length ≤ 100000 := by have h1 := outN_len zs es v; omega
  have HG := Aside0.mk h.now
  have c0 : w.cell? ⟨gb, 0, none⟩ = some (.iface 64 (.agg #[.pointer (some ⟨bp, 0, none⟩)])) := (blk_cell h.box 0).trans rfl
  have m1 := meth_DFrom ⟨bp, 0, none⟩
  clear h hn
  go_enter Tryz.func80, Tryz.ntmps80
  go_wp2_with (first
    | (go_at_call 197; refine (gFromD base bp zs es p v _ HG.out hv).mono ?_; rintro e w1 ⟨b, rfl, hit, hbel⟩; have H1 := Aside0.mk (And.intro hit hbel); clear hit hbel)
    | (go_at_call 79; refine (nodesOf_any _ _ b (outN zs es v) _ H1.out.1 hl).mono ?_; rintro e w2 ⟨vv, rfl, h1, h2, h3⟩; have H2 := Aside0.mk (And.intro h1 (And.intro h2 h3)); clear h1 h2 h3))
  go_ret
  exact ⟨vv, rfl, H2.out.1, H1.out.2.trans (H2.out.2.2.below H1.out.2.size)⟩
end Go.Proofs.YtolbfjjgdheikaaGreat.R

/- topo.TarjanSCC: its object is made, and all nodes are walked from. -/
namespace Go.Proofs.YtolbfjjgdheikaaGreat.R
open Go.RowKit Go.Lab Go.Maps Go.Proofs.YtolbfjjgdheikaaGreatW.PrintWords Go.Proofs.YtolbfjjgdheikaaGreatW.PrintLast Go.Proofs.YtolbfjjgdheikaaGreatW.PrintMore PL

theorem strong_all (adj : Int → List Int) (adj_len : ∀ u, (adj u).length ≤ 100000000) (ns : List Int) (lo gt gi gl gs gb : Nat) (Env : World → Prop) (hns : ns.length ≤ 1000) (hwf : ∀ x ∈ ns, (Lit.int .i64 x).wf = true) (hin : ∀ u, ∀ x ∈ adj u, x ∈ ns) (hS : SuccOk adj ns gb Env) (hE : EnvOk lo gt gi gl gs Env) :
    ∀ k, StrongAt adj ns lo gt gi gl gs gb Env k
  | 0 => by
    intro g v s r w st ov rows _ _ _ _ _ h _ _
    simp [strongT] at h
  | k + 1 => strong_step adj adj_len ns lo gt gi gl gs gb Env hns hwf hin hS hE k (strong_all adj adj_len ns lo gt gi gl gs gb Env hns hwf hin hS hE k)

theorem run_map150 (n : Nat) (w : World) : (Instr.makeMap 150 (some (.int .i64 (n : Int)))).run Tryz.prog w = .ok (.map (some w.heap.size)) (w.alloc (.map #[] 0)) := by
  simp [Instr.makeMap, run_underlying Tryz.underlying150, asInt, asIntOf]
theorem objZero (w : World) : (zeroValue 152).run Tryz.prog w = .ok (.agg #[.nilFunc, .int .i64 0, .map none, .map none, .map none, .slice none 0 0, .slice none 0 0]) w := by kernel_rfl
theorem eq_nilFunc (w : World) : (binOp .eql 125 .nilFunc .nilFunc).run Tryz.prog w = .ok (.bool true) w := by kernel_rfl
theorem run_store_f80 (gb : Nat) (a : Addr) (m : Mode) (w : World) : (store a (.func (.func 80) #[] #[.pointer (some ⟨gb, 0, none⟩)]) m).run Tryz.prog w = stored Tryz.prog w a (.func (.func 80) #[] #[.pointer (some ⟨gb, 0, none⟩)]) m := run_store Tryz.prog w a _ m rfl

/-- Tarjan's object and its maps, made -/
structure ObjNew (w0 w : World) (gt gi gl gs gb : Nat) : Prop where
  t0 : w0.heap.size ≤ gt
  i0 : w0.heap.size ≤ gi
  l0 : w0.heap.size ≤ gl
  s0 : w0.heap.size ≤ gs
  il : gi ≠ gl
  is : gi ≠ gs
  ls : gl ≠ gs
  old : Below w0.heap.size w0 w
  blk : w.heap[gt]? = some (.cells #[fvT gb, .int .i64 0, .map (some gi), .map (some gl), .map (some gs), .slice none 0 0, .slice none 0 0] 152 (0, 0))
  mi : w.heap[gi]? = some (.map #[] 0)
  ml : w.heap[gl]? = some (.map #[] 0)
  ms : w.heap[gs]? = some (.map #[] 0)
theorem four_new (w : World) (o1 o2 o3 o4 : Obj) : ((((w.alloc o1).alloc o2).alloc o3).alloc o4).drew.heap[w.heap.size]? = some o1 ∧ ((((w.alloc o1).alloc o2).alloc o3).alloc o4).drew.heap[w.heap.size + 1]? = some o2 ∧ ((((w.alloc o1).alloc o2).alloc o3).alloc o4).drew.heap[w.heap.size + 1 + 1]? = some o3 ∧ ((((w.alloc o1).alloc o2).alloc o3).alloc o4).drew.heap[w.heap.size + 1 + 1 + 1]? = some o4 ∧
    Below w.heap.size w ((((w.alloc o1).alloc o2).alloc o3).alloc o4).drew := by
  refine ⟨?_, ?_, ?_, ?_, ((((Below.refl _ _).alloc (Nat.le_refl _) _).alloc (by simp) _).alloc (by simp; omega) _).alloc (by simp; omega) _ |>.drew⟩
  · exact (Below.heap_alloc _ _ _ (by simp; omega)).trans ((Below.heap_alloc _ _ _ (by simp; omega)).trans ((Below.heap_alloc _ _ _ (by simp)).trans (heap_alloc_new _ _)))
  · exact (Below.heap_alloc _ _ _ (by simp)).trans ((Below.heap_alloc _ _ _ (by simp)).trans (by have := heap_alloc_new (w.alloc o1) o2; simpa using this))
  · exact (Below.heap_alloc _ _ _ (by simp)).trans (by have := heap_alloc_new ((w.alloc o1).alloc o2) o3; simpa using this)
  · show ((((w.alloc o1).alloc o2).alloc o3).alloc o4).heap[w.heap.size + 1 + 1 + 1]? = some o4
    have := heap_alloc_new (((w.alloc o1).alloc o2).alloc o3) o4
    simpa using this
theorem NumOk.fresh {w : World} {gi : Nat} (h : w.heap[gi]? = some (.map #[] 0)) : NumOk w gi (fun _ => 0) 0 := by
  obtain ⟨D, ⟨es, clock, hb, hr⟩, h2, h3⟩ := (NumOk.made w).ex
  rw [heap_alloc_new] at hb
  simp only [Option.some.injEq, Obj.map.injEq] at hb
  obtain ⟨rfl, rfl⟩ := hb
  exact ⟨D, ⟨_, _, h, hr⟩, h2, h3⟩
theorem SetOk.fresh {w : World} {gs : Nat} (h : w.heap[gs]? = some (.map #[] 0)) : SetOk w gs [] := by
  obtain ⟨n, D, ⟨es, clock, hb, hr⟩, h2, h3⟩ := (SetOk.made w).ex
  rw [heap_alloc_new] at hb
  simp only [Option.some.injEq, Obj.map.injEq] at hb
  obtain ⟨rfl, rfl⟩ := hb
  exact ⟨n, D, ⟨_, _, h, hr⟩, h2, h3⟩
theorem ObjNew.to {w0 w : World} {gt gi gl gs gb : Nat} (h : ObjNew w0 w gt gi gl gs gb) : TO ⟨gt, gi, gl, gs, w.heap.size, fvT gb, w, .slice none 0 0, .slice none 0 0⟩ w TS.none (.slice none 0 0) (.slice none 0 0) [] :=
  ⟨h.blk, NumOk.fresh h.mi, NumOk.fresh h.ml, SetOk.fresh h.ms, World.ownsRow_nil _ _ _ _, ⟨World.ownsRow_nil _ _ _ _, rfl, fun i hi => absurd hi (Nat.not_lt_zero _)⟩, fun v hv => (by cases hv), h.il, h.is, h.ls,
    ⟨blk_lt h.blk, (NumOk.fresh h.mi).lt, (NumOk.fresh h.ml).lt, (SetOk.fresh h.ms).lt⟩, Nat.le_refl _, KeepF.refl _ _, .inl rfl, .inl rfl⟩
theorem GEnv.ok {wE : World} {gb base bp lo gt gi gl gs : Nat} {zs : List Int} {es : List S34} {p : Pl} (h0 : wE.heap.size ≤ gb) (hl : gb < lo) (ht : gb < gt) (hi : gb < gi) (hll : gb < gl) (hs : gb < gs) : EnvOk lo gt gi gl gs (GEnv wE gb base bp zs es p) :=
  fun w w' h hk => ⟨h.gr, fun k hk2 => (hk k (by omega) (by omega) (by omega) (by omega) (by omega)).trans (h.old k hk2), (hk gb hl (by omega) (by omega) (by omega) (by omega)).trans h.box⟩
/-- all nodes, at the i-th one -/
def ALp (adj : Int → List Int) (ns : List Int) (c : TA) (k : Nat) (r : TS) (vs : List Int) (wr : World) (i : Nat) : Prop :=
  ∃ s done ws st ov rows, vs = done ++ ws ∧ done.length = i ∧ TInv adj [] s ∧ TB ns s ∧ allT adj k ws s = some r ∧ TO c wr s st ov rows

attribute [local go_sem] run_store_f80
set_option maxHeartbeats 16000000 in
set_option maxRecDepth 100000 in
theorem tarjan_any (base bp : Nat) (zs : List Int) (es : List S34) (p : Pl) (w : World) (h : GrOk w base bp zs es p) (wf : ∀ x ∈ zs, (Lit.int .i64 x).wf = true) (k : Nat) (r : TS) (hr : allT (outN zs es) k (srt zs) TS.none = some r) :
    Calls Tryz.prog 57 #[.iface 64 (.agg #[.pointer (some ⟨bp, 0, none⟩)]), .nilFunc] w fun e w' => ∃ lv rows, e = .returned lv ∧ RwsV kpN w.heap.size w' lv rows r.out ∧ Below w.heap.size w w' := by
  have hn := h.hn
  have hb1 : Below w.heap.size w ((w.alloc (.cells #[.iface 64 (.agg #[.pointer (some ⟨bp, 0, none⟩)])] 108)).alloc (.cells #[.nilFunc] 125)) := ((Below.refl _ _).alloc (Nat.le_refl _) _).alloc (by simp) _
  have hk0 : ((w.alloc (.cells #[.iface 64 (.agg #[.pointer (some ⟨bp, 0, none⟩)])] 108)).alloc (.cells #[.nilFunc] 125)).heap[w.heap.size]? = some (.cells #[.iface 64 (.agg #[.pointer (some ⟨bp, 0, none⟩)])] 108 (0, 0)) := (Below.heap_alloc _ _ _ (by simp)).trans (heap_alloc_new _ _)
  have hk1 : ((w.alloc (.cells #[.iface 64 (.agg #[.pointer (some ⟨bp, 0, none⟩)])] 108)).alloc (.cells #[.nilFunc] 125)).heap[w.heap.size + 1]? = some (.cells #[.nilFunc] 125 (0, 0)) := by
    have := heap_alloc_new (w.alloc (.cells #[.iface 64 (.agg #[.pointer (some ⟨bp, 0, none⟩)])] 108)) (.cells #[.nilFunc] 125)
    simpa using this
  have hsz : ((w.alloc (.cells #[.iface 64 (.agg #[.pointer (some ⟨bp, 0, none⟩)])] 108)).alloc (.cells #[.nilFunc] 125)).heap.size = w.heap.size + 2 := by simp
  have hids : p.ids = srt zs := h.adj.ids
  have HG := Aside0.mk (h.below hb1)
  have HX := Aside0.mk (And.intro hb1 (And.intro hk0 (And.intro hk1 (And.intro hsz wf))))
  have HR := Aside0.mk (And.intro hr (And.intro h hids))
  have m1 := meth_DNodes ⟨bp, 0, none⟩
  have hpl : p.ids.length ≤ 1000 := by rw [hids, srt_length]; exact hn
  have mq := eq_nilFunc
  have rm1 := run_map150 p.ids.length
  have rm2 := run_map78
  have hz := objZero
  clear h wf hr hb1 hk0 hk1 hsz hids
  go_enter Tryz.func57, Tryz.ntmps57
  go_wp2_with (first
    | (go_at_call 201; refine (nodes_any base bp p _ HG.out.ok hpl).mono ?_; rintro e w1 ⟨b, rfl, hit, hbel⟩; have H1 := Aside0.mk (And.intro hit hbel); clear hit hbel)
    | (go_at_call 79; refine (nodesOf_any _ _ b p.ids _ H1.out.1 (by omega)).mono ?_; rintro e w2 ⟨vv, rfl, h1, h2, h3⟩; obtain ⟨AV, cV, rfl⟩ := own_slice h1; have hcc : w2.cell? ⟨w.heap.size + 1, 0, none⟩ = some .nilFunc := (blk_cell (((H1.out.2.trans (h3.below (by have := H1.out.2.size; omega))).block _ (by have := HX.out.2.2.2.1; omega)).trans HX.out.2.2.1) 0).trans rfl; have H2 := Aside0.mk (And.intro h1 (And.intro h2 h3)); clear h1 h2 h3))
  refine Code.wp_mono (Q := fun e a W => e = .normal ∧ ∃ gt gi gl gs, ObjNew w2 W gt gi gl gs w.heap.size ∧ a = ⟨#[.iface 64 (.agg #[.pointer (some ⟨bp, 0, none⟩)]), .nilFunc, .pointer (some ⟨w.heap.size, 0, none⟩), .pointer (some ⟨w.heap.size + 1, 0, none⟩), .slice none 0 0, .slice AV p.ids.length cV, fvT w.heap.size, .pointer (some ⟨gt, 0, none⟩), undef, undef,
    .iface 64 (.agg #[.pointer (some ⟨bp, 0, none⟩)]), .iface 255 (.pointer (some ⟨b, 0, none⟩)), .slice AV p.ids.length cV, .nilFunc, .bool true, fvT w.heap.size, undef, undef, undef, undef, undef, undef, fvT w.heap.size, .slice AV p.ids.length cV, .int .i64 p.ids.length, .map (some gi), .slice AV p.ids.length cV, .int .i64 p.ids.length, .map (some gl), .map (some gs),
    .agg #[fvT w.heap.size, .int .i64 0, .map (some gi), .map (some gl), .map (some gs), .slice none 0 0, .slice none 0 0], undef, undef, undef, undef, undef, undef, undef, undef, undef, undef, undef, undef, undef, undef, undef, undef, undef], []⟩) ?next ?made
  case made =>
    clear m1 mq hcc
    go_region_held3 (fun _ => True) (trivial) (fail)
    all_goals
      refine ⟨rfl, _, _, _, _, ?_, rfl⟩
      refine ⟨by omega, by omega, by omega, by omega, by omega, by omega, by omega, (four_new w2 _ _ _ _).2.2.2.2, ?_, ?_, ?_, ?_⟩
      all_goals first | exact (four_new w2 _ _ _ _).1 | exact (four_new w2 _ _ _ _).2.1 | exact (four_new w2 _ _ _ _).2.2.1 | exact (four_new w2 _ _ _ _).2.2.2.1
  case next =>
    clear mq rm1 rm2 hz hcc m1
    rintro _ _ W ⟨rfl, gt, gi, gl, gs, hO, rfl⟩
    have hw2 : w.heap.size + 2 ≤ w2.heap.size := by
      have h1 := HX.out.2.2.2.1
      have h2 := H1.out.2.size
      have h3 := H2.out.2.2.size
      omega
    have hbW : Below w.heap.size w W := (HX.out.1.trans ((H1.out.2.trans (H2.out.2.2.below H1.out.2.size)).mono (by have := HX.out.2.2.2.1; omega))).trans (hO.old.mono (by omega))
    have hbox : W.heap[w.heap.size]? = some (.cells #[.iface 64 (.agg #[.pointer (some ⟨bp, 0, none⟩)])] 108 (0, 0)) :=
      (hO.old.block _ (by omega)).trans (((H1.out.2.trans (H2.out.2.2.below H1.out.2.size)).block _ (by have := HX.out.2.2.2.1; omega)).trans HX.out.2.1)
    have HENV := Aside0.mk (show GEnv w w.heap.size base bp zs es p W from ⟨HR.out.2.1, fun q hq => hbW.block q hq, hbox⟩)
    have HWL := hO.old.size
    have h1t := hO.t0
    have h1i := hO.i0
    have h1l := hO.l0
    have h1s := hO.s0
    have HEO := Aside0.mk (show EnvOk W.heap.size gt gi gl gs (GEnv w w.heap.size base bp zs es p) from GEnv.ok (Nat.le_refl _) (by omega) (by omega) (by omega) (by omega) (by omega))
    have HIN := Aside0.mk (show ∀ u, ∀ x ∈ outN zs es u, x ∈ srt zs from fun u x hx => (mem_srt _ _).2 (outN_mem' hx).1)
    have HSC := Aside0.mk (strong_all (outN zs es) (fun u => by have := outN_len zs es u; omega) (srt zs) W.heap.size gt gi gl gs w.heap.size (GEnv w w.heap.size base bp zs es p) (by rw [srt_length]; exact hn) (fun x hx => HX.out.2.2.2.2 x ((mem_srt _ _).1 hx)) HIN.out (fun w' v hE hv => succ80_any w w.heap.size base bp zs es p w' v hE ((mem_srt _ _).1 hv)) HEO.out k)
    have HT := Aside0.mk hO.to
    have HO := Aside0.mk hO
    have HB := Aside0.mk hbW
    have HI := Aside0.mk (show ALp (outN zs es) (srt zs) ⟨gt, gi, gl, gs, W.heap.size, fvT w.heap.size, W, .slice none 0 0, .slice none 0 0⟩ k r p.ids W 0 from ⟨TS.none, [], p.ids, _, _, _, rfl, rfl, TInv.none _, TB.none _, by rw [HR.out.2.2]; exact HR.out.1, hO.to⟩)
    clear hO hbW hbox
    go_wp2_with fail
    go_loopw [33] (fun v33 wr => ∃ i : Nat, v33 = .int .i64 i ∧ i ≤ p.ids.length ∧ Aside0 (ALp (outN zs es) (srt zs) ⟨gt, gi, gl, gs, W.heap.size, fvT w.heap.size, W, .slice none 0 0, .slice none 0 0⟩ k r p.ids wr i)) (fun v33 _ => p.ids.length + 1 - (intOf v33).toNat)
    case atStart => exact ⟨0, rfl, Nat.zero_le _, HI⟩
    case round =>
      clear HI
      obtain ⟨i, rfl, hi, hrel⟩ := hrel
      obtain ⟨s, done, ws, st, ov, rows, hsp, hdl, hinv, htb, hal, hto⟩ := hrel.out
      by_cases hlt : i < p.ids.length
      · have hdk : decide ((i : Int) < (p.ids.length : Int)) = true := decide_eq_true (by omega)
        obtain ⟨x, ws', hws⟩ : ∃ x ws', ws = x :: ws' := by
          cases ws with
          | nil => rw [hsp, List.length_append] at hlt; simp at hlt; omega
          | cons x ws' => exact ⟨x, ws', rfl⟩
        subst hws
        have hxa : p.ids[i]? = some x := by rw [hsp, List.getElem?_append_right (by omega), hdl, Nat.sub_self]; rfl
        obtain ⟨gA, ccA, hvv, -, hcA, ⟨cur, hcur⟩⟩ := own_cells H2.out.1 (by omega)
        simp only [Value.slice.injEq] at hvv
        obtain ⟨rfl, -, rfl⟩ := hvv
        have hgA := blk_lt hcur
        have hcell : wr.cell? ⟨gA, i, none⟩ = some (.iface 97 (.int .i64 x)) := by
          have e1 : W.heap[gA]? = w2.heap[gA]? := HO.out.old.block gA hgA
          have e2 : wr.heap[gA]? = W.heap[gA]? := (TQ.kp hto).block gA (by show gA < W.heap.size; omega) (fun hm => by
            rcases hm with e | e | e | e | e | e
            · dsimp only at e; omega
            · dsimp only at e; omega
            · dsimp only at e; omega
            · dsimp only at e; omega
            · cases e
            · cases e)
          rw [World.cell?_of_block (e2.trans e1)]
          refine hcA i _ ?_
          unfold nodeVs
          rw [List.getElem?_map, hxa]
          rfl
        have hxz : x ∈ srt zs := by rw [← HR.out.2.2, hsp]; simp
        have hxw := HX.out.2.2.2.2 x ((mem_srt _ _).1 hxz)
        have m2 := meth_ID x
        have p2 : wr.cell? ⟨gt, 2, none⟩ = some (.map (some gi)) := (TQ.cells hto).2.2.1
        have hL := (TQ.ni (TQ.below hto (Below.refl _ _).drew)).look hxw
        dsimp only at hL
        have i0' : (0 : Int) ≤ (i : Int) := by omega
        have i1' : (i : Int) < (p.ids.length : Int) := by omega
        have HTO := Aside0.mk (TQ.below hto (Below.refl _ _).drew)
        have HS := Aside0.mk (And.intro hsp (And.intro hdl (And.intro hinv (And.intro htb hal))))
        clear hrel hto hsp hdl hinv htb hal hxa hcA hcur
        by_cases hn0 : s.num x = 0
        · have hb0 : ((s.num x : Int) == 0) = true := by simp [hn0]
          obtain ⟨s2, hs2, hal2⟩ : ∃ s2, strongT (outN zs es) k x s = some s2 ∧ allT (outN zs es) k ws' s2 = some r := by
            have a := HS.out.2.2.2.2
            rw [allT, if_pos hn0] at a
            exact Option.bind_eq_some_iff.1 a
          have HS2 := Aside0.mk (And.intro hs2 hal2)
          have HENV2 := Aside0.mk (HEO.out W wr.drew HENV.out (fun q a1 a2 a3 a4 a5 => (TQ.kp HTO.out).block q a1 (fun hm => by
            rcases hm with e | e | e | e | e | e
            · exact a2 e
            · exact a3 e
            · exact a4 e
            · exact a5 e
            · cases e
            · cases e)))
          clear hs2 hal2
          go_wp2_with fail
          go_region_held3 (fun w' => w'.cell? ⟨gt, 2, none⟩ = some (.map (some gi))) (go_keep) (first | (go_at_call 202; refine (nodeID_any x _).mono ?_; rintro e wi ⟨rfl, rfl⟩))
          go_wp2_with (go_at_call 83; refine (HSC.out [] x s s2 wr.drew st ov rows HS.out.2.2.1 hn0 (fun y hy => by cases hy) hxz HS.out.2.2.2.1 HS2.out.1 HENV2.out (TQ.restart HTO.out)).mono ?_; rintro e w7 ⟨rfl, st2, ov2, rows2, hto2⟩; have HC := Aside0.mk (TQ.resume HTO.out hto2); clear hto2)
          have hp := strongT_ok (outN zs es) k [] x s s2 HS.out.2.2.1 hn0 (fun y hy => by cases hy) HS2.out.1
          have htb2 := strongT_tb HIN.out k [] x s s2 HS.out.2.2.1 hn0 (fun y hy => by cases hy) hxz HS.out.2.2.2.1 HS2.out.1
          exact ⟨⟨i + 1, by simp, by omega, ⟨s2, done ++ [x], ws', st2, ov2, rows2, by rw [HS.out.1]; simp, by simp [HS.out.2.1], hp.inv, htb2, HS2.out.2, HC.out⟩⟩, by simp [intOf]; omega⟩
        · have hb0 : ((s.num x : Int) == 0) = false := by rw [beq_eq_false_iff_ne]; omega
          have hal2 : allT (outN zs es) k ws' s = some r := by
            have a := HS.out.2.2.2.2
            rw [allT, if_neg hn0] at a
            exact a
          have HS2 := Aside0.mk hal2
          clear hal2
          go_wp2_with fail
          go_region_held3 (fun w' => w'.cell? ⟨gt, 2, none⟩ = some (.map (some gi))) (go_keep) (first | (go_at_call 202; refine (nodeID_any x _).mono ?_; rintro e wi ⟨rfl, rfl⟩))
          go_wp2
          exact ⟨⟨i + 1, by simp, by omega, ⟨s, done ++ [x], ws', st, ov, rows, by rw [HS.out.1]; simp, by simp [HS.out.2.1], HS.out.2.2.1, HS.out.2.2.2.1, HS2.out, HTO.out⟩⟩, by simp [intOf]; omega⟩
      · have hdk : decide ((i : Int) < (p.ids.length : Int)) = false := decide_eq_false (by omega)
        obtain rfl : ws = [] := by
          cases ws with
          | nil => rfl
          | cons x ws' => rw [hsp, List.length_append, List.length_cons] at hlt; omega
        simp only [allT, Option.some.injEq] at hal
        subst hal
        have p6 : wr.cell? ⟨gt, 6, none⟩ = some ov := (TQ.cells hto).2.2.2.2.2.2
        have HTO := Aside0.mk hto
        clear hrel hto hsp hdl hinv htb
        go_wp2
        go_ret
        refine ⟨ov, rows, rfl, RwsV.mono (TQ.out HTO.out) (by have := HB.out.size; dsimp only; omega), HB.out.trans ((TQ.kp HTO.out).below (by dsimp only; omega) (fun q hq => by
          rcases hq with e | e | e | e | e | e
          · dsimp only at e; omega
          · dsimp only at e; omega
          · dsimp only at e; omega
          · dsimp only at e; omega
          · cases e
          · cases e))⟩
end Go.Proofs.YtolbfjjgdheikaaGreat.R

/- oneWay: a directed graph is opened. -/
namespace Go.Proofs.YtolbfjjgdheikaaGreat.R
open Go.RowKit Go.Lab Go.Maps Go.Proofs.YtolbfjjgdheikaaGreatW.PrintWords Go.Proofs.YtolbfjjgdheikaaGreatW.PrintLast Go.Proofs.YtolbfjjgdheikaaGreatW.PrintMore PL

set_option maxHeartbeats 2000000 in
theorem oneWay_any (d : Bool) (A1 A2 : Option Addr) (c1 c2 : Nat) (zs : List Int) (es : List S34) (w : World)
    (hN : Kd.C (Kd.int .i64) w A1 zs.length zs) (hE : Kd.C k34 w A2 es.length es) (hn : zs.length ≤ 1000) (he : es.length ≤ 1000000) :
    Calls Tryz.prog 35 #[.agg #[.bool d, .slice A1 zs.length c1, .slice A2 es.length c2]] w fun e w' => ∃ base bp, e = .returned (.tuple #[.agg #[.pointer (some ⟨bp, 0, none⟩)], .bool (readOk zs es && d)]) ∧ Below w.heap.size w w' ∧ (readOk zs es = true → PlOk w' base bp (plOf d zs es)) := by
  have hb1 : Below w.heap.size w ((w.alloc (.cells #[.bool d, .slice A1 zs.length c1, .slice A2 es.length c2] 25)).alloc (.cells #[.pointer none] 64)) := ((Below.refl _ _).alloc (Nat.le_refl _) _).alloc (by simp) _
  have HN := Aside0.mk (Kd.C_below hN hb1)
  have HE := Aside0.mk (Kd.C_below hE hb1)
  have HB := Aside0.mk hb1
  clear hN hE hb1
  obtain ⟨rb, hrb⟩ : ∃ rb, readOk zs es = rb := ⟨_, rfl⟩
  rw [hrb]
  have HRB := Aside0.mk hrb
  clear hrb
  go_enter Tryz.func35, Tryz.ntmps35
  go_wp2_with (go_at_call 52; refine (read_any2 d A1 A2 c1 c2 zs es _ HN.out HE.out hn he).mono ?_; rintro e w1 ⟨rfl, hbel, _, hpl⟩; rw [HRB.out] at hpl ⊢; have HR := Aside0.mk (And.intro hbel hpl); have HRO := Aside0.mk hpl; clear hpl)
  have hz : ((w.alloc (.cells #[.bool d, .slice A1 zs.length c1, .slice A2 es.length c2] 25)).alloc (.cells #[.pointer none] 64)).heap.size = w.heap.size + 2 := by simp
  have hk0 : ((w.alloc (.cells #[.bool d, .slice A1 zs.length c1, .slice A2 es.length c2] 25)).alloc (.cells #[.pointer none] 64)).heap[w.heap.size]? = some (.cells #[.bool d, .slice A1 zs.length c1, .slice A2 es.length c2] 25 (0, 0)) :=
    (((Below.refl _ (w.alloc (.cells #[.bool d, .slice A1 zs.length c1, .slice A2 es.length c2] 25))).alloc (Nat.le_refl _) _).block _ (by simp)).trans (heap_alloc_new _ _)
  have hk1 : ((w.alloc (.cells #[.bool d, .slice A1 zs.length c1, .slice A2 es.length c2] 25)).alloc (.cells #[.pointer none] 64)).heap[w.heap.size + 1]? = some (.cells #[.pointer none] 64 (0, 0)) := by
    have := heap_alloc_new (w.alloc (.cells #[.bool d, .slice A1 zs.length c1, .slice A2 es.length c2] 25)) (.cells #[.pointer none] 64)
    simpa using this
  replace hk0 := (hbel.block w.heap.size (by simp; omega)).trans hk0
  replace hk1 := (hbel.block (w.heap.size + 1) (by simp)).trans hk1
  have hc0 : w1.cell? ⟨w.heap.size, 0, none⟩ = some (.bool d) := (blk_cell hk0 0).trans rfl
  have hc1 : w1.cell? ⟨w.heap.size + 1, 0, none⟩ = some (.pointer none) := (blk_cell hk1 0).trans rfl
  have hf1 : w1.frozen? ⟨w.heap.size + 1, 0, none⟩ = false := blk_frozen hk1 0
  have hlt := hbel.size
  rw [hz] at hlt HRO
  have hBB : Below w.heap.size w w1 := HB.out.trans (hbel.mono (by rw [hz]; omega))
  have HX := Aside0.mk (And.intro hBB (And.intro hk1 HRO.out))
  clear hbel hk0 hk1 hz HR HRO hBB
  have hfin : ∀ W : World, W.heap = (w1.setCell ⟨w.heap.size + 1, 0, none⟩ (.pointer (some ⟨w.heap.size + 1 + 1 + 1, 0, none⟩))).heap → W.os = w1.os → W.tape = w1.tape → W.output = w1.output → Below w.heap.size w W ∧ (rb = true → PlOk W (w.heap.size + 2) (w.heap.size + 3) (plOf d zs es)) ∧ W.cell? ⟨w.heap.size + 1, 0, none⟩ = some (.pointer (some ⟨w.heap.size + 1 + 1 + 1, 0, none⟩)) := by
    intro W h1 h2 h3 h4
    have hb2 : Below (w.heap.size + 1) w1 W := ⟨h2, h3, h4, by rw [h1]; simp [World.setCell], fun k hk => by rw [h1]; exact Below.heap_setCell _ _ _ _ (by simp; omega)⟩
    refine ⟨HX.out.1.trans (hb2.mono (by omega)), fun hr => ?_, ?_⟩
    · obtain ⟨ro, ri, vi, vo, vn, hp⟩ := HX.out.2.2 hr
      have hkk : ∀ k, w.heap.size + 2 ≤ k → W.heap[k]? = w1.heap[k]? := fun k hk => by rw [h1]; exact Below.heap_setCell _ _ _ _ (by simp; omega)
      have hoo : ∀ {e : TypeId} {size n : Nat} {v : Value} {xs : List Value}, w1.ownsRow (w.heap.size + 2) e size v n xs → W.ownsRow (w.heap.size + 2) e size v n xs := fun h => own_move h fun k hk => hkk k (own_base h k hk)
      exact ⟨ro, ri, vi, vo, vn, ⟨(hkk _ hp.hb).trans hp.blk, hp.hb, hoo hp.ids, ⟨hoo hp.rows.a, hoo hp.rows.b, hp.rows.la, hp.rows.lb, fun i hi => hoo (hp.rows.rowA i hi), fun i hi => hoo (hp.rows.rowB i hi), hp.rows.sepT, hp.rows.sepA, hp.rows.sepB, hp.rows.sepAB⟩, hp.po, hp.pi⟩⟩
    · have := blk_set HX.out.2.1 0 (.pointer (some ⟨w.heap.size + 1 + 1 + 1, 0, none⟩))
      rw [World.cell?_of_block (w := w1.setCell ⟨w.heap.size + 1, 0, none⟩ (.pointer (some ⟨w.heap.size + 1 + 1 + 1, 0, none⟩))) (by rw [h1]), blk_cell this]
      rfl
  have HFIN := Aside0.mk hfin
  clear hfin
  cases rb <;> cases d
  all_goals
    go_region
  all_goals
    go_wp2
    obtain ⟨hf1, hf2, hf3⟩ := HFIN.out (World.drew (w1.setCell ⟨w.heap.size + 1, 0, none⟩ (.pointer (some ⟨w.heap.size + 1 + 1 + 1, 0, none⟩)))) rfl rfl rfl rfl
    refine bodyPost_ret (v := .tuple #[.agg #[.pointer (some ⟨w.heap.size + 1 + 1 + 1, 0, none⟩)], .bool _]) (by simp [results, Tryz.results35, go_sem, *]) rfl ⟨w.heap.size + 2, w.heap.size + 3, rfl, hf1, by first | exact hf2 | exact hf2 trivial | exact hf2 rfl | trivial | simp⟩
end Go.Proofs.YtolbfjjgdheikaaGreat.R

/- impl.SCC. -/
namespace Go.Proofs.YtolbfjjgdheikaaGreat.R
open Go.RowKit Go.Lab Go.Maps Go.Proofs.YtolbfjjgdheikaaGreatW.PrintWords Go.Proofs.YtolbfjjgdheikaaGreatW.PrintLast Go.Proofs.YtolbfjjgdheikaaGreatW.PrintMore PL

theorem SccOk.lens {adj : Int → List Int} {ns : List Int} {out : List (List Int)} (h : SccOk adj ns out) (hsub : ∀ c ∈ out, ∀ x ∈ c, x ∈ ns) : out.length ≤ ns.length ∧ ∀ c ∈ out, c.length ≤ ns.length := by
  refine ⟨?_, fun c hc => nodup_len (h.comp c hc).1 (hsub c hc)⟩
  have hd : ∀ c ∈ out, c.headD 0 ∈ c := fun c hc => by
    obtain ⟨_, r, hr, _⟩ := h.comp c hc
    cases c with
    | nil => cases hr
    | cons a l => simp
  have hnd : (out.map fun c => c.headD 0).Nodup := List.pairwise_map.2 (h.dis.imp_of_mem fun {a b} ha hb hab e => hab _ (hd a ha) (e ▸ hd b hb))
  have := nodup_len (xs := ns) hnd (fun x hx => by
    obtain ⟨c, hc, rfl⟩ := List.mem_map.1 hx
    exact hsub c hc _ (hd c hc))
  rwa [List.length_map] at this

set_option maxHeartbeats 4000000 in
set_option maxRecDepth 100000 in
theorem scc36_any (base bp : Nat) (zs : List Int) (es : List S34) (p : Pl) (w : World) (h : GrOk w base bp zs es p) (wf : ∀ x ∈ zs, (Lit.int .i64 x).wf = true) (k : Nat) (r : TS) (hr : allT (outN zs es) k (srt zs) TS.none = some r) :
    Calls Tryz.prog 36 #[.iface 64 (.agg #[.pointer (some ⟨bp, 0, none⟩)])] w fun e w' => ∃ lv rows, e = .returned lv ∧ RwsV kpN w.heap.size w' lv rows r.out ∧ Below w.heap.size w w' := by
  go_enter Tryz.func36, Tryz.ntmps36
  go_wp2_with (go_at_call 57; refine (tarjan_any base bp zs es p w h wf k r hr).mono ?_; rintro e w1 ⟨lv, rows, rfl, hrw, hb⟩; have H1 := Aside0.mk (And.intro hrw hb); clear hrw hb)
  go_ret
  exact ⟨lv, rows, rfl, H1.out.1, H1.out.2⟩

set_option maxHeartbeats 4000000 in
set_option maxRecDepth 100000 in
theorem scc_good (A1 A2 : Option Addr) (c1 c2 : Nat) (zs : List Int) (es : List S34) (w : World) (hN : Kd.C (Kd.int .i64) w A1 zs.length zs) (hE : Kd.C k34 w A2 es.length es) (hn : zs.length ≤ 1000) (he : es.length ≤ 1000000)
    (wf : ∀ x ∈ zs, (Lit.int .i64 x).wf = true) (hro : readOk zs es = true) (r : TS) (hr : allT (outN zs es) 1000 (srt zs) TS.none = some r) :
    Calls Tryz.prog 16 #[.agg #[.bool true, .slice A1 zs.length c1, .slice A2 es.length c2]] w fun e w' => ∃ v rows, e = .returned (.tuple #[v, .bool false]) ∧ RwsV kpI w.heap.size w' v rows (r.out.map srt) ∧ Below w.heap.size w w' := by
  obtain ⟨r', hr', hok, _, hsub⟩ := sccs_all (adj := outN zs es) (ns := srt zs) (fun u x hx => (mem_srt _ _).2 (outN_mem' hx).1) 1000 (by rw [srt_length]; exact hn)
  rw [hr] at hr'
  obtain rfl := Option.some.inj hr'
  have hln := hok.lens hsub
  rw [srt_length] at hln
  obtain ⟨ps, hps⟩ : ∃ ps, r.out = ps := ⟨_, rfl⟩
  rw [hps] at hln
  have HPS := Aside0.mk hps
  have hpn : ps.length ≤ 100000 := by have := hln.1; omega
  have HL := Aside0.mk (show ∀ q ∈ ps, q.length ≤ 100000 from fun q hq => by have := hln.2 q hq; omega)
  have hb1 : Below w.heap.size w (w.alloc (.cells #[.bool true, .slice A1 zs.length c1, .slice A2 es.length c2] 25)) := (Below.refl _ _).alloc (Nat.le_refl _) _
  have HN := Aside0.mk (Kd.C_below hN hb1)
  have HE := Aside0.mk (Kd.C_below hE hb1)
  have HB1 := Aside0.mk hb1
  have HR := Aside0.mk hr
  have HWF := Aside0.mk wf
  have hrd : (readOk zs es && true) = true := by rw [hro]; rfl
  have HRD := Aside0.mk (And.intro hrd hro)
  obtain ⟨i0, hi, hz0, hz1, hz2⟩ := info_parts Tryz.info22
  have HI := Aside0.mk (And.intro hi (And.intro hz0 (And.intro hz1 hz2)))
  clear hN hE hb1 hok hsub hln hps hr wf hrd hro hi hz0 hz1 hz2
  go_enter Tryz.func16, Tryz.ntmps16
  go_wp2_with (first
    | (go_at_call 35; refine (oneWay_any true A1 A2 c1 c2 zs es _ HN.out HE.out hn he).mono ?_; rintro e w1 ⟨base, bp, rfl, hbel, hpl⟩; rw [HRD.out.1]; have H1 := Aside0.mk (And.intro hbel (show GrOk w1 base bp zs es (plOf true zs es) from GrOk.mk' (w := w) (d := true) hn HRD.out.2 (hpl HRD.out.2))); clear hbel hpl)
    | (go_at_call 36; refine (scc36_any base bp zs es _ _ (H1.out.2.below ((Below.refl _ _).alloc (Nat.le_refl _) _)) HWF.out 1000 r HR.out).mono ?_; rintro e w2 ⟨lv, rows, rfl, hrw, hb2⟩; rw [HPS.out] at hrw; obtain ⟨A, c, rfl⟩ := own_slice hrw.own; have H2 := Aside0.mk (And.intro hrw hb2); have hz2 := hb2.size; clear hrw hb2))
  have HRL := Aside0.mk (show rows.length = ps.length from H2.out.1.len)
  have hnr : rows.length ≤ 100000 := by rw [HRL.out]; exact hpn
  obtain ⟨lo2, hlo2⟩ : ∃ lo2, (w1.alloc (Obj.cells #[Value.pointer (some ⟨bp, 0, none⟩)] 64)).heap.size = lo2 := ⟨_, rfl⟩
  have HH := Aside0.mk (show RwsV kpN lo2 w2 (.slice A rows.length c) rows ps from by rw [← hlo2]; exact H2.out.1)
  clear hlo2 hpn
  go_loopw [2, 20] (fun v i wr => ∃ k : Nat, k ≤ rows.length ∧ i = .int .i64 k ∧ Aside0 (∃ rows', RwsV kpI w2.heap.size wr v rows' ((ps.take k).map srt) ∧ Below w2.heap.size w2 wr)) (fun _ i _ => rows.length - (intOf i).toNat)
  case atStart => exact ⟨0, Nat.zero_le _, rfl, ⟨[], ⟨World.ownsRow_nil _ _ _ _, rfl, fun i hi => absurd hi (Nat.not_lt_zero _)⟩, Below.refl _ _⟩⟩
  case round =>
    obtain ⟨k, hk, rfl, HR0⟩ := hrel
    obtain ⟨rows', hR, hB⟩ := HR0.out
    have hlen : rows'.length = k := by rw [hR.len, List.length_map, List.length_take, ← HRL.out]; omega
    obtain ⟨V, C, hV⟩ := own_slice hR.own
    rw [hlen] at hV
    subst hV
    have HR := Aside0.mk hR
    have HRO := Aside0.mk (show wr.ownsRow w2.heap.size 22 1 (.slice V k C) k rows' by have h9 : wr.ownsRow w2.heap.size 22 1 (.slice V k C) rows'.length rows' := hR.own; rw [hlen] at h9; exact h9)
    have HB := Aside0.mk hB
    have hbw := hB.size
    have HLEN := Aside0.mk hlen
    clear hlen
    by_cases hlt : k < rows.length
    · obtain ⟨g, c', he, hc', hcell, hcur⟩ := own_cells HH.out.own (by omega)
      obtain ⟨cur, hcur⟩ := hcur
      simp only [Value.slice.injEq] at he
      obtain ⟨rfl, _, rfl⟩ := he
      have hgl := blk_lt hcur
      have hce : wr.cell? ⟨g, k, none⟩ = some rows[k] := by
        rw [World.cell?_of_block (hB.block g hgl)]
        exact hcell k _ (by simp [hlt])
      have hrow := HH.out.each k hlt
      have hpk : ps.getD k [] ∈ ps := by
        rw [List.getD_eq_getElem?_getD, List.getElem?_eq_getElem (by rw [← HRL.out]; exact hlt)]; exact List.getElem_mem _
      have hpt : (ps.take (k + 1)).map srt = (ps.take k).map srt ++ [srt (ps.getD k [])] := by
        rw [List.take_succ_eq_append_getElem (by rw [← HRL.out]; exact hlt), List.map_append, List.getD_eq_getElem?_getD, List.getElem?_eq_getElem (by rw [← HRL.out]; exact hlt)]; rfl
      have HPT := Aside0.mk hpt
      have hpl := HL.out _ hpk
      have hrowS : wr.ownsRow lo2 72 1 rows[k] (ps.getD k []).length (nodeVs (ps.getD k [])) := own_of_heap hrow fun q hq => hB.block q (by obtain ⟨cc, hcc⟩ := own_block hrow hq; exact blk_lt hcc)
      obtain ⟨A2, c2, hrk⟩ := own_slice hrowS
      rw [hrk] at hce hrowS
      have HROW := Aside0.mk hrowS
      clear hpt hpk hrow hrowS hrk hcell hcur hR hB HR0
      obtain ⟨q, hq⟩ : ∃ q, ps.getD k [] = q := ⟨_, rfl⟩
      rw [hq] at HPT HROW hpl hce
      clear hq
      have hno : ∀ u : Value, w2.heap.size ≤ w2.heap.size := fun _ => Nat.le_refl _
      go_wp2_with (first
        | (go_at_call 37; refine (numbers_any lo2 _ q _ HROW.out hpl).mono ?_; rintro e w1 ⟨v1, rfl, ho1, hb1⟩; obtain ⟨B1, d1, rfl⟩ := own_slice ho1; have H1 := Aside0.mk (And.intro ho1 hb1); clear ho1 hb1)
        | (go_at_call 38; refine (sortI_own wr.heap.size _ q _ H1.out.1 hpl).mono ?_; rintro e wS ⟨rfl, ho2, hg2⟩; have H2 := Aside0.mk (And.intro ho2 hg2); have hz2 : wr.heap.size ≤ wS.heap.size := Nat.le_trans H1.out.2.size hg2.size; have HO2 := Aside0.mk (show ∀ k, k < wr.heap.size → wS.heap[k]? = wr.heap[k]? from fun k hk => (hg2.block k (Nat.lt_of_lt_of_le hk H1.out.2.size) (fun e => by have := own_base H1.out.1 k e.symm; omega)).trans (H1.out.2.block k hk)); clear ho2 hg2)
        | (at_builtin; refine wpList_append_own_at _ rfl _ _ 29 rfl w2.heap.size 22 i0 (.slice none 0 0) 1 24 Tryz.underlying29 HI.out.1 HI.out.2.1 HI.out.2.2.1 HI.out.2.2.2 rfl (by decide) _ k rows' rfl (World.ownsRow.alloc (own_of_heap HRO.out (fun q hq => HO2.out q (by obtain ⟨cc, hcc⟩ := own_block HRO.out hq; exact blk_lt hcc))) _) ⟨wS.heap.size, 0, none⟩ 1 1 [.slice B1 q.length d1] rfl rfl (cell_one_new _ _ _) ?q2 ?q3 ?q4 ?q5 ?_))
      case q2 => intro u hu; simp at hu; subst hu; rfl
      case q3 => unfold maxLen; omega
      case q4 => omega
      case q5 => simp; omega
      intro v' w3 hown hgr _ hat
      obtain ⟨A', c', rfl⟩ := own_slice hown
      have H3 := Aside0.mk (And.intro hown hgr)
      clear hown hgr hat
      go_wp2
      go_roundw
      case rel =>
        obtain ⟨hown, hgr⟩ := H3.out
        have keep : ∀ {u : Value} {n : Nat} {ys : List Value} {b : Nat}, wS.ownsRow b 3 1 u n ys → w3.ownsRow b 3 1 u n ys := fun h => own_of_heap h fun k hk => by
          obtain ⟨c1, hc1⟩ := own_block h hk
          refine (hgr.block k (by have := blk_lt hc1; simp; omega) (fun e => ?_)).trans (Below.heap_alloc _ _ _ (blk_lt hc1))
          obtain ⟨c2, hc2⟩ := own_block HRO.out e.symm
          rw [HO2.out k (blk_lt hc2)] at hc1
          exact absurd (blk_type hc1 hc2) (by decide)
        refine ⟨k + 1, by omega, by go_num, ⟨rows' ++ [.slice B1 q.length d1], ?_, ?_⟩⟩
        · rw [HPT.out]
          refine RwsV.snoc (by rw [List.length_append, HLEN.out]; exact hown) HR.out.len (fun i hi => ?_) ?_
          · exact keep (own_of_heap (HR.out.each i hi) (fun q hq => HO2.out q (by obtain ⟨cc, hcc⟩ := own_block (HR.out.each i hi) hq; exact blk_lt hcc)))
          · have h9 := own_weaken (keep H2.out.1) hbw
            show w3.ownsRow w2.heap.size 3 1 _ (srt q).length (nums .i64 (srt q))
            rw [srt_length]
            exact h9
        · exact ((((HB.out.trans (H1.out.2.mono hbw)).grown H2.out.2 (Nat.le_trans hbw H1.out.2.size) (fun q hq => Nat.le_trans hbw (own_base H1.out.1 q hq))).alloc (by omega) _).grown hgr (by simp; omega) (fun q hq => own_base HR.out.own q hq))
      case measure => simp [intOf]; omega
    · have hk' : k = rows.length := by omega
      have htk : (ps.take k).map srt = ps.map srt := by rw [List.take_of_length_le (by rw [← HRL.out]; omega)]
      rw [htk] at hR
      have HR9 := Aside0.mk hR
      clear hR htk hk'
      go_wp2
      go_ret2
      have hz1 := H1.out.1.size
      simp at hz1 hz2
      refine ⟨.slice V k C, rows', rfl, by rw [HPS.out]; exact HR9.out.mono (by omega), ?_⟩
      have k1 := HB1.out.trans (H1.out.1.mono (by simp))
      have k2 := k1.alloc (by omega) (.cells #[.pointer (some ⟨bp, 0, none⟩)] 64)
      exact (k2.trans (H2.out.2.mono (by simp; omega))).trans (HB.out.mono (by omega))

set_option maxHeartbeats 4000000 in
set_option maxRecDepth 100000 in
theorem scc_bad (d : Bool) (A1 A2 : Option Addr) (c1 c2 : Nat) (zs : List Int) (es : List S34) (w : World) (hN : Kd.C (Kd.int .i64) w A1 zs.length zs) (hE : Kd.C k34 w A2 es.length es) (hn : zs.length ≤ 1000) (he : es.length ≤ 1000000) (hro : (readOk zs es && d) = false) :
    Calls Tryz.prog 16 #[.agg #[.bool d, .slice A1 zs.length c1, .slice A2 es.length c2]] w fun e w' => e = .returned (.tuple #[.slice none 0 0, .bool true]) ∧ Below w.heap.size w w' := by
  have hb1 : Below w.heap.size w (w.alloc (.cells #[.bool d, .slice A1 zs.length c1, .slice A2 es.length c2] 25)) := (Below.refl _ _).alloc (Nat.le_refl _) _
  have HN := Aside0.mk (Kd.C_below hN hb1)
  have HE := Aside0.mk (Kd.C_below hE hb1)
  have HB := Aside0.mk hb1
  have HRD := Aside0.mk hro
  clear hN hE hb1 hro
  go_enter Tryz.func16, Tryz.ntmps16
  go_wp2_with (go_at_call 35; refine (oneWay_any d A1 A2 c1 c2 zs es _ HN.out HE.out hn he).mono ?_; rintro e w1 ⟨base, bp, rfl, hbel, hpl⟩; rw [HRD.out]; have H1 := Aside0.mk hbel; have hz1 := hbel.size; clear hbel hpl)
  go_ret2
  simp at hz1
  exact ⟨rfl, (HB.out.trans (H1.out.mono (by simp))).alloc (by omega) _⟩
end Go.Proofs.YtolbfjjgdheikaaGreat.R

namespace Go.Proofs.YtolbfjjgdheikaaGreat.PL
open Go.RowKit Go.Lab Go.Proofs.YtolbfjjgdheikaaGreatW.PrintWords Go.Proofs.YtolbfjjgdheikaaGreatW.PrintLast Go.Proofs.YtolbfjjgdheikaaGreatW.PrintMore
def impl_SCC.f (a0_0 : Bool) (l0_1 : List Int) (l0_2 : List S34) : Option (List (List Int) × Bool) :=
  if l0_1.length ≤ 90 ∧ l0_2.length ≤ 1000000 ∧ (l0_1.all fun x => (Lit.int .i64 x).wf) = true then
    if (R.readOk l0_1 l0_2 && a0_0) = true then (R.allT (R.outN l0_1 l0_2) 1000 (srt l0_1) R.TS.none).map fun r => (r.out.map srt, false)
    else some ([], true)
  else none
theorem impl_SCC.calls (a0_0 : Bool) (A0_1 : Option Addr) (c0_1 : Nat) (l0_1 : List Int) (A0_2 : Option Addr) (c0_2 : Nat) (l0_2 : List S34) (r1 : List (List Int)) (r2 : Bool) (w : World)
    (hr0_1 : Kd.C (Kd.int .i64) w A0_1 l0_1.length l0_1) (hc0_1 : l0_1.length ≤ c0_1) (hr0_2 : Kd.C k34 w A0_2 l0_2.length l0_2) (hc0_2 : l0_2.length ≤ c0_2) (h : impl_SCC.f a0_0 l0_1 l0_2 = some (r1, r2)) :
    Calls Tryz.prog 16 #[.agg #[.bool a0_0, .slice A0_1 l0_1.length c0_1, .slice A0_2 l0_2.length c0_2]] w fun e w' => ∃ v1_ : Value, e = .returned (.tuple #[v1_, .bool r2]) ∧ Kd.R (Kd.slice 3 (Kd.int .i64)) 22 w' w.heap.size (fun _ => True) v1_ r1 ∧ Below w.heap.size w w' := by
  unfold impl_SCC.f at h
  split at h
  · rename_i hc
    obtain ⟨h1, h2, h4⟩ := hc
    split at h
    · rename_i hgood
      obtain ⟨r, hr, he⟩ := Option.map_eq_some_iff.1 h
      simp only [Prod.mk.injEq] at he
      obtain ⟨rfl, rfl⟩ := he
      simp only [Bool.and_eq_true] at hgood
      obtain ⟨hg1, rfl⟩ := hgood
      refine (R.scc_good A0_1 A0_2 c0_1 c0_2 l0_1 l0_2 w hr0_1 hr0_2 (by omega) h2 (List.all_eq_true.1 h4) hg1 r hr).mono ?_
      rintro e w' ⟨v, rows, rfl, ho, hb⟩
      exact ⟨v, rfl, R.R_of_rows ho, hb⟩
    · rename_i hbad
      simp only [Option.some.injEq, Prod.mk.injEq] at h
      obtain ⟨rfl, rfl⟩ := h
      refine (R.scc_bad a0_0 A0_1 A0_2 c0_1 c0_2 l0_1 l0_2 w hr0_1 hr0_2 (by omega) h2 (by simpa using hbad)).mono ?_
      rintro e w' ⟨rfl, hb⟩
      exact ⟨_, rfl, Kd.R_nil _ _ _ _ _, hb⟩
  · cases h
end Go.Proofs.YtolbfjjgdheikaaGreat.PL
