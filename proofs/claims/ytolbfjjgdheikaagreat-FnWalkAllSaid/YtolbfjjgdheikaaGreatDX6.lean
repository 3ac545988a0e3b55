import Derived.Test.YtolbfjjgdheikaaGreatDX1
import Derived.Test.YtolbfjjgdheikaaGreatDX5
set_option linter.unusedVariables false
set_option linter.unusedSimpArgs false
/- impl.WalkAll, breadth first; what is no graph; the contract. -/
namespace Go.Proofs.YtolbfjjgdheikaaGreat.R
open Go.RowKit Go.Lab Go.Maps Go.Proofs.YtolbfjjgdheikaaGreatW.PrintWords Go.Proofs.YtolbfjjgdheikaaGreatW.PrintLast Go.Proofs.YtolbfjjgdheikaaGreatW.PrintMore PL

def walkB (zs : List Int) (es : List S34) (vis : List Int) (u : Int) : Option (List Int) := bfsV (outN zs es) vis 9000 [u] []
theorem walkB_ok (zs : List Int) (es : List S34) (vis : List Int) (u : Int) (pt : List Int) (hnd : vis.Nodup) (hu : u ∉ vis) (h : walkB zs es vis u = some pt) : PartOk (outN zs es) vis u pt :=
  bfsV_ok (outN zs es) vis u 9000 [u] [] pt (by simp only [List.append_nil]; exact List.nodup_append.2 ⟨hnd, by simp, fun a ha b hb e => by simp at hb; subst hb; subst e; exact hu ha⟩) ⟨[], rfl⟩ (fun x hx => by simp at hx; subst hx; exact RchW.here) (by simp) h
theorem partsB (zs : List Int) (es : List S34) : ∀ vis u pt, vis.Nodup → u ∉ vis → u ∈ srt zs → (∀ x ∈ vis, x ∈ srt zs) → bfsV (outN zs es) vis 9000 [u] [] = some pt → (vis ++ pt).Nodup ∧ (∀ x ∈ pt, x ∈ srt zs) ∧ 0 < pt.length := by
  intro vis u pt hnd hu hus hvs h
  have ok := walkB_ok zs es vis u pt hnd hu h
  refine ⟨ok.nd, fun x hx => rch_in zs es u hus x (ok.rch x hx), ?_⟩
  obtain ⟨l, hl⟩ := ok.first
  rw [hl]
  simp

theorem broadEnv {w1 : World} {base bp : Nat} {zs : List Int} {es : List S34} {p : Pl} {o1 : Obj} (h : GrOk w1 base bp zs es p) (wf : ∀ x ∈ zs, (Lit.int .i64 x).wf = true) :
    VEnvB kpI (((w1.alloc o1).alloc (.cells #[.slice none 0 0] 22)).alloc (.cells #[.nilFunc, .nilFunc, .int .i64 0, .slice none 0 0, .map none] 85)) (w1.heap.size + 1 + 1) (w1.heap.size + 1) base bp zs es p :=
  ⟨h.below (below3 (Below.refl _ _) (Nat.le_refl _) _ _ _), kpI_ok, ⟨_, heap_new2 w1 _ _ _⟩, ⟨_, heap_new1 w1 _ _ _⟩, wf⟩
set_option maxHeartbeats 8000000 in
set_option maxRecDepth 100000 in
theorem walks_broad (A1 A2 : Option Addr) (c1 c2 : Nat) (zs : List Int) (es : List S34) (w : World) (hN : Kd.C (Kd.int .i64) w A1 zs.length zs) (hE : Kd.C k34 w A2 es.length es) (hn : zs.length ≤ 1000) (he : es.length ≤ 1000000)
    (wf : ∀ x ∈ zs, (Lit.int .i64 x).wf = true) (hro : readOk zs es = true) (out : List (List Int)) (hr : allV (walkB zs (dbl false es)) (srt zs) [] [] = some out) :
    Calls Tryz.prog 19 #[.agg #[.bool false, .slice A1 zs.length c1, .slice A2 es.length c2], .bool false] w fun e w' => ∃ v rows, e = .returned (.tuple #[v, .bool false]) ∧ RwsV kpI w.heap.size w' v rows out ∧ Below w.heap.size w w' := by
  have hb1 : Below w.heap.size w ((w.alloc (.cells #[.bool false, .slice A1 zs.length c1, .slice A2 es.length c2] 25)).alloc (.cells #[.slice none 0 0] 29)) := ((Below.refl _ _).alloc (Nat.le_refl _) _).alloc (by simp) _
  have hl0 : ((w.alloc (.cells #[.bool false, .slice A1 zs.length c1, .slice A2 es.length c2] 25)).alloc (.cells #[.slice none 0 0] 29)).heap[w.heap.size + 1]? = some (.cells #[.slice none 0 0] 29 (0, 0)) := by
    have := heap_alloc_new (w.alloc (.cells #[.bool false, .slice A1 zs.length c1, .slice A2 es.length c2] 25)) (.cells #[.slice none 0 0] 29)
    simpa using this
  have hz0 : ((w.alloc (.cells #[.bool false, .slice A1 zs.length c1, .slice A2 es.length c2] 25)).alloc (.cells #[.slice none 0 0] 29)).heap.size = w.heap.size + 2 := by simp
  have hc25 : ((w.alloc (.cells #[.bool false, .slice A1 zs.length c1, .slice A2 es.length c2] 25)).alloc (.cells #[.slice none 0 0] 29)).heap[w.heap.size]? = some (.cells #[.bool false, .slice A1 zs.length c1, .slice A2 es.length c2] 25 (0, 0)) := (Below.heap_alloc _ _ _ (by simp)).trans (heap_alloc_new _ _)
  have HN := Aside0.mk (Kd.C_below hN hb1)
  have HE := Aside0.mk (Kd.C_below hE hb1)
  have HB := Aside0.mk (And.intro hb1 (And.intro hl0 hz0))
  have HR := Aside0.mk hr
  have HWF := Aside0.mk wf
  have hrd : (readOk zs es && !false) = true := by rw [hro]; rfl
  have HRD := Aside0.mk (And.intro hrd hro)
  clear hN hE hr wf hrd hro hb1 hl0 hz0 hc25
  go_enter Tryz.func19, Tryz.ntmps19
  go_wp2_with (first
    | (go_at_call 27; refine (bothWays_any false A1 A2 c1 c2 zs es _ HN.out HE.out hn he).mono ?_; rintro e w1 ⟨base, bp, rfl, hbel, hpl⟩; rw [HRD.out.1]; have H1 := Aside0.mk (And.intro hbel (GrOk.mk' (w := w) (d := false) hn HRD.out.2 (hpl HRD.out.2))); clear hbel hpl)
    | ((with_reducible refine gate_store (t := 85) (p := 12) rfl ?_); refine wpList_store_same ?hgd 85 (.tmp 12) (.tmp 29) ?ho ?hd (w1.heap.size + 1 + 1) #[.nilFunc, .nilFunc, .int .i64 0, .slice none 0 0, .map none] ?hx ?hy 85 ?hg ?hi ?h1 ?_; (case hgd => rfl); (case ho => rfl); (case hd => rfl); (case hx => go_simp); (case hy => go_simp); (case hg => exact heap_new2 w1 _ _ _); (case hi => kernel_rfl); (case h1 => kernel_rfl))
    | (go_at_call 43; refine (walkAllIB _ (w1.heap.size + 1 + 1) (w1.heap.size + 1) (w.heap.size + 1) base bp 39 #[.pointer (some ⟨w1.heap.size + 1, 0, none⟩)] zs (dbl false es) (plOf false zs es) 9000 (Nat.le_refl _) out (broadEnv H1.out.2 HWF.out) (fun gu => untilBI _ _ gu) (after41 _ _ _) (partsB zs (dbl false es)) (heap_new2 w1 _ _ _) (heap_new1 w1 _ _ _) (heap_old HB.out H1.out.1) HR.out).mono ?_; rintro e w2 ⟨rfl, lv, rows, hrw, hkp⟩; obtain ⟨AL, cL, rfl⟩ := own_slice hrw.own; have hcc : w2.cell? ⟨w.heap.size + 1, 0, none⟩ = some (.slice AL rows.length cL) := (blk_cell hrw.blk 0).trans rfl; have HW := Aside0.mk (And.intro hrw hkp); clear hrw hkp)
    | ((with_reducible refine gate_store (t := 29) (p := 4) rfl ?_); refine wpList_store_one_same ?hgd 29 (.tmp 4) (.tmp 35) ?ho ?hd (w.heap.size + 1) (.slice AL rows.length cL) ?hx ?hy rfl 29 ?hg ?hi ?_; (case hgd => rfl); (case ho => rfl); (case hd => rfl); (case hx => go_simp); (case hy => go_simp); (case hg => exact HW.out.1.blk); (case hi => kernel_rfl)))
  (try simp only [Exit.inBlock, Exit.then])
  refine bodyPost_ret (v := .tuple #[.slice AL rows.length cL, .bool false]) ?_ rfl ?_
  · rw [results_cell_tmp rfl]; go_simp
  refine ⟨.slice AL rows.length cL, rows, rfl, HW.out.1.toV.mono ?_, HB.out.1.trans ?_⟩
  · have h1 := below_size H1.out.1
    have hz := HB.out.2.2
    have := below_size (below3 H1.out.1 h1 (.cells #[.pointer (some ⟨bp, 0, none⟩)] 56) (.cells #[.slice none 0 0] 22) (.cells #[.nilFunc, .nilFunc, .int .i64 0, .slice none 0 0, .map none] 85))
    omega
  · have h1 := below_size H1.out.1
    have hz := HB.out.2.2
    have h3 := below3 H1.out.1 h1 (.cells #[.pointer (some ⟨bp, 0, none⟩)] 56) (.cells #[.slice none 0 0] 22) (.cells #[.nilFunc, .nilFunc, .int .i64 0, .slice none 0 0, .map none] 85)
    refine (h3.mono (by omega)).trans (HW.out.2.below (by have := below_size h3; omega) fun k hk => ?_)
    simp only [WM] at hk
    have := below_size h3
    omega
set_option maxHeartbeats 4000000 in
set_option maxRecDepth 100000 in
theorem walks_bad (d deep : Bool) (A1 A2 : Option Addr) (c1 c2 : Nat) (zs : List Int) (es : List S34) (w : World) (hN : Kd.C (Kd.int .i64) w A1 zs.length zs) (hE : Kd.C k34 w A2 es.length es) (hn : zs.length ≤ 1000) (he : es.length ≤ 1000000) (hro : (readOk zs es && !d) = false) :
    Calls Tryz.prog 19 #[.agg #[.bool d, .slice A1 zs.length c1, .slice A2 es.length c2], .bool deep] w fun e w' => e = .returned (.tuple #[.slice none 0 0, .bool true]) ∧ Below w.heap.size w w' := by
  have hb1 : Below w.heap.size w ((w.alloc (.cells #[.bool d, .slice A1 zs.length c1, .slice A2 es.length c2] 25)).alloc (.cells #[.slice none 0 0] 29)) := ((Below.refl _ _).alloc (Nat.le_refl _) _).alloc (by simp) _
  have hl0 : ((w.alloc (.cells #[.bool d, .slice A1 zs.length c1, .slice A2 es.length c2] 25)).alloc (.cells #[.slice none 0 0] 29)).heap[w.heap.size + 1]? = some (.cells #[.slice none 0 0] 29 (0, 0)) := by
    have := heap_alloc_new (w.alloc (.cells #[.bool d, .slice A1 zs.length c1, .slice A2 es.length c2] 25)) (.cells #[.slice none 0 0] 29)
    simpa using this
  have hz0 : ((w.alloc (.cells #[.bool d, .slice A1 zs.length c1, .slice A2 es.length c2] 25)).alloc (.cells #[.slice none 0 0] 29)).heap.size = w.heap.size + 2 := by simp
  have HN := Aside0.mk (Kd.C_below hN hb1)
  have HE := Aside0.mk (Kd.C_below hE hb1)
  have HB := Aside0.mk (And.intro hb1 (And.intro hl0 hz0))
  have HRD := Aside0.mk hro
  clear hN hE hb1 hro hl0 hz0
  go_enter Tryz.func19, Tryz.ntmps19
  go_wp2_with (first
    | (go_at_call 27; refine (bothWays_any d A1 A2 c1 c2 zs es _ HN.out HE.out hn he).mono ?_; rintro e w1 ⟨base, bp, rfl, hbel, hpl⟩; rw [HRD.out]; have hg : (w1.alloc (.cells #[.pointer (some ⟨bp, 0, none⟩)] 56)).heap[w.heap.size + 1]? = some (.cells #[.slice none 0 0] 29 (0, 0)) := (Below.heap_alloc _ _ _ (by have := hbel.size; have := HB.out.2.2; omega)).trans ((hbel.block _ (by rw [HB.out.2.2]; omega)).trans HB.out.2.1); have HG := Aside0.mk hg; have hcc := (blk_cell hg 0).trans rfl; have H1 := Aside0.mk hbel; have hz1 := hbel.size; clear hbel hpl hg)
    | ((with_reducible refine gate_store (t := 29) (p := 4) rfl ?_); refine wpList_store_one_same ?hgd 29 (.tmp 4) (.const (.slice none 0 0)) ?ho ?hd (w.heap.size + 1) (.slice none 0 0) ?hx ?hy rfl 29 ?hg ?hi ?_; (case hgd => rfl); (case ho => rfl); (case hd => rfl); (case hx => go_simp); (case hy => rfl); (case hg => exact HG.out); (case hi => kernel_rfl)))
  (try simp only [Exit.inBlock, Exit.then])
  refine bodyPost_ret (v := .tuple #[.slice none 0 0, .bool true]) ?_ rfl ?_
  · rw [results_cell_tmp rfl]; go_simp
  simp at hz1
  exact ⟨rfl, (HB.out.1.trans (H1.out.mono (by rw [HB.out.2.2]; omega))).alloc (by omega) _⟩
end Go.Proofs.YtolbfjjgdheikaaGreat.R
namespace Go.Proofs.YtolbfjjgdheikaaGreat.PL
open Go.RowKit Go.Proofs.YtolbfjjgdheikaaGreatW.PrintWords Go.Lab
/-- impl.WalkAll: the parts, in the order of the walks. -/
def impl_WalkAll.f (a0_0 : Bool) (l0_1 : List Int) (l0_2 : List S34) (a1 : Bool) : Option (List (List Int) × Bool) :=
  if l0_1.length ≤ 90 ∧ l0_2.length ≤ 1000000 ∧ (l0_1.all fun x => (Lit.int .i64 x).wf) = true then
    if (R.readOk l0_1 l0_2 && !a0_0) = true then (R.allV (fun vis u => if a1 = true then R.walkD l0_1 (R.dbl false l0_2) vis u else R.walkB l0_1 (R.dbl false l0_2) vis u) (srt l0_1) [] []).map fun out => (out, false)
    else some ([], true)
  else none
theorem impl_WalkAll.calls (a0_0 : Bool) (A0_1 : Option Addr) (c0_1 : Nat) (l0_1 : List Int) (A0_2 : Option Addr) (c0_2 : Nat) (l0_2 : List S34) (a1 : Bool) (r1 : List (List Int)) (r2 : Bool) (w : World)
    (hr0_1 : Kd.C (Kd.int .i64) w A0_1 l0_1.length l0_1) (hc0_1 : l0_1.length ≤ c0_1) (hr0_2 : Kd.C k34 w A0_2 l0_2.length l0_2) (hc0_2 : l0_2.length ≤ c0_2) (h : impl_WalkAll.f a0_0 l0_1 l0_2 a1 = some (r1, r2)) :
    Calls Tryz.prog 19 #[.agg #[.bool a0_0, .slice A0_1 l0_1.length c0_1, .slice A0_2 l0_2.length c0_2], .bool a1] w fun e w' => ∃ v1_ : Value, e = .returned (.tuple #[v1_, .bool r2]) ∧ Kd.R (Kd.slice 3 (Kd.int .i64)) 22 w' w.heap.size (fun _ => True) v1_ r1 ∧ Below w.heap.size w w' := by
  unfold impl_WalkAll.f at h
  split at h
  · rename_i hc
    obtain ⟨h1, h2, h4⟩ := hc
    split at h
    · rename_i hgood
      obtain ⟨r, hr, he⟩ := Option.map_eq_some_iff.1 h
      simp only [Prod.mk.injEq] at he
      obtain ⟨rfl, rfl⟩ := he
      simp only [Bool.and_eq_true, Bool.not_eq_true'] at hgood
      obtain ⟨hg1, rfl⟩ := hgood
      cases a1 with
      | true =>
        refine (R.walks_deep A0_1 A0_2 c0_1 c0_2 l0_1 l0_2 w hr0_1 hr0_2 (by omega) h2 (List.all_eq_true.1 h4) hg1 r hr).mono ?_
        rintro e w' ⟨v, rows, rfl, ho, hb⟩
        exact ⟨v, rfl, R.R_of_rows ho, hb⟩
      | false =>
        refine (R.walks_broad A0_1 A0_2 c0_1 c0_2 l0_1 l0_2 w hr0_1 hr0_2 (by omega) h2 (List.all_eq_true.1 h4) hg1 r hr).mono ?_
        rintro e w' ⟨v, rows, rfl, ho, hb⟩
        exact ⟨v, rfl, R.R_of_rows ho, hb⟩
    · rename_i hbad
      simp only [Option.some.injEq, Prod.mk.injEq] at h
      obtain ⟨rfl, rfl⟩ := h
      refine (R.walks_bad a0_0 a1 A0_1 A0_2 c0_1 c0_2 l0_1 l0_2 w hr0_1 hr0_2 (by omega) h2 (by simpa using hbad)).mono ?_
      rintro e w' ⟨rfl, hb⟩
      exact ⟨_, rfl, Kd.R_nil _ _ _ _ _, hb⟩
  · cases h
end Go.Proofs.YtolbfjjgdheikaaGreat.PL
