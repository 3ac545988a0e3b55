import Derived.Test.YtolbfjjgdheikaaGreatEK8
set_option linter.unusedVariables false
set_option linter.unusedSimpArgs false
/- impl.Components: the parts, each ascending, in order. -/
namespace Go.Proofs.YtolbfjjgdheikaaGreat.R
open Go.RowKit Go.Lab Go.Maps Go.Proofs.YtolbfjjgdheikaaGreatW.PrintWords Go.Proofs.YtolbfjjgdheikaaGreatW.PrintLast Go.Proofs.YtolbfjjgdheikaaGreatW.PrintMore PL

/-- lists in order -/
def sortL (qs : List (List Int)) : List (List Int) := qs.mergeSort fun x y => !lexB y x
theorem sortL_perm (qs : List (List Int)) : (sortL qs).Perm qs := List.mergeSort_perm _ _
theorem sortL_le (qs : List (List Int)) : (sortL qs).Pairwise fun x y => lexB y x = false := by
  have h1 := List.pairwise_mergeSort (le := fun x y => !lexB y x)
    (fun a b c h1 h2 => by simp at *; exact lexB_ntrans h2 h1)
    (fun a b => by
      cases h4 : lexB b a with
      | false => rfl
      | true => rw [lexB_asymm h4]; rfl) qs
  exact h1.imp fun h => by simpa using h
theorem sortL_lt {qs : List (List Int)} (h : qs.Nodup) : (sortL qs).Pairwise fun x y => lexB x y = true := by
  refine ((sortL_le qs).and ((sortL_perm qs).nodup_iff.2 h)).imp ?_
  rintro x y ⟨h1, h3⟩
  cases h4 : lexB x y with
  | true => rfl
  | false => exact absurd (lexB_total h4 h1) h3
theorem sortL_eq {qs qs' : List (List Int)} (h : qs.Nodup) (hp : qs'.Perm qs) (hs : qs'.Pairwise fun x y => lexB x y = true) : qs' = sortL qs :=
  ord_ext (fun x y => lexB x y = true) (fun x y h1 h2 => by rw [lexB_asymm h1] at h2; cases h2) hs (sortL_lt h) (fun x => by rw [hp.mem_iff, (sortL_perm qs).mem_iff])

theorem read_good {zs : List Int} {es : List S34} (h : readOk zs es = true) : (srt zs).Pairwise (· < ·) ∧ es.all (goodE zs) = true := by
  unfold readOk at h
  simpa only [Bool.and_eq_true, decide_eq_true_eq] using h
theorem outN_in {zs : List Int} {es : List S34} (h : es.all (goodE zs) = true) {u v : Int} (hv : v ∈ outN zs es u) : u ∈ zs := by
  obtain ⟨_, h2⟩ := outN_mem hv
  obtain ⟨e, he, h3, _⟩ := arcW_some.1 h2
  have := List.all_eq_true.1 h e he
  unfold goodE at this
  simp only [Bool.and_eq_true, decide_eq_true_eq] at this
  rw [← h3]
  exact this.1.1.1.1
/-- the parts of an undirected graph -/
theorem parts_comps {zs : List Int} {es : List S34} (hro : readOk zs es = true) (walk : List Int → Int → Option (List Int)) (hw : ∀ vis u pt, vis.Nodup → u ∉ vis → walk vis u = some pt → PartOk (outN zs (dbl false es)) vis u pt) {out : List (List Int)} (hr : allV walk (srt zs) [] [] = some out) : Comps (outN zs (dbl false es)) (srt zs) out := by
  obtain ⟨h1, h2⟩ := read_good hro
  have h3 := dbl_good (zs := zs) false h2
  exact allV_ok (outN zs (dbl false es)) (srt zs) (fun u v hv => outN_sym (outN_in h3 hv) hv) (fun u _ v hv => (mem_srt _ _).2 (outN_mem hv).1) h1 walk hw (srt zs) [] [] [] out rfl List.nodup_nil (fun x hx => by cases hx) (fun x => by simp) (fun x hx => by cases hx) (fun pt hpt => by cases hpt) List.Pairwise.nil hr
theorem walkD_ok (zs : List Int) (es : List S34) (vis : List Int) (u : Int) (pt : List Int) (hnd : vis.Nodup) (hu : u ∉ vis) (h : walkD zs es vis u = some pt) : PartOk (outN zs es) vis u pt :=
  dfsV_ok (outN zs es) vis u 9000 [u] [] pt (by simpa using hnd) (.inl ⟨rfl, rfl, hu⟩) (fun x hx => by simp at hx; subst hx; exact RchW.here) (by simp) (by simp) h
theorem Comps.srt_nodup {adj : Int → List Int} {ns : List Int} {out : List (List Int)} (h : Comps adj ns out) (hin : ∀ u ∈ ns, ∀ v, RchW adj u v → v ∈ ns) : (out.map srt).Nodup := by
  unfold List.Nodup
  rw [List.pairwise_map]
  refine (List.Pairwise.and_mem.1 h.heads).imp ?_
  rintro a b ⟨ha, hb, hab⟩ e
  obtain ⟨u, hu, l, rfl, hm, _, hmin⟩ := h.parts a ha
  obtain ⟨v, hv, l2, rfl, hm2, _, hmin2⟩ := h.parts b hb
  have hmem : ∀ x, x ∈ u :: l ↔ x ∈ v :: l2 := fun x => by rw [← mem_srt, e, mem_srt]
  have h1 := hmin2 u hu ((hm2 u).1 ((hmem u).1 (by simp)))
  simp only [List.headD_cons] at hab
  omega
theorem Comps.len {adj : Int → List Int} {ns : List Int} {out : List (List Int)} (h : Comps adj ns out) (hin : ∀ u ∈ ns, ∀ v, RchW adj u v → v ∈ ns) : out.length ≤ ns.length ∧ ∀ q ∈ out, q.length ≤ ns.length := by
  constructor
  · have h1 : (out.map fun p => p.headD 0).Nodup := by
      unfold List.Nodup
      rw [List.pairwise_map]
      exact h.heads.imp fun h => by omega
    have := nodup_len h1 (xs := ns) (fun x hx => by
      obtain ⟨p, hp, rfl⟩ := List.mem_map.1 hx
      obtain ⟨u, hu, l, rfl, _⟩ := h.parts p hp
      exact hu)
    simpa using this
  · intro q hq
    obtain ⟨u, hu, l, rfl, hm, hnd, _⟩ := h.parts q hq
    exact nodup_len hnd fun x hx => hin u hu x ((hm x).1 hx)
theorem rch_in (zs : List Int) (es : List S34) : ∀ u ∈ srt zs, ∀ v, RchW (outN zs es) u v → v ∈ srt zs := fun u hu v h => h (fun y => y ∈ srt zs) hu fun y _ z hz => (mem_srt _ _).2 (outN_mem hz).1

/-- the rows, as they are told -/
theorem R_of_rows {lo : Nat} {w : World} {v : Value} {rows : List Value} {qs : List (List Int)} (h : RwsV kpI lo w v rows qs) : Kd.R (Kd.slice 3 (Kd.int .i64)) 22 w lo (fun _ => True) v qs := by
  refine ⟨fun _ _ => trivial, rows, by rw [← h.len]; exact h.own, by rw [h.len]; exact (Nat.mul_one _).symm, fun j p hj => ?_⟩
  obtain ⟨hl, rfl⟩ := List.getElem?_eq_some_iff.1 hj
  have hjr : j < rows.length := by rw [h.len]; exact hl
  show ∃ u, List.take 1 (List.drop (j * 1) rows) = [u] ∧ Kd.R (Kd.int .i64) 3 w lo _ u qs[j]
  refine ⟨rows[j], by rw [Nat.mul_one, List.drop_eq_getElem_cons hjr]; rfl, ?_⟩
  have he := h.each j hjr
  have hq : qs.getD j [] = qs[j] := by rw [List.getD_eq_getElem?_getD, List.getElem?_eq_getElem hl]; rfl
  rw [hq] at he
  refine ⟨fun k hk => ⟨trivial, fun e => ?_⟩, nums .i64 qs[j], he, by rw [nums_length]; exact (Nat.mul_one _).symm, fun i p hi => ?_⟩
  · obtain ⟨c1, hc1⟩ := own_block he hk
    obtain ⟨c2, hc2⟩ := own_block h.own e.symm
    exact absurd (blk_type hc1 hc2) (by decide)
  · show List.take 1 (List.drop (i * 1) (nums .i64 qs[j])) = [.int .i64 p]
    obtain ⟨hl2, rfl⟩ := List.getElem?_eq_some_iff.1 hi
    rw [Nat.mul_one, List.drop_eq_getElem_cons (by rw [nums_length]; exact hl2)]
    simp [nums]

set_option maxHeartbeats 4000000 in
set_option maxRecDepth 100000 in
theorem comps_good (A1 A2 : Option Addr) (c1 c2 : Nat) (zs : List Int) (es : List S34) (w : World) (hN : Kd.C (Kd.int .i64) w A1 zs.length zs) (hE : Kd.C k34 w A2 es.length es) (hn : zs.length ≤ 1000) (he : es.length ≤ 1000000)
    (wf : ∀ x ∈ zs, (Lit.int .i64 x).wf = true) (hro : readOk zs es = true) (out : List (List Int)) (hr : allV (walkD zs (dbl false es)) (srt zs) [] [] = some out) :
    Calls Tryz.prog 10 #[.agg #[.bool false, .slice A1 zs.length c1, .slice A2 es.length c2]] w fun e w' => ∃ v rows, e = .returned (.tuple #[v, .bool false]) ∧ RwsV kpI w.heap.size w' v rows (sortL (out.map srt)) ∧ Below w.heap.size w w' := by
  have hcs := parts_comps hro (walkD zs (dbl false es)) (fun vis u pt a b c => walkD_ok zs (dbl false es) vis u pt a b c) hr
  have hnd := hcs.srt_nodup (rch_in zs _)
  have hln := hcs.len (rch_in zs _)
  rw [srt_length] at hln
  have hb1 : Below w.heap.size w (w.alloc (.cells #[.bool false, .slice A1 zs.length c1, .slice A2 es.length c2] 25)) := (Below.refl _ _).alloc (Nat.le_refl _) _
  have HN := Aside0.mk (Kd.C_below hN hb1)
  have HE := Aside0.mk (Kd.C_below hE hb1)
  have HB := Aside0.mk hb1
  have HO := Aside0.mk (And.intro hnd hln)
  have HR := Aside0.mk hr
  have HWF := Aside0.mk wf
  have hrd : (readOk zs es && !false) = true := by rw [hro]; rfl
  have HRD := Aside0.mk (And.intro hrd hro)
  clear hN hE hb1 hcs hnd hln hr wf hrd hro
  go_enter Tryz.func10, Tryz.ntmps10
  go_wp2_with (first
    | (go_at_call 27; refine (bothWays_any false A1 A2 c1 c2 zs es _ HN.out HE.out hn he).mono ?_; rintro e w1 ⟨base, bp, rfl, hbel, hpl⟩; rw [HRD.out.1]; have H1 := Aside0.mk (And.intro hbel (GrOk.mk' (w := w) (d := false) hn HRD.out.2 (hpl HRD.out.2))); clear hbel hpl)
    | (go_at_call 29; refine (conn_any base bp zs (dbl false es) _ _ (H1.out.2.below ((Below.refl _ _).alloc (Nat.le_refl _) _)) HWF.out out HR.out).mono ?_; rintro e w2 ⟨lv, rows, rfl, hrw, hb2⟩; have H2 := Aside0.mk (And.intro hrw hb2); have hz2 := hb2.size; clear hrw hb2)
    | (go_at_call 28; refine (lists_any _ lv rows out _ H2.out.1 HO.out.1 (by have := HO.out.2.1; omega) (fun q hq => by have := HO.out.2.2 q hq; omega)).mono ?_; rintro e w3 ⟨v, rows2, qs2, rfl, a1, a2, a3, a4⟩; have H3 := Aside0.mk (And.intro a1 (And.intro a2 (And.intro a3 a4))); clear a1 a2 a3 a4))
  go_ret2
  obtain ⟨a1, a2, a3, a4⟩ := H3.out
  have hz1 := H1.out.1.size
  simp at hz1 hz2
  have hq := sortL_eq HO.out.1 a1 a2
  subst hq
  refine ⟨v, rows2, rfl, a3.mono (by omega), ?_⟩
  have k1 := HB.out.trans (H1.out.1.mono (by simp))
  have k2 := k1.alloc (by omega) (.cells #[.pointer (some ⟨bp, 0, none⟩)] 56)
  exact (k2.trans (H2.out.2.mono (by simp; omega))).trans (a4.mono (by omega))

set_option maxHeartbeats 4000000 in
set_option maxRecDepth 100000 in
theorem comps_bad (d : Bool) (A1 A2 : Option Addr) (c1 c2 : Nat) (zs : List Int) (es : List S34) (w : World) (hN : Kd.C (Kd.int .i64) w A1 zs.length zs) (hE : Kd.C k34 w A2 es.length es) (hn : zs.length ≤ 1000) (he : es.length ≤ 1000000) (hro : (readOk zs es && !d) = false) :
    Calls Tryz.prog 10 #[.agg #[.bool d, .slice A1 zs.length c1, .slice A2 es.length c2]] w fun e w' => e = .returned (.tuple #[.slice none 0 0, .bool true]) ∧ Below w.heap.size w w' := by
  have hb1 : Below w.heap.size w (w.alloc (.cells #[.bool d, .slice A1 zs.length c1, .slice A2 es.length c2] 25)) := (Below.refl _ _).alloc (Nat.le_refl _) _
  have HN := Aside0.mk (Kd.C_below hN hb1)
  have HE := Aside0.mk (Kd.C_below hE hb1)
  have HB := Aside0.mk hb1
  have HRD := Aside0.mk hro
  clear hN hE hb1 hro
  go_enter Tryz.func10, Tryz.ntmps10
  go_wp2_with (go_at_call 27; refine (bothWays_any d A1 A2 c1 c2 zs es _ HN.out HE.out hn he).mono ?_; rintro e w1 ⟨base, bp, rfl, hbel, hpl⟩; rw [HRD.out]; have H1 := Aside0.mk hbel; have hz1 := hbel.size; clear hbel hpl)
  go_ret2
  simp at hz1
  exact ⟨rfl, (HB.out.trans (H1.out.mono (by simp))).alloc (by omega) _⟩
end Go.Proofs.YtolbfjjgdheikaaGreat.R

namespace Go.Proofs.YtolbfjjgdheikaaGreat.PL
open Go.RowKit Go.Lab Go.Proofs.YtolbfjjgdheikaaGreatW.PrintWords Go.Proofs.YtolbfjjgdheikaaGreatW.PrintLast Go.Proofs.YtolbfjjgdheikaaGreatW.PrintMore
def impl_Components.f (a0_0 : Bool) (l0_1 : List Int) (l0_2 : List S34) : Option (List (List Int) × Bool) :=
  if l0_1.length ≤ 90 ∧ l0_2.length ≤ 1000000 ∧ (l0_1.all fun x => (Lit.int .i64 x).wf) = true then
    if (R.readOk l0_1 l0_2 && !a0_0) = true then (R.allV (R.walkD l0_1 (R.dbl false l0_2)) (srt l0_1) [] []).map fun out => (R.sortL (out.map srt), false)
    else some ([], true)
  else none
theorem impl_Components.calls (a0_0 : Bool) (A0_1 : Option Addr) (c0_1 : Nat) (l0_1 : List Int) (A0_2 : Option Addr) (c0_2 : Nat) (l0_2 : List S34) (r1 : List (List Int)) (r2 : Bool) (w : World)
    (hr0_1 : Kd.C (Kd.int .i64) w A0_1 l0_1.length l0_1) (hc0_1 : l0_1.length ≤ c0_1) (hr0_2 : Kd.C k34 w A0_2 l0_2.length l0_2) (hc0_2 : l0_2.length ≤ c0_2) (h : impl_Components.f a0_0 l0_1 l0_2 = some (r1, r2)) :
    Calls Tryz.prog 10 #[.agg #[.bool a0_0, .slice A0_1 l0_1.length c0_1, .slice A0_2 l0_2.length c0_2]] w fun e w' => ∃ v1_ : Value, e = .returned (.tuple #[v1_, .bool r2]) ∧ Kd.R (Kd.slice 3 (Kd.int .i64)) 22 w' w.heap.size (fun _ => True) v1_ r1 ∧ Below w.heap.size w w' := by
  unfold impl_Components.f at h
  split at h
  · rename_i hc
    obtain ⟨h1, h2, h4⟩ := hc
    split at h
    · rename_i hgood
      obtain ⟨r, hr, he⟩ := Option.map_eq_some_iff.1 h
      simp only [Prod.mk.injEq] at he
      obtain ⟨rfl, rfl⟩ := he
      simp only [Bool.and_eq_true, Bool.not_eq_true'] at hgood
      obtain ⟨hg1, rfl⟩ := hgood
      refine (R.comps_good A0_1 A0_2 c0_1 c0_2 l0_1 l0_2 w hr0_1 hr0_2 (by omega) h2 (List.all_eq_true.1 h4) hg1 r hr).mono ?_
      rintro e w' ⟨v, rows, rfl, ho, hb⟩
      exact ⟨v, rfl, R.R_of_rows ho, hb⟩
    · rename_i hbad
      simp only [Option.some.injEq, Prod.mk.injEq] at h
      obtain ⟨rfl, rfl⟩ := h
      refine (R.comps_bad a0_0 A0_1 A0_2 c0_1 c0_2 l0_1 l0_2 w hr0_1 hr0_2 (by omega) h2 (by simpa using hbad)).mono ?_
      rintro e w' ⟨rfl, hb⟩
      exact ⟨_, rfl, Kd.R_nil _ _ _ _ _, hb⟩
  · cases h
end Go.Proofs.YtolbfjjgdheikaaGreat.PL
