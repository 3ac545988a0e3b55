import Derived.Test.YtolbfjjgdheikaaGreatFB6
import Derived.Test.YtolbfjjgdheikaaGreatFB7
import Derived.BigRegion
import Derived.BigQuiet
import Derived.Deep.QuietTactic
import Derived.Laws.OwnMore
import Derived.Test.YtolbfjjgdheikaaGreatFK1
import Derived.Test.YtolbfjjgdheikaaGreatFK3
set_option linter.unusedVariables false
set_option linter.unusedSimpArgs false
/- A queue of nodes. -/
namespace Go.Proofs.YtolbfjjgdheikaaGreat.R
open Go.RowKit Go.Lab Go.Maps Go.Proofs.YtolbfjjgdheikaaGreatW.PrintWords Go.Proofs.YtolbfjjgdheikaaGreatW.PrintLast Go.Proofs.YtolbfjjgdheikaaGreatW.PrintMore PL

/-- a walk's object in block gd with its queue -/
structure Que (lo : Nat) (w : World) (gd : Nat) (vf tf mp st : Value) (jk : List Value) (xs : List Int) : Prop where
  blk : w.heap[gd]? = some (.cells #[vf, tf, .int .i64 (jk.length : Int), st, mp] 85 (0, 0))
  own : w.ownsRow lo 72 1 st (jk.length + xs.length) (jk ++ nodeVs xs)
  ne : xs = [] → jk = []
theorem Que.apart {lo : Nat} {w : World} {gd : Nat} {vf tf mp st : Value} {jk : List Value} {xs : List Int} (h : Que lo w gd vf tf mp st jk xs) : st.ownBlock ≠ some gd := fun e => by
  obtain ⟨c, hc⟩ := own_block h.own e
  exact absurd (blk_type h.blk hc) (by decide)
theorem Que.stay {lo : Nat} {w w1 : World} {gd : Nat} {vf tf mp st : Value} {jk : List Value} {xs : List Int} (h : Que lo w gd vf tf mp st jk xs) (h1 : w1.heap[gd]? = w.heap[gd]?) (h2 : ∀ k, st.ownBlock = some k → w1.heap[k]? = w.heap[k]?) : Que lo w1 gd vf tf mp st jk xs :=
  ⟨h1.trans h.blk, own_of_heap h.own h2, h.ne⟩
/-- which blocks a step of the queue turns -/
def QM (gd : Nat) (st : Value) (k : Nat) : Prop := k = gd ∨ st.ownBlock = some k

set_option maxHeartbeats 1000000 in
theorem qlen0_any (lo gd : Nat) (vf tf mp st : Value) (jk : List Value) (xs : List Int) (w : World) (hb : w.heap[gd]? = some (.cells #[vf, tf, .int .i64 (jk.length : Int), st, mp] 85 (0, 0))) (ho : w.ownsRow lo 72 1 st (jk.length + xs.length) (jk ++ nodeVs xs)) (hn : jk.length + xs.length ≤ 10000000) :
    Calls Tryz.prog 102 #[.pointer (some ⟨gd, 2, none⟩)] w fun e w' => e = .returned (.int .i64 xs.length) ∧ Below w.heap.size w w' := by
  obtain ⟨A, c, rfl⟩ := own_slice ho
  have h3 : w.cell? ⟨gd, 3, none⟩ = some (.slice A (jk.length + xs.length) c) := (blk_cell hb 3).trans rfl
  have h2 : w.cell? ⟨gd, 2, none⟩ = some (.int .i64 (jk.length : Int)) := (blk_cell hb 2).trans rfl
  clear hb ho
  have HE := Aside0.mk (show (jk.length : Int) + (xs.length : Int) - (jk.length : Int) = (xs.length : Int) by omega)
  go_enter Tryz.func102, Tryz.ntmps102
  go_wp2
  go_region
  all_goals
    go_wp2
    go_ret
    exact ⟨by show Ending.returned (.int .i64 ((jk.length : Int) + (xs.length : Int) - (jk.length : Int))) = _; rw [HE.out], by repeat (first | exact Below.refl _ _ | apply below_drew1 | apply pw_below_drewN)⟩
theorem qlen_any (lo gd : Nat) (vf tf mp st : Value) (jk : List Value) (xs : List Int) (w : World) (h : Que lo w gd vf tf mp st jk xs) (hn : jk.length + xs.length ≤ 10000000) :
    Calls Tryz.prog 102 #[.pointer (some ⟨gd, 2, none⟩)] w fun e w' => e = .returned (.int .i64 xs.length) ∧ Below w.heap.size w w' :=
  qlen0_any lo gd vf tf mp st jk xs w h.blk h.own hn

theorem Que.put {lo : Nat} {w : World} {gd : Nat} {vf tf mp hd st st' : Value} {jk : List Value} {ys : List Int} (h : w.heap[gd]? = some (.cells #[vf, tf, hd, st, mp] 85 (0, 0))) (hh : hd = .int .i64 (jk.length : Int)) (ho : w.ownsRow lo 72 1 st' (jk.length + ys.length) (jk ++ nodeVs ys)) (hne : st'.ownBlock ≠ some gd) (he : ys = [] → jk = []) : Que lo (w.setCell ⟨gd, 3, none⟩ st') gd vf tf mp st' jk ys := by
  subst hh
  exact ⟨blk_put (cs := #[vf, tf, .int .i64 (jk.length : Int), st, mp]) h 3 _ rfl, own_of_heap ho fun k hk => Below.heap_setCell _ _ _ _ (fun e => hne (by rw [hk, e])), he⟩

/-- the queue's row, its end moved to its beginning -/
theorem own_moved {w w1 : World} {lo g n c : Nat} {cur : List Value} {jk : List Value} {xs : List Int} (h : w.ownsRow lo 72 1 (.slice (some ⟨g, 0, none⟩) n c) n (jk ++ nodeVs xs)) (hcur : w.heap[g]? = some (.cells cur.toArray 72 (0, 0)))
    (h1 : w1.heap[g]? = some (.cells (splice cur 0 (nodeVs xs)).toArray 72 (0, 0))) : w1.ownsRow lo 72 1 (.slice (some ⟨g, 0, none⟩) xs.length c) xs.length (nodeVs xs) := by
  have hl := h.1
  rw [List.length_append, nodeVs_len] at hl
  rcases h.2 with ⟨hv, _⟩ | ⟨g', cap, cu, hv, hb, hg, hn, hc, hs, ht⟩
  · cases hv
  · simp only [Value.slice.injEq, Option.some.injEq, Addr.mk.injEq] at hv
    obtain ⟨⟨rfl, _⟩, _, rfl⟩ := hv
    rw [hcur] at hg
    simp only [Option.some.injEq, Obj.cells.injEq] at hg
    obtain ⟨rfl, _⟩ := hg
    simp only [List.size_toArray] at hs
    refine ⟨by rw [nodeVs_len]; omega, .inr ⟨g, c, _, rfl, hb, h1, by omega, hc, ?_, ?_⟩⟩
    · simp only [splice, List.size_toArray, List.length_append, List.length_take, List.length_drop, nodeVs_len]; omega
    · simp only [splice, List.take_zero, List.nil_append]
      rw [show xs.length * 1 = (nodeVs xs).length by rw [nodeVs_len]; omega]
      exact List.take_left

theorem grown_drewN (w : World) (n : Nat) (row : Option Nat) : w.grownBy (w.drewN n) row := ⟨rfl, rfl, rfl, Nat.le_refl _, fun _ _ _ => rfl⟩
theorem own_drewN {w : World} {base : Nat} {e : TypeId} {size n : Nat} {v : Value} {xs : List Value} (h : w.ownsRow base e size v n xs) (k : Nat) : (w.drewN k).ownsRow base e size v n xs := h

set_option maxHeartbeats 2000000 in
set_option maxRecDepth 100000 in
theorem enq_plain (lo gd : Nat) (vf tf mp : Value) (A : Option Addr) (c : Nat) (jk : List Value) (xs : List Int) (x : Int) (b1 b2 : Bool) (w : World) (h : Que lo w gd vf tf mp (.slice A (jk.length + xs.length) c) jk xs) (hn : jk.length + xs.length ≤ 10000000) (hlo : lo ≤ w.heap.size)
    (hb1 : ((jk.length : Int) + (xs.length : Int) == (c : Int)) = b1) (hb2 : decide (0 < jk.length) = b2) (hb : (b1 && b2) = false) (hj : jk ≠ [] → xs ≠ []) :
    Calls Tryz.prog 101 #[.pointer (some ⟨gd, 2, none⟩), .iface 97 (.int .i64 x)] w fun e w' => e = .returned (.tuple #[]) ∧ ∃ st' jk', Que lo w' gd vf tf mp st' jk' (xs ++ [x]) ∧ jk'.length ≤ jk.length ∧ KeepF (QM gd (.slice A (jk.length + xs.length) c)) w w' ∧ (st'.ownBlock = (Value.slice A (jk.length + xs.length) c).ownBlock ∨ ∃ q, st'.ownBlock = some q ∧ w.heap.size ≤ q) := by
  have h3 : w.cell? ⟨gd, 3, none⟩ = some (.slice A (jk.length + xs.length) c) := (blk_cell h.blk 3).trans rfl
  have h2 : w.cell? ⟨gd, 2, none⟩ = some (.int .i64 (jk.length : Int)) := (blk_cell h.blk 2).trans rfl
  have hf := blk_frozen h.blk 3
  have HB := Aside0.mk h
  have hgl := blk_lt h.blk
  obtain ⟨i0, hi, hz0, hz1, hz2⟩ := info_parts Tryz.info72
  have HI := Aside0.mk (And.intro hi (And.intro hz0 (And.intro hz1 hz2)))
  have HL := Aside0.mk (show (jk ++ nodeVs xs).length = jk.length + xs.length by rw [List.length_append, nodeVs_len])
  clear h hi hz0 hz1 hz2
  cases b1 <;> cases b2 <;> first | (exact absurd hb (by decide)) | skip
  all_goals
    clear hb
    go_enter Tryz.func101, Tryz.ntmps101
    go_wp2
    go_quiet (fail)
    go_wp2_with (at_builtin; refine wpList_append_own_at _ rfl _ _ 68 rfl lo 72 i0 .nilIface 1 16 Tryz.underlying68 HI.out.1 HI.out.2.1 HI.out.2.2.1 HI.out.2.2.2 rfl (by decide) _ (jk.length + xs.length) (jk ++ nodeVs xs) rfl (World.ownsRow.alloc (own_drewN HB.out.own nq) _) ⟨w.heap.size, 0, none⟩ 1 1 [.iface 97 (.int .i64 x)] rfl rfl (cell_one_new (w.drewN nq) _ _) (by intro u hu; simp at hu; subst hu; rfl) (by unfold maxLen; omega) (by omega) (by simp; omega) ?_; intro v' w1 hown hgr _ hat; have HOW := Aside0.mk (And.intro hown (And.intro hgr hat)); clear hown hgr hat; obtain ⟨A', c', hv'⟩ := own_slice HOW.out.1; subst hv'; have hg0 := ((grown_drewN w nq (Value.slice A (jk.length + xs.length) c).ownBlock).trans (World.grownBy_alloc (w.drewN nq) (.cells #[.iface 97 (.int .i64 x)] 72) (Value.slice A (jk.length + xs.length) c).ownBlock)).trans HOW.out.2.1; have HG := Aside0.mk hg0; have hblk := (hg0.block gd hgl (fun e => HB.out.apart e.symm)).trans HB.out.blk; have hc2 : w1.cell? ⟨gd, 3, none⟩ = some (.slice A (jk.length + xs.length) c) := (blk_cell hblk 3).trans rfl; have hf2 := blk_frozen hblk 3; have HBL := Aside0.mk hblk; clear hg0 hblk)
    go_end0
    have hne : (Value.slice A' (jk.length + xs.length + 1) c').ownBlock ≠ some gd := fun e => by
      obtain ⟨cc, hcc⟩ := own_block HOW.out.1 e
      exact absurd (blk_type HBL.out hcc) (by decide)
    refine ⟨rfl, _, jk, Que.put HBL.out rfl ?_ hne (fun e => by simp at e), Nat.le_refl _, ?_, ?_⟩
    · rw [nodeVs_append, ← List.append_assoc, List.length_append]; exact HOW.out.1
    · exact (KeepF.of_grown HG.out (fun k hk => .inr hk)).trans (KeepF.of_grown (grown_set _ _ _ _) (fun k hk => .inl (Option.some.inj hk).symm))
    · exact HOW.out.2.2.imp id (fun h => ⟨_, h, by simp⟩)

theorem Que.facts {lo : Nat} {w : World} {gd : Nat} {vf tf mp st : Value} {jk : List Value} {u : Int} {q : List Int} (h : Que lo w gd vf tf mp st jk (u :: q)) :
    ∃ g c, st = .slice (some ⟨g, 0, none⟩) (jk.length + (q.length + 1)) c ∧ jk.length + (q.length + 1) ≤ c ∧ w.cell? ⟨gd, 2, none⟩ = some (.int .i64 (jk.length : Int)) ∧ w.cell? ⟨gd, 3, none⟩ = some (.slice (some ⟨g, 0, none⟩) (jk.length + (q.length + 1)) c) ∧
      w.frozen? ⟨gd, 2, none⟩ = false ∧ w.frozen? ⟨gd, 3, none⟩ = false ∧ w.cell? ⟨g, jk.length, none⟩ = some (.iface 97 (.int .i64 u)) ∧ w.frozen? ⟨g, jk.length, none⟩ = false ∧ g ≠ gd := by
  have hl : (u :: q).length = q.length + 1 := rfl
  obtain ⟨g, c, rfl, hc, hcell, cur, hcur⟩ := own_cells h.own (by rw [hl]; omega)
  have hne := h.apart
  refine ⟨g, c, by rw [hl], by rw [hl] at hc; exact hc, (blk_cell h.blk 2).trans rfl, (blk_cell h.blk 3).trans (by rw [hl]; rfl), blk_frozen h.blk 2, blk_frozen h.blk 3, hcell jk.length _ ?_, blk_frozen hcur _, fun e => hne (by rw [← e]; rfl)⟩
  rw [List.getElem?_append_right (Nat.le_refl _), Nat.sub_self]; rfl

theorem Que.deq {lo : Nat} {w : World} {gd g c : Nat} {vf tf mp st : Value} {jk : List Value} {u : Int} {q : List Int} (h : Que lo w gd vf tf mp st jk (u :: q)) (hst : st = .slice (some ⟨g, 0, none⟩) (jk.length + (q.length + 1)) c) (hne : g ≠ gd) :
    ((w.setCell ⟨g, jk.length, none⟩ .nilIface).setCell ⟨gd, 2, none⟩ (.int .i64 ((jk.length : Int) + 1))).drew.heap[gd]? = some (.cells #[vf, tf, .int .i64 ((jk ++ [Value.nilIface]).length : Int), st, mp] 85 (0, 0)) ∧
    ((w.setCell ⟨g, jk.length, none⟩ .nilIface).setCell ⟨gd, 2, none⟩ (.int .i64 ((jk.length : Int) + 1))).drew.ownsRow lo 72 1 st ((jk ++ [Value.nilIface]).length + q.length) ((jk ++ [Value.nilIface]) ++ nodeVs q) ∧
    KeepF (QM gd st) w ((w.setCell ⟨g, jk.length, none⟩ .nilIface).setCell ⟨gd, 2, none⟩ (.int .i64 ((jk.length : Int) + 1))).drew := by
  have hb1 : (w.setCell ⟨g, jk.length, none⟩ .nilIface).heap[gd]? = some (.cells #[vf, tf, .int .i64 (jk.length : Int), st, mp] 85 (0, 0)) := (Below.heap_setCell _ _ _ _ (fun e => hne e.symm)).trans h.blk
  refine ⟨?_, ?_, ?_⟩
  · have := blk_put (cs := #[vf, tf, .int .i64 (jk.length : Int), st, mp]) hb1 2 (.int .i64 ((jk.length : Int) + 1)) rfl
    rw [List.length_append, List.length_singleton]
    exact this
  · have ho := h.own
    subst hst
    have hl : (jk ++ [Value.nilIface]).length + q.length = jk.length + (u :: q).length := by simp; omega
    rw [hl]
    have hs := (World.ownsRow.stored ho jk.length .nilIface).1
    have e : (jk ++ nodeVs (u :: q)).set jk.length .nilIface = (jk ++ [Value.nilIface]) ++ nodeVs q := by
      rw [List.set_append_right _ _ (Nat.le_refl _), Nat.sub_self]
      show jk ++ (nodeV u :: nodeVs q).set 0 .nilIface = _
      rw [List.set_cons_zero, List.append_assoc]; rfl
    rw [e] at hs
    exact own_of_heap hs fun k hk => Below.heap_setCell _ _ _ _ (fun e => by
      have := Option.some.inj hk
      exact hne (this.trans e))
  · refine (KeepF.of_grown (grown_set w g jk.length .nilIface) (fun k hk => .inr ?_)).trans ((KeepF.of_grown (grown_set _ gd 2 _) (fun k hk => .inl (Option.some.inj hk).symm)).trans (KeepF.of_grown (grownBy_drew _ none) (fun k hk => by cases hk)))
    rw [hst, ← Option.some.inj hk]; rfl

set_option maxHeartbeats 4000000 in
set_option maxRecDepth 100000 in
theorem deq_any (lo gd : Nat) (vf tf mp st : Value) (jk : List Value) (q : List Int) (u : Int) (w : World) (h : Que lo w gd vf tf mp st jk (u :: q)) (hn : jk.length + (u :: q).length ≤ 10000000) :
    Calls Tryz.prog 103 #[.pointer (some ⟨gd, 2, none⟩)] w fun e w' => e = .returned (.iface 97 (.int .i64 u)) ∧ ∃ st' jk', Que lo w' gd vf tf mp st' jk' q ∧ jk'.length ≤ jk.length + 1 ∧ st'.ownBlock = st.ownBlock ∧ KeepF (QM gd st) w w' := by
  have HQ := Aside0.mk h
  have hlen : ((u :: q).length : Int) = (q.length : Int) + 1 := by simp
  have HN := Aside0.mk hlen
  have HK := Aside0.mk hn
  have hn' : jk.length + (q.length + 1) ≤ 10000000 := hn
  have HK2 := Aside0.mk (show (jk ++ [Value.nilIface]).length + q.length ≤ 10000000 by simp; omega)
  clear h hlen hn
  have hcase : q = [] ∨ ((q.length : Int) == 0) = false := by
    cases q with
    | nil => exact .inl rfl
    | cons a q => right; rw [beq_eq_false_iff_ne]; simp; omega
  go_enter Tryz.func103, Tryz.ntmps103
  go_wp2_with (go_at_call 102; refine (qlen_any lo gd vf tf mp st jk (u :: q) _ HQ.out HK.out).mono ?_; rintro e w1 ⟨rfl, hb1⟩; rw [HN.out]; have HB1 := Aside0.mk hb1; have HQ1 := Aside0.mk (HQ.out.stay (hb1.block _ (blk_lt HQ.out.blk)) (fun k hk => hb1.block k (by obtain ⟨c, hc⟩ := own_block HQ.out.own hk; exact blk_lt hc))); clear hb1)
  obtain ⟨g, c, hst, hc, h2, h3, f2, f3, hu, fu, hne⟩ := HQ1.out.facts
  have HDQ := Aside0.mk (HQ1.out.deq hst hne)
  have HST := Aside0.mk hst
  clear hst
  have b1 : (0 : Int) ≤ (jk.length : Int) := by omega
  have b2 : (jk.length : Int) < ((jk.length + (q.length + 1) : Nat) : Int) := by omega
  have b3 : (jk.length : Int) < (jk.length : Int) + ((q.length : Int) + 1) := by omega
  have HCA := Aside0.mk hcase
  clear hcase
  go_region
  all_goals
    go_wp2_with fail
    refine (qlen0_any lo gd vf tf mp st (jk ++ [.nilIface]) q _ HDQ.out.1 HDQ.out.2.1 HK2.out).mono ?_
    rintro e w2 ⟨rfl, hb2⟩
    have HB2 := Aside0.mk hb2
    have hblk := (hb2.block _ (blk_lt HDQ.out.1)).trans HDQ.out.1
    have HBL := Aside0.mk hblk
    have HOW := Aside0.mk (own_of_heap HDQ.out.2.1 (fun k hk => hb2.block k (by obtain ⟨c, hc⟩ := own_block HDQ.out.2.1 hk; exact blk_lt hc)))
    have HKP := Aside0.mk ((KeepF.of_below (M := QM gd st) HB1.out).trans (HDQ.out.2.2.trans (KeepF.of_below hb2)))
    have h3' : w2.cell? ⟨gd, 3, none⟩ = some (.slice (some ⟨g, 0, none⟩) (jk.length + (q.length + 1)) c) := by rw [← HST.out]; exact (blk_cell hblk 3).trans rfl
    have h2' : w2.cell? ⟨gd, 2, none⟩ = some (.int .i64 ((jk ++ [Value.nilIface]).length : Int)) := (blk_cell hblk 2).trans rfl
    have f2' := blk_frozen hblk 2
    have f3' := blk_frozen hblk 3
    have HNE := Aside0.mk hne
    clear hb2 hblk h2 h3 f2 f3 hu fu b1 b2 b3 hne
    rcases HCA.out with hq | hq
    · subst hq
      rw [show (([] : List Int).length : Int) = 0 from rfl]
      go_wp2
      go_ret
      refine ⟨rfl, .slice (some ⟨g, 0, none⟩) 0 c, [], ?_, by simp, by rw [HST.out]; rfl, ?_⟩
      · have hcut := own_cut (m := 0) (by have := HOW.out; rw [HST.out, show (jk ++ [Value.nilIface]).length + ([] : List Int).length = jk.length + (([] : List Int).length + 1) by simp] at this; exact this) (by omega)
        refine Que.put (st := st) (jk := []) (hd := .int .i64 0) (blk_put (cs := #[vf, tf, .int .i64 ((jk ++ [Value.nilIface]).length : Int), st, mp]) HBL.out 2 _ rfl) rfl ?_ (fun e => HNE.out (Option.some.inj e)) (fun _ => rfl)
        exact own_of_heap hcut fun k hk => Below.heap_setCell _ _ _ _ (fun e => HNE.out ((Option.some.inj hk).trans e))
      · exact (HKP.out.trans (KeepF.of_grown (grown_set _ gd 2 _) (fun k hk => .inl (Option.some.inj hk).symm))).trans (KeepF.of_grown (grown_set _ gd 3 _) (fun k hk => .inl (Option.some.inj hk).symm))
    · have HQN := Aside0.mk (show q ≠ [] from fun e => by subst e; simp at hq)
      go_wp2
      go_ret
      exact ⟨rfl, st, jk ++ [.nilIface], ⟨HBL.out, HOW.out, fun e => absurd e HQN.out⟩, by simp, rfl, HKP.out⟩
end Go.Proofs.YtolbfjjgdheikaaGreat.R


/- A node is put into a queue. -/
namespace Go.Proofs.YtolbfjjgdheikaaGreat.R
open Go.RowKit Go.Lab Go.Maps Go.Proofs.YtolbfjjgdheikaaGreatW.PrintWords Go.Proofs.YtolbfjjgdheikaaGreatW.PrintLast Go.Proofs.YtolbfjjgdheikaaGreatW.PrintMore PL

theorem info105s : (Tryz.prog.info? 72).map (·.size) = some 1 := by kernel_rfl

set_option maxHeartbeats 4000000 in
set_option maxRecDepth 100000 in
theorem enq_move (lo gd : Nat) (vf tf mp : Value) (A : Option Addr) (jk : List Value) (xs : List Int) (x : Int) (n : Nat) (w : World) (h : Que lo w gd vf tf mp (.slice A n n) jk xs) (hnn : n = jk.length + xs.length) (hn : jk.length + xs.length ≤ 10000000) (hlo : lo ≤ w.heap.size)
    (h1 : 0 < jk.length) (h2 : 0 < xs.length) :
    Calls Tryz.prog 101 #[.pointer (some ⟨gd, 2, none⟩), .iface 97 (.int .i64 x)] w fun e w' => e = .returned (.tuple #[]) ∧ ∃ st' jk', Que lo w' gd vf tf mp st' jk' (xs ++ [x]) ∧ jk'.length ≤ jk.length ∧ KeepF (QM gd (.slice A n n)) w w' ∧ (st'.ownBlock = (Value.slice A n n).ownBlock ∨ ∃ q, st'.ownBlock = some q ∧ w.heap.size ≤ q) := by
  obtain ⟨g, c, hst, hc, _, cu, hcu⟩ := own_cells h.own (by omega)
  simp only [Value.slice.injEq] at hst
  have hA := hst.1
  clear hst
  subst hA
  have h3 : w.cell? ⟨gd, 3, none⟩ = some (.slice (some ⟨g, 0, none⟩) n n) := (blk_cell h.blk 3).trans rfl
  have h2' : w.cell? ⟨gd, 2, none⟩ = some (.int .i64 (jk.length : Int)) := (blk_cell h.blk 2).trans rfl
  have HB := Aside0.mk h
  have hgl := blk_lt h.blk
  have hne : g ≠ gd := fun e => h.apart (by rw [← e]; rfl)
  obtain ⟨i0, hi, hz0, hz1, hz2⟩ := info_parts Tryz.info72
  have HI := Aside0.mk (And.intro hi (And.intro hz0 (And.intro hz1 hz2)))
  have hd : decide (0 < jk.length) = true := decide_eq_true h1
  have hlt1 : (jk.length : Int) ≤ (n : Int) := by omega
  have hlt2 : jk.length ≤ n := by omega
  have hlt3 : ¬ n = jk.length := by omega
  have hlt5 : xs.length ≤ n := by omega
  have HNN := Aside0.mk hnn
  have HNE := Aside0.mk hne
  clear h hi hz0 hz1 hz2 hnn hcu hc hne
  go_enter Tryz.func101, Tryz.ntmps101
  go_wp2
  go_quiet (fail)
  go_wp2_with fail
  refine (qlen_any lo gd vf tf mp (.slice (some ⟨g, 0, none⟩) n n) jk xs (w.drewN nq) ⟨HB.out.blk, HB.out.own, HB.out.ne⟩ hn).mono ?_
  rintro e w1 ⟨rfl, hb1⟩
  have HB1 := Aside0.mk (show Below w.heap.size w w1 from ⟨hb1.os, hb1.tape, hb1.output, hb1.size, hb1.block⟩)
  have HQ1 := Aside0.mk (show Que lo w1 gd vf tf mp (.slice (some ⟨g, 0, none⟩) n n) jk xs from HB.out.stay (hb1.block _ (blk_lt HB.out.blk)) (fun k hk => hb1.block k (by obtain ⟨c, hc⟩ := own_block HB.out.own hk; exact blk_lt hc)))
  clear hb1
  have k3 : w1.cell? ⟨gd, 3, none⟩ = some (.slice (some ⟨g, 0, none⟩) n n) := (blk_cell HQ1.out.blk 3).trans rfl
  have k2 : w1.cell? ⟨gd, 2, none⟩ = some (.int .i64 (jk.length : Int)) := (blk_cell HQ1.out.blk 2).trans rfl
  obtain ⟨cu1, hcu1⟩ : ∃ cu : List Value, w1.heap[g]? = some (.cells cu.toArray 72 (0, 0)) := by
    obtain ⟨_, _, hst, _, _, cu, hcu⟩ := own_cells HQ1.out.own (by omega)
    simp only [Value.slice.injEq, Option.some.injEq, Addr.mk.injEq] at hst
    obtain ⟨⟨rfl, _⟩, _⟩ := hst
    exact ⟨cu.toList, by simpa using hcu⟩
  have HCU := Aside0.mk hcu1
  have hmin : Nat.min (jk.length + xs.length - jk.length) (jk.length + xs.length) = xs.length := by
    show min _ _ = _
    omega
  have HLN := Aside0.mk (show (nodeVs xs).length = Nat.min (n - jk.length) n * 1 by rw [nodeVs_len, HNN.out, hmin, Nat.mul_one])
  clear hmin
  have HSR := Aside0.mk (show ∀ j v, (nodeVs xs)[j]? = some v → w1.drew.cell? ((⟨g, jk.length, none⟩ : Addr).add j) = some v by
    intro j v hv
    obtain ⟨g', c', hst, _, hcell, _⟩ := own_cells HQ1.out.own (by omega)
    simp only [Value.slice.injEq, Option.some.injEq, Addr.mk.injEq] at hst
    obtain ⟨⟨rfl, _⟩, _⟩ := hst
    have ha : (⟨g, jk.length, none⟩ : Addr).add j = ⟨g, jk.length + j, none⟩ := by unfold Addr.add; split <;> simp_all
    rw [ha]
    exact hcell (jk.length + j) v (by rw [List.getElem?_append_right (by omega), Nat.add_sub_cancel_left]; exact hv))
  have HFT := Aside0.mk (show 0 + (nodeVs xs).length ≤ cu1.length by
    have := HQ1.out.own.2
    rcases this with ⟨hv, _⟩ | ⟨g', cap, cur, hv, _, hg, hn', hc', hs, _⟩
    · cases hv
    · simp only [Value.slice.injEq, Option.some.injEq, Addr.mk.injEq] at hv
      obtain ⟨⟨rfl, _⟩, _, rfl⟩ := hv
      rw [hcu1] at hg
      simp only [Option.some.injEq, Obj.cells.injEq] at hg
      obtain ⟨rfl, _⟩ := hg
      simp only [List.size_toArray] at hs
      rw [nodeVs_len]; have := HNN.out; omega)
  have HON := Aside0.mk (show ∀ v ∈ nodeVs xs, v.oneCell' = true by intro v hv; unfold nodeVs at hv; obtain ⟨y, _, rfl⟩ := List.mem_map.1 hv; rfl)
  clear hcu1 h3 h2'
  go_wp2_with fail
  go_region_law
    (refine step_copyk rfl (.tmp 28) (.tmp 37) 68 68 rfl 72 1 Tryz.underlying68 info105s g 0 n n ⟨g, jk.length, none⟩ (n - jk.length) (n - jk.length) (by rfl) (by rfl) cu1 72 (by exact HCU.out) (nodeVs xs) (by exact HLN.out) (by exact HSR.out) (by exact HFT.out) (by exact HON.out) ?_; intro w2 hg2 hgr2; have HG2 := Aside0.mk (And.intro hg2 hgr2); clear hg2 hgr2)
  all_goals
    have hblk := (HG2.out.2.block gd (blk_lt HQ1.out.blk) (fun e => HNE.out (Option.some.inj e).symm)).trans HQ1.out.blk
    have q2 : w2.cell? ⟨gd, 2, none⟩ = some (.int .i64 (jk.length : Int)) := (blk_cell hblk 2).trans rfl
    have q3 : w2.cell? ⟨gd, 3, none⟩ = some (.slice (some ⟨g, 0, none⟩) n n) := (blk_cell hblk 3).trans rfl
    have f2 := blk_frozen hblk 2
    have f3 := blk_frozen hblk 3
    have hb0 := blk_put (cs := #[vf, tf, .int .i64 (jk.length : Int), .slice (some ⟨g, 0, none⟩) n n, mp]) hblk 2 (.int .i64 0) rfl
    have HB0 := Aside0.mk (show (w2.setCell ⟨gd, 2, none⟩ (.int .i64 0)).heap[gd]? = some (.cells #[vf, tf, .int .i64 0, .slice (some ⟨g, 0, none⟩) n n, mp] 85 (0, 0)) from hb0)
    have HGL := Aside0.mk (show gd < (w2.setCell ⟨gd, 2, none⟩ (.int .i64 0)).heap.size from blk_lt hb0)
    have HOM := Aside0.mk (show (w2.setCell ⟨gd, 2, none⟩ (.int .i64 0)).ownsRow lo 72 1 (.slice (some ⟨g, 0, none⟩) xs.length n) xs.length (nodeVs xs) from own_of_heap (own_moved (by have := HQ1.out.own; rw [← HNN.out] at this; exact this) HCU.out HG2.out.1) fun k hk => Below.heap_setCell _ _ _ _ (fun e => HNE.out ((Option.some.inj hk).trans e)))
    have HSZ := Aside0.mk (show lo ≤ w2.heap.size from Nat.le_trans hlo (Nat.le_trans HB1.out.size HG2.out.2.size))
    clear hblk k2 k3 hb0
    go_wp2_with (at_builtin; refine wpList_append_own_at _ rfl _ _ 68 rfl lo 72 i0 .nilIface 1 16 Tryz.underlying68 HI.out.1 HI.out.2.1 HI.out.2.2.1 HI.out.2.2.2 rfl (by decide) _ xs.length (nodeVs xs) rfl (World.ownsRow.alloc HOM.out _) ⟨w2.heap.size, 0, none⟩ 1 1 [.iface 97 (.int .i64 x)] rfl rfl (by have := cell_one_new (w2.setCell ⟨gd, 2, none⟩ (.int .i64 0)) (.iface 97 (.int .i64 x)) 72; simpa using this) (by intro u hu; simp at hu; subst hu; rfl) (by unfold maxLen; omega) (by omega) (by have := HSZ.out; simp; omega) ?_; intro v' w3 hown hgr _ hat; have HOW := Aside0.mk (And.intro hown (And.intro hgr hat)); clear hown hgr hat; obtain ⟨A', c', hv'⟩ := own_slice HOW.out.1; subst hv'; have hg0 := (World.grownBy_alloc (w2.setCell ⟨gd, 2, none⟩ (.int .i64 0)) (.cells #[.iface 97 (.int .i64 x)] 72) (some g)).trans HOW.out.2.1; have HG := Aside0.mk hg0; have hblk := (hg0.block gd HGL.out (fun e => HNE.out (Option.some.inj e).symm)).trans HB0.out; have hc2 : w3.cell? ⟨gd, 3, none⟩ = some (.slice (some ⟨g, 0, none⟩) n n) := (blk_cell hblk 3).trans rfl; have hf2 := blk_frozen hblk 3; have HBL := Aside0.mk hblk; clear hg0 hblk)
    go_end0
    have hne : (Value.slice A' (xs.length + 1) c').ownBlock ≠ some gd := fun e => by
      obtain ⟨cc, hcc⟩ := own_block HOW.out.1 e
      exact absurd (blk_type HBL.out hcc) (by decide)
    refine ⟨rfl, _, [], Que.put (jk := []) HBL.out rfl ?_ hne (fun e => by simp at e), Nat.zero_le _, ?_, ?_⟩
    · rw [nodeVs_append, List.nil_append, List.length_append]
      have := HOW.out.1
      rw [show ([] : List Value).length + (xs.length + [x].length) = xs.length + 1 by simp]
      exact this
    · have k1 : KeepF (QM gd (.slice (some ⟨g, 0, none⟩) n n)) w w1 := KeepF.of_below HB1.out
      have k2 : KeepF (QM gd (.slice (some ⟨g, 0, none⟩) n n)) w1 w2 := (KeepF.of_grown (grownBy_drew w1 none) (fun k hk => by cases hk)).trans (KeepF.of_grown HG2.out.2 (fun k hk => .inr hk))
      exact (k1.trans k2).trans ((KeepF.of_grown (grown_set w2 gd 2 _) (fun k hk => .inl (Option.some.inj hk).symm)).trans ((KeepF.of_grown HG.out (fun k hk => .inr hk)).trans (KeepF.of_grown (grown_set w3 gd 3 _) (fun k hk => .inl (Option.some.inj hk).symm))))
    · refine HOW.out.2.2.imp id (fun h => ⟨_, h, ?_⟩)
      have := HB1.out.size
      have h2 := HG2.out.2.size
      simp at h2 ⊢
      omega

theorem enq_any (lo gd : Nat) (vf tf mp st : Value) (jk : List Value) (xs : List Int) (x : Int) (w : World) (h : Que lo w gd vf tf mp st jk xs) (hn : jk.length + xs.length ≤ 9999999) (hlo : lo ≤ w.heap.size) :
    Calls Tryz.prog 101 #[.pointer (some ⟨gd, 2, none⟩), .iface 97 (.int .i64 x)] w fun e w' => e = .returned (.tuple #[]) ∧ ∃ st' jk', Que lo w' gd vf tf mp st' jk' (xs ++ [x]) ∧ jk'.length ≤ jk.length ∧ KeepF (QM gd st) w w' ∧ (st'.ownBlock = st.ownBlock ∨ ∃ q, st'.ownBlock = some q ∧ w.heap.size ≤ q) := by
  obtain ⟨A, c, rfl⟩ := own_slice h.own
  have hj : jk ≠ [] → xs ≠ [] := fun h1 h2 => h1 (h.ne h2)
  by_cases hc : jk.length + xs.length = c ∧ 0 < jk.length
  · obtain ⟨h1, h2⟩ := hc
    have h3 : 0 < xs.length := List.length_pos_iff.2 (hj (List.length_pos_iff.1 h2))
    rw [h1] at h
    have := enq_move lo gd vf tf mp A jk xs x c w h h1.symm (by omega) hlo h2 h3
    rw [h1]
    exact this
  · refine enq_plain lo gd vf tf mp A c jk xs x _ _ w h (by omega) hlo rfl rfl ?_ hj
    rw [Bool.and_eq_false_iff]
    by_cases h1 : jk.length + xs.length = c
    · right; exact decide_eq_false (fun h2 => hc ⟨h1, h2⟩)
    · left; rw [beq_eq_false_iff_ne]; omega
end Go.Proofs.YtolbfjjgdheikaaGreat.R


/- The state of one walk breadth first of a walk through all. -/
namespace Go.Proofs.YtolbfjjgdheikaaGreat.R
open Go.RowKit Go.Lab Go.Maps Go.Proofs.YtolbfjjgdheikaaGreatW.PrintWords Go.Proofs.YtolbfjjgdheikaaGreatW.PrintLast Go.Proofs.YtolbfjjgdheikaaGreatW.PrintMore PL

theorem KeepF.imp {M M' : Nat → Prop} {w w' : World} (h : KeepF M w w') (hm : ∀ k, M k → M' k) : KeepF M' w w' :=
  ⟨h.os, h.tape, h.output, h.size, fun k hk hn => h.block k hk (fun hM => hn (hm k hM))⟩
/-- the state of a walk: w0: the world at the beginning of all walks, wF: at the beginning of this one, F: the blocks that it leaves alone -/
structure DB (K : Kp) (F : Nat → Prop) (w0 wF w : World) (gd gv gm : Nat) (st vv : Value) (jk : List Value) (q vis pt : List Int) : Prop where
  ok : K.Ok
  que : Que w0.heap.size w gd .nilFunc .nilFunc (.map (some gm)) st jk q
  set : SetOk w gm vis
  gmL : w0.heap.size ≤ gm
  gat : Gat K w0.heap.size w gv vv pt
  gv0 : gv < w0.heap.size
  gd0 : gd < w0.heap.size
  kp : KeepF (WM gd gv w0.heap.size) w0 w
  sep : ∀ k, st.ownBlock = some k → vv.ownBlock ≠ some k
  nF : ∀ k, F k → w0.heap.size ≤ k ∧ k < w.heap.size ∧ st.ownBlock ≠ some k ∧ vv.ownBlock ≠ some k ∧ k ≠ gm ∧ w.heap[k]? = wF.heap[k]?

section
variable {K : Kp} {F : Nat → Prop} {w0 wF w w1 wa : World} {gd gv gm : Nat} {st vv : Value} {jk : List Value} {q vis pt : List Int}
theorem DB.L (h : DB K F w0 wF w gd gv gm st vv jk q vis pt) : w0.heap.size ≤ w.heap.size := h.kp.size
theorem DB.stLt (h : DB K F w0 wF w gd gv gm st vv jk q vis pt) {k : Nat} (hk : st.ownBlock = some k) : k < w.heap.size := by
  obtain ⟨c, hc⟩ := own_block h.que.own hk; exact blk_lt hc
theorem DB.vvLt (h : DB K F w0 wF w gd gv gm st vv jk q vis pt) {k : Nat} (hk : vv.ownBlock = some k) : k < w.heap.size := by
  obtain ⟨c, hc⟩ := own_block h.gat.own hk; exact blk_lt hc
theorem DB.apart (h : DB K F w0 wF w gd gv gm st vv jk q vis pt) {k : Nat} (hk : st.ownBlock = some k) : k ≠ gd ∧ k ≠ gv ∧ k ≠ gm ∧ vv.ownBlock ≠ some k := by
  obtain ⟨c, hc⟩ := own_block h.que.own hk
  refine ⟨fun e => ?_, fun e => ?_, h.set.cells_ne hc, h.sep k hk⟩
  · subst e; exact absurd (blk_type h.que.blk hc) (by decide)
  · subst e
    have := blk_type h.gat.blk hc
    rcases h.ok.1 with e | e <;> rw [e] at this <;> exact absurd this (by decide)
theorem DB.apartV (h : DB K F w0 wF w gd gv gm st vv jk q vis pt) {k : Nat} (hk : vv.ownBlock = some k) : k ≠ gd ∧ k ≠ gv ∧ k ≠ gm ∧ st.ownBlock ≠ some k := by
  obtain ⟨c, hc⟩ := own_block h.gat.own hk
  refine ⟨fun e => ?_, fun e => ?_, h.set.cells_ne hc, fun e => h.sep k e hk⟩
  · subst e
    have := blk_type h.que.blk hc
    rcases h.ok.2 with e | e <;> rw [e] at this <;> exact absurd this (by decide)
  · subst e
    have := blk_type h.gat.blk hc
    rcases h.ok.1 with e | e <;> rcases h.ok.2 with e2 | e2 <;> rw [e, e2] at this <;> exact absurd this (by decide)
theorem DB.gdm (h : DB K F w0 wF w gd gv gm st vv jk q vis pt) : gd ≠ gm ∧ gv ≠ gm ∧ gd ≠ gv :=
  ⟨h.set.cells_ne h.que.blk, h.set.cells_ne h.gat.blk, fun e => by
    subst e
    have := blk_type h.que.blk h.gat.blk
    rcases h.ok.1 with e | e <;> rw [e] at this <;> exact absurd this (by decide)⟩

/-- nothing of it is turned -/
theorem DB.stay (h : DB K F w0 wF w gd gv gm st vv jk q vis pt) (hk : KeepF (WM gd gv w0.heap.size) w w1) (hd : w1.heap[gd]? = w.heap[gd]?) (hv : w1.heap[gv]? = w.heap[gv]?) (hm : w1.heap[gm]? = w.heap[gm]?)
    (hs : ∀ k, st.ownBlock = some k → w1.heap[k]? = w.heap[k]?) (hvv : ∀ k, vv.ownBlock = some k → w1.heap[k]? = w.heap[k]?) (hF : ∀ k, F k → w1.heap[k]? = w.heap[k]?) : DB K F w0 wF w1 gd gv gm st vv jk q vis pt :=
  ⟨h.ok, h.que.stay hd hs, h.set.stay hm, h.gmL, h.gat.stay hv hvv, h.gv0, h.gd0, h.kp.trans hk, h.sep, fun k hk2 => by
    obtain ⟨a, b, c, d, e, f⟩ := h.nF k hk2
    exact ⟨a, Nat.lt_of_lt_of_le b hk.size, c, d, e, (hF k hk2).trans f⟩⟩
theorem DB.below (h : DB K F w0 wF w gd gv gm st vv jk q vis pt) (hb : Below w.heap.size w w1) : DB K F w0 wF w1 gd gv gm st vv jk q vis pt :=
  h.stay (KeepF.of_below hb) (hb.block _ (blk_lt h.que.blk)) (hb.block _ (blk_lt h.gat.blk)) (hb.block _ h.set.lt) (fun k hk => hb.block k (h.stLt hk)) (fun k hk => hb.block k (h.vvLt hk)) (fun k hk => hb.block k (h.nF k hk).2.1)
/-- the iterator goes on -/
theorem DB.mid (h : DB K F w0 wF w gd gv gm st vv jk q vis pt) {lo B : Nat} (hm : Mid lo B w w1) (hlo : w0.heap.size ≤ lo) (hgm : gm < lo) (hst : ∀ k, st.ownBlock = some k → k < lo ∨ B ≤ k) (hvv : ∀ k, vv.ownBlock = some k → k < lo) (hF : ∀ k, F k → k < lo) : DB K F w0 wF w1 gd gv gm st vv jk q vis pt := by
  have hd := blk_lt h.que.blk
  have hv := blk_lt h.gat.blk
  have h1 := h.gv0
  have h2 := h.gd0
  refine h.stay ⟨hm.os, hm.tape, hm.output, hm.size, fun k hk hn => hm.block k hk (.inl ?_)⟩ (hm.block _ hd (.inl (by omega))) (hm.block _ hv (.inl (by omega))) (hm.block _ h.set.lt (.inl hgm)) (fun k hk => hm.block k (h.stLt hk) (hst k hk)) (fun k hk => hm.block k (h.vvLt hk) (.inl (hvv k hk))) (fun k hk => hm.block k (h.nF k hk).2.1 (.inl (hF k hk)))
  unfold WM at hn
  omega
theorem DB.noQ (h : DB K F w0 wF w gd gv gm st vv jk q vis pt) {k : Nat} (h1 : k ≠ gd) (h2 : st.ownBlock ≠ some k) : ¬ QM gd st k := fun hm => by
  rcases hm with hm | hm
  · exact h1 hm
  · exact h2 hm
/-- the queue is turned -/
theorem DB.queS (h : DB K F w0 wF w gd gv gm st vv jk q vis pt) {st' : Value} {jk' : List Value} {q' : List Int} (hq : Que w0.heap.size w1 gd .nilFunc .nilFunc (.map (some gm)) st' jk' q') (hk : KeepF (QM gd st) w w1) (hat : st'.ownBlock = st.ownBlock ∨ ∃ y, st'.ownBlock = some y ∧ w.heap.size ≤ y) : DB K F w0 wF w1 gd gv gm st' vv jk' q' vis pt := by
  have hne := h.gdm
  refine ⟨h.ok, hq, h.set.stay (hk.block _ h.set.lt (h.noQ (fun e => hne.1 e.symm) (fun e => (h.apart e).2.2.1 rfl))), h.gmL, h.gat.stay (hk.block _ (blk_lt h.gat.blk) (h.noQ (fun e => hne.2.2 e.symm) (fun e => (h.apart e).2.1 rfl))) (fun k hv => hk.block k (h.vvLt hv) (h.noQ (h.apartV hv).1 (h.apartV hv).2.2.2)), h.gv0, h.gd0, h.kp.trans (hk.imp fun k hm => ?_), fun k hk2 hv => ?_, fun k hk2 => ?_⟩
  · rcases hm with hm | hm
    · exact .inl hm
    · exact .inr (.inr (own_base h.que.own k hm))
  · rcases hat with e | ⟨y, e, hy⟩
    · exact h.sep k (e ▸ hk2) hv
    · rw [e] at hk2
      have := h.vvLt hv
      have := Option.some.inj hk2
      omega
  · obtain ⟨a, b, c, d, e, f⟩ := h.nF k hk2
    have hgd := h.gd0
    refine ⟨a, Nat.lt_of_lt_of_le b hk.size, fun e2 => ?_, d, e, (hk.block k b (h.noQ (by omega) c)).trans f⟩
    rcases hat with e3 | ⟨y, e3, hy⟩
    · exact c (e3 ▸ e2)
    · rw [e3] at e2
      have := Option.some.inj e2
      omega
/-- a node is marked -/
theorem DB.setS (h : DB K F w0 wF w gd gv gm st vv jk q vis pt) {vis' : List Int} (hs : SetOk w1 gm vis') (hg : w.grownBy w1 (some gm)) : DB K F w0 wF w1 gd gv gm st vv jk q vis' pt := by
  have hne := h.gdm
  refine ⟨h.ok, h.que.stay (hg.block _ (blk_lt h.que.blk) (fun e => hne.1 (Option.some.inj e))) (fun k hk => hg.block k (h.stLt hk) (fun e => (h.apart hk).2.2.1 (Option.some.inj e))), hs, h.gmL, h.gat.stay (hg.block _ (blk_lt h.gat.blk) (fun e => hne.2.1 (Option.some.inj e))) (fun k hk => hg.block k (h.vvLt hk) (fun e => (h.apartV hk).2.2.1 (Option.some.inj e))), h.gv0, h.gd0,
    h.kp.trans (KeepF.of_grown hg (fun k hk => .inr (.inr (by have := h.gmL; have := Option.some.inj hk; omega)))), h.sep, fun k hk => ?_⟩
  obtain ⟨a, b, c, d, e, f⟩ := h.nF k hk
  exact ⟨a, Nat.lt_of_lt_of_le b hg.size, c, d, e, (hg.block k b (fun e2 => e (Option.some.inj e2))).trans f⟩
theorem DB.cells (h : DB K F w0 wF w gd gv gm st vv jk q vis pt) : w.cell? ⟨gd, 0, none⟩ = some .nilFunc ∧ w.cell? ⟨gd, 1, none⟩ = some .nilFunc ∧ w.cell? ⟨gd, 4, none⟩ = some (.map (some gm)) :=
  ⟨(blk_cell h.que.blk 0).trans rfl, (blk_cell h.que.blk 1).trans rfl, (blk_cell h.que.blk 4).trans rfl⟩
end
end Go.Proofs.YtolbfjjgdheikaaGreat.R

/- Was a node visited; a walk's object made new; the walk's until: breadth first. -/
namespace Go.Proofs.YtolbfjjgdheikaaGreat.R
open Go.RowKit Go.Lab Go.Maps Go.Proofs.YtolbfjjgdheikaaGreatW.PrintWords Go.Proofs.YtolbfjjgdheikaaGreatW.PrintLast Go.Proofs.YtolbfjjgdheikaaGreatW.PrintMore PL

end Go.Proofs.YtolbfjjgdheikaaGreat.R
