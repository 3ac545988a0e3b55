import Derived.Test.YtolbfjjgdheikaaGreatFT3
import Derived.Test.YtolbfjjgdheikaaGreatFK6
set_option linter.unusedVariables false
set_option linter.unusedSimpArgs false
/- The walk of strongconnect. -/
namespace Go.Proofs.YtolbfjjgdheikaaGreat.R
open Go.RowKit Go.Lab Go.Maps Go.Proofs.YtolbfjjgdheikaaGreatW.PrintWords Go.Proofs.YtolbfjjgdheikaaGreatW.PrintLast Go.Proofs.YtolbfjjgdheikaaGreatW.PrintMore PL

theorem small_wf {x : Int} (h : -100000 ≤ x ∧ x ≤ 100000000) : (Lit.int .i64 x).wf = true := by
  unfold Lit.wf
  have h1 : IntKind.i64.min = -9223372036854775808 := by decide
  have h2 : IntKind.i64.max = 9223372036854775807 := by decide
  rw [Bool.and_eq_true, decide_eq_true_iff, decide_eq_true_iff, h1, h2]
  omega
def fvT (gb : Nat) : Value := .func (.func 80) #[] #[.pointer (some ⟨gb, 0, none⟩)]
/-- the successors of a node, in a world that Env holds of -/
def SuccOk (adj : Int → List Int) (ns : List Int) (gb : Nat) (Env : World → Prop) : Prop := ∀ (w : World) (v : Int), Env w → v ∈ ns →
  Calls Tryz.prog 80 #[.int .i64 v, .pointer (some ⟨gb, 0, none⟩)] w fun e w' => ∃ vv, e = .returned vv ∧ w'.ownsRow w.heap.size 72 1 vv (adj v).length (nodeVs (adj v)) ∧ Below w.heap.size w w'
/-- Env is of blocks below lo other than the object's -/
def EnvOk (lo gt gi gl gs : Nat) (Env : World → Prop) : Prop := ∀ w w' : World, Env w → (∀ k, k < lo → k ≠ gt → k ≠ gi → k ≠ gl → k ≠ gs → w'.heap[k]? = w.heap[k]?) → Env w'
/-- the contract of strongconnect, to a depth -/
def StrongAt (adj : Int → List Int) (ns : List Int) (lo gt gi gl gs gb : Nat) (Env : World → Prop) (k : Nat) : Prop := ∀ (g : List Int) (v : Int) (s r : TS) (w : World) (st ov : Value) (rows : List Value), TInv adj g s → s.num v = 0 → (∀ x ∈ g, RchW adj x v) → v ∈ ns → TB ns s → strongT adj k v s = some r → Env w → TO ⟨gt, gi, gl, gs, lo, fvT gb, w, st, ov⟩ w s st ov rows →
  Calls Tryz.prog 83 #[.pointer (some ⟨gt, 0, none⟩), .iface 97 (.int .i64 v)] w fun e w' => e = .returned (.tuple #[]) ∧ ∃ st' ov' rows', TO ⟨gt, gi, gl, gs, lo, fvT gb, w, st, ov⟩ w' r st' ov' rows'

attribute [local go_sem] min2_int min_two
set_option maxHeartbeats 16000000 in
set_option maxRecDepth 100000 in
theorem strong_step (adj : Int → List Int) (adj_len : ∀ u, (adj u).length ≤ 100000000) (ns : List Int) (lo gt gi gl gs gb : Nat) (Env : World → Prop) (hns : ns.length ≤ 1000) (hwf : ∀ x ∈ ns, (Lit.int .i64 x).wf = true) (hin : ∀ u, ∀ x ∈ adj u, x ∈ ns) (hS : SuccOk adj ns gb Env) (hE : EnvOk lo gt gi gl gs Env) (k : Nat) (ih : StrongAt adj ns lo gt gi gl gs gb Env k) : StrongAt adj ns lo gt gi gl gs gb Env (k + 1) := by
  intro g v s r w st ov rows i0 hv hg hvn hb hr henv hT
  unfold TO at hT
  have hidx : s.idx ≤ 1000 := by have := hb.idx; omega
  have hlen : s.stk.length ≤ 1000 := by have := hb.len; omega
  have hvw := hwf v hvn
  obtain ⟨A, cA, rfl⟩ := own_slice hT.own
  have hcast : (((s.idx + 1 : Nat)) : Int) = (s.idx : Int) + 1 := by omega
  have hnw : (Lit.int .i64 (((s.idx + 1 : Nat) : Int))).wf = true := small_wf ⟨by omega, by omega⟩
  have hT1 := hT.setIx (ix' := s.idx + 1) ((s.idx : Int) + 1) hcast.symm
  obtain ⟨w2, hU2, hN2, hG2⟩ := (hT1.below (Below.refl _ _).drew).ni.put hvw (n := s.idx + 1) (by omega) hnw (by omega)
  have hT2 := (hT1.below (Below.refl _ _).drew).putI hN2 hG2
  obtain ⟨w3, hU3, hN3, hG3⟩ := (hT2.below (Below.refl _ _).drew).nl.put hvw (n := s.idx + 1) (by omega) hnw (by omega)
  have hT3 := (hT2.below (Below.refl _ _).drew).putL hN3 hG3
  rw [hcast] at hU2 hU3
  dsimp only at hU2 hU3
  have q1 : w.cell? ⟨gt, 1, none⟩ = some (.int .i64 (s.idx : Int)) := hT.cells.2.1
  have f1 : w.frozen? ⟨gt, 1, none⟩ = false := blk_frozen hT.blk 1
  have b1 : (w.setCell ⟨gt, 1, none⟩ (.int .i64 ((s.idx : Int) + 1))).cell? ⟨gt, 1, none⟩ = some (.int .i64 ((s.idx : Int) + 1)) := by have h := hT1.cells.2.1; rw [hcast] at h; exact h
  have b2 : (w.setCell ⟨gt, 1, none⟩ (.int .i64 ((s.idx : Int) + 1))).cell? ⟨gt, 2, none⟩ = some (.map (some gi)) := hT1.cells.2.2.1
  have e1 : w2.cell? ⟨gt, 1, none⟩ = some (.int .i64 ((s.idx : Int) + 1)) := by have h := hT2.cells.2.1; rw [hcast] at h; exact h
  have e2 : w2.cell? ⟨gt, 2, none⟩ = some (.map (some gi)) := hT2.cells.2.2.1
  have e3 : w2.cell? ⟨gt, 3, none⟩ = some (.map (some gl)) := hT2.cells.2.2.2.1
  have d1 : w3.cell? ⟨gt, 1, none⟩ = some (.int .i64 ((s.idx : Int) + 1)) := by have h := hT3.cells.2.1; rw [hcast] at h; exact h
  have d3 : w3.cell? ⟨gt, 3, none⟩ = some (.map (some gl)) := hT3.cells.2.2.2.1
  have d4 : w3.cell? ⟨gt, 4, none⟩ = some (.map (some gs)) := hT3.cells.2.2.2.2.1
  have d5 : w3.cell? ⟨gt, 5, none⟩ = some (.slice A s.stk.length cA) := hT3.cells.2.2.2.2.2.1
  have m1 := meth_ID v
  have H3 := Aside0.mk hT3
  have H0 := Aside0.mk (And.intro i0 (And.intro hv (And.intro hg (And.intro hvn (And.intro hb hr)))))
  have HENV := Aside0.mk (And.intro henv hT)
  have HE := Aside0.mk (And.intro hE (And.intro hS (And.intro ih (And.intro hwf hin))))
  clear hT1 hT2 hT3 hN2 hN3 hT i0 hv hg hb hr henv hE hS ih hwf hin
  go_enter Tryz.func83, Tryz.ntmps83
  go_wp2_with (go_at_call 202; refine (nodeID_any v _).mono ?_; rintro e wi ⟨rfl, rfl⟩)
  go_region_held3 (fun w' => w'.cell? ⟨gt, 1, none⟩ = some (.int .i64 ((s.idx : Int) + 1)) ∧ w'.cell? ⟨gt, 2, none⟩ = some (.map (some gi)))
    (first | exact ⟨e1, e2⟩ | go_keep)
    (fail)
  go_wp2_with fail
  go_region_held3 (fun w' => w'.cell? ⟨gt, 1, none⟩ = some (.int .i64 ((s.idx : Int) + 1)) ∧ w'.cell? ⟨gt, 3, none⟩ = some (.map (some gl)))
    (first | exact ⟨d1, d3⟩ | go_keep)
    (fail)
  have H3' := Aside0.mk (show TQ ⟨gt, gi, gl, gs, lo, fvT gb, w, .slice A s.stk.length cA, ov⟩ w3 (s.idx + 1) (updN s.num v (s.idx + 1)) (updN s.low v (s.idx + 1)) (s.idx + 1) (s.idx + 1) s.stk s.stk s.out (.slice A s.stk.length cA) ov rows from by
    have h := H3.out
    rw [if_pos H0.out.2.1, if_pos ((H0.out.2.2.2.2.1.zero v).2 H0.out.2.1)] at h
    exact h)
  clear H3 q1 f1 b1 b2 e1 e2 e3 d1 d3 hU2 hU3 hG2 hG3
  have f5 : w3.frozen? ⟨gt, 5, none⟩ = false := blk_frozen H3'.out.blk 5
  obtain ⟨i0, hi, hz0, hz1, hz2⟩ := info_parts Tryz.info72
  have HI := Aside0.mk (And.intro hi (And.intro hz0 (And.intro hz1 hz2)))
  clear hi hz0 hz1 hz2
  go_wp2_with (at_builtin; refine wpList_append_own_at _ rfl _ _ 68 rfl lo 72 i0 .nilIface 1 16 Tryz.underlying68 HI.out.1 HI.out.2.1 HI.out.2.2.1 HI.out.2.2.2 rfl (by decide) _ s.stk.length (nodeVs s.stk) rfl (World.ownsRow.alloc H3'.out.own _) ⟨w3.heap.size, 0, none⟩ 1 1 [.iface 97 (.int .i64 v)] rfl rfl (cell_one_new _ _ _) ?q2 ?q3 ?q4 ?q5 ?_)
  case q2 => intro u hu; simp at hu; subst hu; rfl
  case q3 => unfold maxLen; omega
  case q4 => omega
  case q5 => have h1 := H3'.out.L; dsimp only at h1; simp; omega
  intro v' w4 hown hgr _ hat
  obtain ⟨A', c', rfl⟩ := own_slice hown
  have hg0 := (World.grownBy_alloc w3 (.cells #[.iface 97 (.int .i64 v)] 72) (Value.slice A s.stk.length cA).ownBlock).trans hgr
  have hgtne : some gt ≠ (Value.slice A s.stk.length cA).ownBlock := fun e => by have h1 := (H3'.out.stLt e.symm).1; have h2 := H3'.out.lt.1; dsimp only at h1 h2; omega
  have hblk := (hg0.block gt (blk_lt H3'.out.blk) hgtne).trans H3'.out.blk
  have hc2 : w4.cell? ⟨gt, 5, none⟩ = some (.slice A s.stk.length cA) := (blk_cell hblk 5).trans rfl
  have hf2 := blk_frozen hblk 5
  have H4 := Aside0.mk (H3'.out.setSt (st' := .slice A' (s.stk.length + 1) c') (stk' := s.stk ++ [v]) hg0 (by rw [nodeVs_append, List.length_append]; exact hown) (hat.imp id (fun h q hq => by rw [h] at hq; have := Option.some.inj hq; omega)))
  have d4' : (w4.setCell ⟨gt, 5, none⟩ (.slice A' (s.stk.length + 1) c')).cell? ⟨gt, 4, none⟩ = some (.map (some gs)) := H4.out.cells.2.2.2.2.1
  clear hown hgr hat hg0 hblk
  have hsl : s.stk.length ≤ 10000000 := by omega
  go_wp2_with (first
    | (go_at_call 99; refine (add_any gs s.stk v _ H4.out.set hvw hsl).mono ?_; rintro e w5 ⟨rfl, hs5, hg5⟩; have H5 := Aside0.mk (H4.out.setS hs5 hg5); have q0 : w5.cell? ⟨gt, 0, none⟩ = some (.func (.func 80) #[] #[.pointer (some ⟨gb, 0, none⟩)]) := H5.out.cells.1; clear hs5 hg5)
    | (go_at_call 80; refine (HE.out.2.1 w5 v (HE.out.1 w w5 HENV.out.1 (fun q a1 a2 a3 a4 a5 => H5.out.kp.block q (Nat.lt_of_lt_of_le a1 HENV.out.2.lo0) (fun hm => by rcases hm with e | e | e | e | e | e; exact a2 e; exact a3 e; exact a4 e; exact a5 e; exact absurd (HENV.out.2.stLt e).1 (by dsimp only; omega); exact absurd (HENV.out.2.ovLt e).1 (by dsimp only; omega)))) hvn).mono ?_; rintro e w6 ⟨vv, rfl, ho, hb⟩; obtain ⟨AV, cV, rfl⟩ := own_slice ho; have H6 := Aside0.mk (And.intro (H5.out.below hb) (And.intro ho hb)); clear ho hb))
  obtain ⟨r1, hr1, hrr⟩ : ∃ r1, succsT (strongT adj k) v (adj v) (s.enter v) = some r1 ∧ r1.leave v = r := by
    have h := H0.out.2.2.2.2.2
    unfold strongT at h
    exact Option.map_eq_some_iff.1 h
  have HRR := Aside0.mk hrr
  have hal : (adj v).length ≤ 100000000 := adj_len _
  have HI := Aside0.mk (show TLp adj ns ⟨gt, gi, gl, gs, lo, fvT gb, w, .slice A s.stk.length cA, ov⟩ g v s r1 k (.slice AV (adj v).length cV) w6 0 from
    ⟨s.enter v, [], adj v, _, ov, rows, rfl, rfl, H0.out.1.enter H0.out.2.1 H0.out.2.2.1, H0.out.2.2.2.2.1.enter hvn H0.out.2.1, hr1, H6.out.1, ⟨own_weaken H6.out.2.1 H5.out.L, fun q hq e => by have h1 := own_base H6.out.2.1 q hq; have h2 := (H5.out.stLt e).2; omega, fun q hq e => by have h1 := own_base H6.out.2.1 q hq; have h2 := (H5.out.ovLt e).2; omega⟩⟩)
  clear H3' H4 H5 H6 d4 d5 d4' q0 hc2 hf2 f5 hr1 hrr
  go_loopw [60] (fun v60 wr => ∃ i : Nat, v60 = .int .i64 i ∧ i ≤ (adj v).length ∧ Aside0 (TLp adj ns ⟨gt, gi, gl, gs, lo, fvT gb, w, .slice A s.stk.length cA, ov⟩ g v s r1 k (.slice AV (adj v).length cV) wr i)) (fun v60 _ => (adj v).length + 1 - (intOf v60).toNat)
  case atStart => exact ⟨0, rfl, Nat.zero_le _, HI⟩
  case round =>
    clear HI
    obtain ⟨i, rfl, hi, hrel⟩ := hrel
    obtain ⟨s1, done, ws, st1, ov1, rows1, hsp, hdl, hlp, htb, hsu, hto, hrow⟩ := hrel.out
    by_cases hlt : i < (adj v).length
    · have hdk : decide ((i : Int) < ((adj v).length : Int)) = true := decide_eq_true (by omega)
      obtain ⟨x, ws', hws⟩ : ∃ x ws', ws = x :: ws' := by
        cases ws with
        | nil => rw [hsp, List.length_append] at hlt; simp at hlt; omega
        | cons x ws' => exact ⟨x, ws', rfl⟩
      subst hws
      have hxa : (adj v)[i] = x := by
        have : (adj v)[i]? = some x := by rw [hsp, List.getElem?_append_right (by omega), hdl, Nat.sub_self]; rfl
        rw [List.getElem?_eq_getElem hlt] at this
        exact Option.some.inj this
      obtain ⟨gA, cc, hvv, hcell⟩ := hrow.cell hlt
      rw [hxa] at hcell
      simp only [Value.slice.injEq] at hvv
      obtain ⟨rfl, -, rfl⟩ := hvv
      have hxv : x ∈ adj v := by rw [← hxa]; exact List.getElem_mem hlt
      have hxw := HE.out.2.2.2.1 x (HE.out.2.2.2.2 v x hxv)
      have m2 := meth_ID x
      have p2 : wr.cell? ⟨gt, 2, none⟩ = some (.map (some gi)) := TQ.cells hto |>.2.2.1
      have hL := (TQ.ni hto).look hxw
      dsimp only at hL
      have i0' : (0 : Int) ≤ (i : Int) := by omega
      have i1' : (i : Int) < ((adj v).length : Int) := by omega
      have HT := Aside0.mk (And.intro hlp (And.intro htb (And.intro hsu (And.intro hto (And.intro hrow (And.intro hsp hdl))))))
      clear hrel hlp htb hsu hto hrow hsp hdl hxa
      by_cases hn0 : s1.num x = 0
      · have hb0 : ((s1.num x : Int) == 0) = true := by simp [hn0]
        obtain ⟨s2, hs2, hsu2⟩ : ∃ s2, strongT adj k x s1 = some s2 ∧ succsT (strongT adj k) v ws' (s2.lower v (s2.low x)) = some r1 := by
          have a3 := HT.out.2.2.1
          rw [succsT, if_pos hn0] at a3
          exact Option.bind_eq_some_iff.1 a3
        have hg' : ∀ y ∈ g ++ [v], RchW adj y x := fun y hy => by
          rcases List.mem_append.1 hy with hy | hy
          · exact (H0.out.2.2.1 y hy).step hxv
          · obtain rfl := List.mem_singleton.1 hy
            exact RchW.one hxv
        have hxn := HE.out.2.2.2.2 v x hxv
        have hp := strongT_ok adj k (g ++ [v]) x s1 s2 HT.out.1.inv hn0 hg' hs2
        have htb2 := strongT_tb HE.out.2.2.2.2 k (g ++ [v]) x s1 s2 HT.out.1.inv hn0 hg' hxn HT.out.2.1 hs2
        have nv1 : s1.num v ≠ 0 := by rw [HT.out.1.nv]; omega
        have nv0 : s2.num v ≠ 0 := by rw [hp.num v nv1]; exact nv1
        have lv0 : s2.low v ≠ 0 := fun e => nv0 ((htb2.zero v).1 e)
        have lx0 : s2.low x ≠ 0 := fun e => by have h1 := (htb2.zero x).1 e; rw [hp.nv] at h1; omega
        have hb1 : s2.idx ≤ 1000 := by have := htb2.idx; omega
        have hb2 := htb2.low v
        have hb3 := htb2.low x
        have hmw : (Lit.int .i64 (((min (s2.low v) (s2.low x) : Nat) : Int))).wf = true := small_wf ⟨by omega, by omega⟩
        obtain ⟨la, hla⟩ : ∃ a : Int, (s2.low v : Int) = a := ⟨_, rfl⟩
        obtain ⟨lb, hlb⟩ : ∃ a : Int, (s2.low x : Int) = a := ⟨_, rfl⟩
        obtain ⟨lm, hlm⟩ : ∃ a : Int, ((min (s2.low v) (s2.low x) : Nat) : Int) = a := ⟨_, rfl⟩
        have hmn : (if lb < la then lb else la) = lm := by rw [← hla, ← hlb, ← hlm]; split <;> omega
        have HLA := Aside0.mk hla
        have HLB := Aside0.mk hlb
        have HLM := Aside0.mk hlm
        have HP := Aside0.mk (And.intro hp (And.intro htb2 (And.intro hs2 (And.intro hsu2 hg'))))
        have HENV2 := Aside0.mk (HE.out.1 w wr HENV.out.1 (fun q a1 a2 a3 a4 a5 => (TQ.kp HT.out.2.2.2.1).block q (Nat.lt_of_lt_of_le a1 HENV.out.2.lo0) (fun hm => by rcases hm with e | e | e | e | e | e; exact a2 e; exact a3 e; exact a4 e; exact a5 e; exact absurd (HENV.out.2.stLt e).1 (by dsimp only; omega); exact absurd (HENV.out.2.ovLt e).1 (by dsimp only; omega))))
        clear hla hlb hlm hp htb2 hs2 hsu2 hg'
        go_wp2_with (first
          | (go_at_call 202; refine (nodeID_any x _).mono ?_; rintro e wi ⟨rfl, rfl⟩)
          | (go_at_call 83; refine (HE.out.2.2.1 (g ++ [v]) x s1 s2 wr st1 ov1 rows1 HT.out.1.inv hn0 HP.out.2.2.2.2 hxn HT.out.2.1 HP.out.2.2.1 HENV2.out (TQ.restart HT.out.2.2.2.1)).mono ?_; rintro e w7 ⟨rfl, st2, ov2, rows2, hto2⟩; have HC := Aside0.mk hto2; have HT2 := Aside0.mk (show TQ ⟨gt, gi, gl, gs, lo, fvT gb, w, .slice A s.stk.length cA, ov⟩ w7.drew s2.idx s2.num s2.low s2.idx s2.idx s2.stk s2.stk s2.out st2 ov2 rows2 from TQ.below (TQ.resume HT.out.2.2.2.1 hto2) (Below.refl _ _).drew); clear hto2; have hA := (TQ.nl HT2.out).look hvw; have hB := (TQ.nl HT2.out).look hxw; obtain ⟨w11, hU, hN, hG⟩ := (TQ.nl HT2.out).put hvw (n := min (s2.low v) (s2.low x)) (by omega) hmw (by omega); dsimp only at hA hB hU; rw [HLA.out] at hA; rw [HLB.out] at hB; rw [HLM.out] at hU; have k3 : w7.cell? ⟨gt, 3, none⟩ = some (.map (some gl)) := (TQ.cells HT2.out).2.2.2.1; have HT3 := Aside0.mk (TQ.putL HT2.out hN hG); have j3 : w11.cell? ⟨gt, 3, none⟩ = some (.map (some gl)) := (TQ.cells HT3.out).2.2.2.1; have HG := Aside0.mk hG; clear hN hG))
        go_region_held3 (fun w' => w'.cell? ⟨gt, 3, none⟩ = some (.map (some gl)))
          (first | exact j3 | go_keep)
          (fail)
        all_goals
          go_wp2
          obtain ⟨a1, a2, a3, a4, a5, a6, a7⟩ := HT.out
          have h3 := HT3.out
          rw [if_neg lv0] at h3
          exact ⟨⟨i + 1, by simp, by omega, ⟨s2.lower v (s2.low x), done ++ [x], ws', st2, ov2, rows2, by rw [a6]; simp, by simp [a7], a1.walked H0.out.1 H0.out.2.1 hxv hn0 HP.out.1, HP.out.2.1.lower _ lx0 nv0, HP.out.2.2.2.1, h3, ((a5.call a4 HC.out).below (Below.refl _ _).drew).grown HG.out (TQ.lt a4).2.2.1⟩⟩, by simp [intOf]; omega⟩
      · have hb0 : ((s1.num x : Int) == 0) = false := by rw [beq_eq_false_iff_ne]; omega
        by_cases hst : x ∈ s1.stk
        · have hds : decide (x ∈ s1.stk) = true := decide_eq_true hst
          have p4 : wr.cell? ⟨gt, 4, none⟩ = some (.map (some gs)) := TQ.cells HT.out.2.2.2.1 |>.2.2.2.2.1
          have nv0 : s1.num v ≠ 0 := by rw [HT.out.1.nv]; omega
          have lv0 : s1.low v ≠ 0 := fun e => nv0 ((HT.out.2.1.zero v).1 e)
          have hb1 : s1.idx ≤ 1000 := by have := HT.out.2.1.idx; omega
          have hb2 := HT.out.2.1.low v
          obtain ⟨la, hla⟩ : ∃ a : Int, (s1.low v : Int) = a := ⟨_, rfl⟩
          obtain ⟨lb, hlb⟩ : ∃ a : Int, (s1.num x : Int) = a := ⟨_, rfl⟩
          obtain ⟨lm, hlm⟩ : ∃ a : Int, ((min (s1.low v) (s1.num x) : Nat) : Int) = a := ⟨_, rfl⟩
          have hmn : (if lb < la then lb else la) = lm := by rw [← hla, ← hlb, ← hlm]; split <;> omega
          have HLA := Aside0.mk hla
          have HLB := Aside0.mk hlb
          have HLM := Aside0.mk hlm
          clear hla hlb hlm
          have hmw : (Lit.int .i64 (((min (s1.low v) (s1.num x) : Nat) : Int))).wf = true := small_wf ⟨by omega, by omega⟩
          go_wp2_with (first
            | (go_at_call 202; refine (nodeID_any x _).mono ?_; rintro e wi ⟨rfl, rfl⟩)
            | (go_at_call 95; refine (has_any gs s1.stk x _ (TQ.set HT.out.2.2.2.1) hxw).mono ?_; rintro e w10 ⟨rfl, hbh⟩; rw [hds]; have HT2 := Aside0.mk (show TQ ⟨gt, gi, gl, gs, lo, fvT gb, w, .slice A s.stk.length cA, ov⟩ w10.drew s1.idx s1.num s1.low s1.idx s1.idx s1.stk s1.stk s1.out st1 ov1 rows1 from TQ.below (TQ.below HT.out.2.2.2.1 hbh) (Below.refl _ _).drew); have HB := Aside0.mk hbh; clear hbh; have hA := (TQ.nl HT2.out).look hvw; have hB := (TQ.ni HT2.out).look hxw; obtain ⟨w11, hU, hN, hG⟩ := (TQ.nl HT2.out).put hvw (n := min (s1.low v) (s1.num x)) (by omega) hmw (by omega); dsimp only at hA hB hU; rw [HLA.out] at hA; rw [HLB.out] at hB; rw [HLM.out] at hU; have k2 : w10.cell? ⟨gt, 2, none⟩ = some (.map (some gi)) := (TQ.cells HT2.out).2.2.1; have k3 : w10.cell? ⟨gt, 3, none⟩ = some (.map (some gl)) := (TQ.cells HT2.out).2.2.2.1; have HT3 := Aside0.mk (TQ.putL HT2.out hN hG); have j2 : w11.cell? ⟨gt, 2, none⟩ = some (.map (some gi)) := (TQ.cells HT3.out).2.2.1; have j3 : w11.cell? ⟨gt, 3, none⟩ = some (.map (some gl)) := (TQ.cells HT3.out).2.2.2.1; have HG := Aside0.mk hG; clear hN hG))
          go_region_held3 (fun w' => w'.cell? ⟨gt, 2, none⟩ = some (.map (some gi)) ∧ w'.cell? ⟨gt, 3, none⟩ = some (.map (some gl)))
            (first | exact ⟨j2, j3⟩ | go_keep)
            (fail)
          all_goals
            go_wp2
            obtain ⟨a1, a2, a3, a4, a5, a6, a7⟩ := HT.out
            rw [succsT, if_neg hn0, if_pos hst] at a3
            have h3 := HT3.out
            rw [if_neg lv0] at h3
            exact ⟨⟨i + 1, by simp, by omega, ⟨s1.lower v (s1.num x), done ++ [x], ws', st1, ov1, rows1, by rw [a6]; simp, by simp [a7], a1.onStk H0.out.1 H0.out.2.1 hxv hst, a2.lower _ hn0 nv0, a3, h3, ((a5.below HB.out).below (Below.refl _ _).drew).grown HG.out (TQ.lt a4).2.2.1⟩⟩, by simp [intOf]; omega⟩
        · have hds : decide (x ∈ s1.stk) = false := decide_eq_false hst
          have p4 : wr.cell? ⟨gt, 4, none⟩ = some (.map (some gs)) := TQ.cells HT.out.2.2.2.1 |>.2.2.2.2.1
          go_wp2_with (first
            | (go_at_call 202; refine (nodeID_any x _).mono ?_; rintro e wi ⟨rfl, rfl⟩)
            | (go_at_call 95; refine (has_any gs s1.stk x _ (TQ.set HT.out.2.2.2.1) hxw).mono ?_; rintro e w10 ⟨rfl, hbh⟩; rw [hds]; have HB := Aside0.mk hbh; clear hbh))
          obtain ⟨a1, a2, a3, a4, a5, a6, a7⟩ := HT.out
          rw [succsT, if_neg hn0, if_neg hst] at a3
          exact ⟨⟨i + 1, by simp, by omega, ⟨s1, done ++ [x], ws', st1, ov1, rows1, by rw [a6]; simp, by simp [a7], a1.gone H0.out.1 hn0 hst, a2, a3, TQ.below a4 HB.out, a5.below HB.out⟩⟩, by simp [intOf]; omega⟩
    · have hdk : decide ((i : Int) < ((adj v).length : Int)) = false := decide_eq_false (by omega)
      obtain rfl : ws = [] := by
        cases ws with
        | nil => rfl
        | cons x ws' => rw [hsp, List.length_append, List.length_cons] at hlt; omega
      simp only [succsT, Option.some.injEq] at hsu
      subst hsu
      have hT2 := TQ.below hto (Below.refl _ _).drew
      have hA := (TQ.nl hT2).look hvw
      have hB := (TQ.ni hT2).look hvw
      dsimp only at hA hB
      obtain ⟨la, hla⟩ : ∃ a : Int, (s1.low v : Int) = a := ⟨_, rfl⟩
      obtain ⟨lb, hlb⟩ : ∃ a : Int, (s1.num v : Int) = a := ⟨_, rfl⟩
      rw [hla] at hA
      rw [hlb] at hB
      have p2 : wr.cell? ⟨gt, 2, none⟩ = some (.map (some gi)) := TQ.cells hto |>.2.2.1
      have p3 : wr.cell? ⟨gt, 3, none⟩ = some (.map (some gl)) := TQ.cells hto |>.2.2.2.1
      have HT := Aside0.mk (And.intro hlp (And.intro htb (And.intro hto (And.intro hT2 (And.intro hsp hdl)))))
      clear hrel hlp htb hto hrow hsp hdl hT2
      by_cases he : s1.low v = s1.num v
      · have hbb : (la == lb) = true := by rw [← hla, ← hlb, he]; simp
        have HR : Aside0 (r = s1.pop v) := ⟨by rw [← HRR.out]; unfold TS.leave; rw [if_pos he]⟩
        clear hla hlb
        go_wp2_with fail
        refine wp_region_held_drew (S := fun w' => w' = wr.drew) (by kernel_rfl) rfl (fun hHeld => ?_)
        refine heldTakeAt (some 119) (i := 0) (oi := _) (v := ?_) rfl rfl (by kernel_rfl) (by kernel_rfl) (by kernel_rfl) (fun _ _ _ h => h) (Or.inl ⟨by rfl, ?_⟩) (by assumption) ?_
        rotate_left
        · intro w' hSw; (try dsimp only at hSw); subst hSw; go_simp; with_reducible rfl
        (try dsimp only); try simp only [Act.put, List.setIfInBounds_toArray, List.set_cons_zero, List.set_cons_succ]
        refine heldTakeAt (some 120) (i := 1) (oi := _) (v := ?_) rfl rfl (by kernel_rfl) (by kernel_rfl) (by kernel_rfl) (fun _ _ _ h => h) (Or.inl ⟨by rfl, ?_⟩) (by assumption) ?_
        rotate_left
        · intro w' hSw; (try dsimp only at hSw); subst hSw; go_simp; with_reducible rfl
        (try dsimp only); try simp only [Act.put, List.setIfInBounds_toArray, List.set_cons_zero, List.set_cons_succ]
        refine heldTakeAt (some 121) (i := 2) (oi := _) (v := ?_) rfl rfl (by kernel_rfl) (by kernel_rfl) (by kernel_rfl) (fun _ _ _ h => h) (Or.inl ⟨by rfl, ?_⟩) (by assumption) ?_
        rotate_left
        · intro w' hSw; (try dsimp only at hSw); subst hSw; go_simp; with_reducible rfl
        (try dsimp only); try simp only [Act.put, List.setIfInBounds_toArray, List.set_cons_zero, List.set_cons_succ]
        refine heldTakeAt (some 122) (i := 3) (oi := _) (v := ?_) rfl rfl (by kernel_rfl) (by kernel_rfl) (by kernel_rfl) (fun _ _ _ h => h) (Or.inl ⟨by rfl, ?_⟩) (by assumption) ?_
        rotate_left
        · intro w' hSw; (try dsimp only at hSw); subst hSw; go_simp; with_reducible rfl
        (try dsimp only); try simp only [Act.put, List.setIfInBounds_toArray, List.set_cons_zero, List.set_cons_succ]
        refine heldTakeAt (some 123) (i := 4) (oi := _) (v := ?_) rfl rfl (by kernel_rfl) (by kernel_rfl) (by kernel_rfl) (fun _ _ _ h => h) (Or.inl ⟨by rfl, ?_⟩) (by assumption) ?_
        rotate_left
        · intro w' hSw; (try dsimp only at hSw); subst hSw; go_simp; with_reducible rfl
        (try dsimp only); try simp only [Act.put, List.setIfInBounds_toArray, List.set_cons_zero, List.set_cons_succ]
        refine heldTakeAt (some 124) (i := 5) (oi := _) (v := ?_) rfl rfl (by kernel_rfl) (by kernel_rfl) (by kernel_rfl) (fun _ _ _ h => h) (Or.inl ⟨by rfl, ?_⟩) (by assumption) ?_
        rotate_left
        · intro w' hSw; (try dsimp only at hSw); subst hSw; go_simp; with_reducible rfl
        (try dsimp only); try simp only [Act.put, List.setIfInBounds_toArray, List.set_cons_zero, List.set_cons_succ]
        refine heldTakeAt (some 125) (i := 6) (oi := _) (v := ?_) rfl rfl (by kernel_rfl) (by kernel_rfl) (by kernel_rfl) (fun _ _ _ h => h) (Or.inl ⟨by rfl, ?_⟩) (by assumption) ?_
        rotate_left
        · intro w' hSw; (try dsimp only at hSw); subst hSw; go_simp; with_reducible rfl
        (try dsimp only); try simp only [Act.put, List.setIfInBounds_toArray, List.set_cons_zero, List.set_cons_succ]
        refine heldTakeAt (some 126) (i := 7) (oi := _) (v := ?_) rfl rfl (by kernel_rfl) (by kernel_rfl) (by kernel_rfl) (fun _ _ _ h => h) (Or.inl ⟨by rfl, ?_⟩) (by assumption) ?_
        rotate_left
        · intro w' hSw; (try dsimp only at hSw); subst hSw; go_simp; with_reducible rfl
        (try dsimp only); try simp only [Act.put, List.setIfInBounds_toArray, List.set_cons_zero, List.set_cons_succ]
        refine heldTakeAt (some 127) (i := 8) (oi := _) (v := ?_) rfl rfl (by kernel_rfl) (by kernel_rfl) (by kernel_rfl) (fun _ _ _ h => h) (Or.inl ⟨by rfl, ?_⟩) (by assumption) ?_
        rotate_left
        · intro w' hSw; (try dsimp only at hSw); subst hSw; go_simp; with_reducible rfl
        (try dsimp only); try simp only [Act.put, List.setIfInBounds_toArray, List.set_cons_zero, List.set_cons_succ]
        refine heldTakeAt (some 128) (i := 9) (oi := _) (v := ?_) rfl rfl (by kernel_rfl) (by kernel_rfl) (by kernel_rfl) (fun _ _ _ h => h) (Or.inl ⟨by rfl, ?_⟩) (by assumption) ?_
        rotate_left
        · intro w' hSw; (try dsimp only at hSw); subst hSw; go_simp; with_reducible rfl
        (try dsimp only); try simp only [Act.put, List.setIfInBounds_toArray, List.set_cons_zero, List.set_cons_succ]
        refine heldTakeAt (some 129) (i := 10) (oi := _) (v := ?_) rfl rfl (by kernel_rfl) (by kernel_rfl) (by kernel_rfl) (fun _ _ _ h => h) (Or.inl ⟨by rfl, ?_⟩) (by assumption) ?_
        rotate_left
        · intro w' hSw; (try dsimp only at hSw); subst hSw; go_simp; with_reducible rfl
        (try dsimp only); try simp only [Act.put, List.setIfInBounds_toArray, List.set_cons_zero, List.set_cons_succ]
        refine heldTakeAt (some 130) (i := 11) (oi := _) (v := ?_) rfl rfl (by kernel_rfl) (by kernel_rfl) (by kernel_rfl) (fun _ _ _ h => h) (Or.inl ⟨by rfl, ?_⟩) (by assumption) ?_
        rotate_left
        · intro w' hSw; (try dsimp only at hSw); subst hSw; go_simp; with_reducible rfl
        (try dsimp only); try simp only [Act.put, List.setIfInBounds_toArray, List.set_cons_zero, List.set_cons_succ]
        refine heldTakeAt (some 131) (i := 12) (oi := _) (v := ?_) rfl rfl (by kernel_rfl) (by kernel_rfl) (by kernel_rfl) (fun _ _ _ h => h) (Or.inl ⟨by rfl, ?_⟩) (by assumption) ?_
        rotate_left
        · intro w' hSw; (try dsimp only at hSw); subst hSw; go_simp; with_reducible rfl
        (try dsimp only); try simp only [Act.put, List.setIfInBounds_toArray, List.set_cons_zero, List.set_cons_succ]
        clear hHeld
        refine wpAnyH_done (by kernel_rfl) ?_ _
        go_wp2_with fail
        obtain ⟨nw, hsk, -⟩ := HT.out.1.stk
        have HP0 := Aside0.mk (show TPop ⟨gt, gi, gl, gs, lo, fvT gb, w, .slice A s.stk.length cA, ov⟩ s1 s.stk v (.slice none 0 0) wr.drew nw from ⟨[], st1, ov1, rows1, by rw [hsk]; simp, by rw [← hsk]; exact HT.out.2.2.2.1, PRow.nil _ _ _ _ _⟩)
        have hnwl : nw.length ≤ 1000 := by
          have h1 := HT.out.2.1.len
          have h2 := HT.out.2.1.idx
          rw [hsk, List.length_append, List.length_cons] at h1
          omega
        have HSK := Aside0.mk (And.intro hsk (stk_nodup HT.out.1.inv))
        have HNW := Aside0.mk (show ∀ (rest xs : List Int), s1.stk = s.stk ++ v :: (rest ++ xs.reverse) → rest.length + xs.length = nw.length from fun rest xs e => by
          rw [hsk] at e
          have := congrArg List.length e
          simp at this
          omega)
        clear hsk p2 p3 hA hB
        go_loopw [8, 9] (fun v8 v9 W => ∃ rest : List Int, Aside0 (TPop ⟨gt, gi, gl, gs, lo, fvT gb, w, .slice A s.stk.length cA, ov⟩ s1 s.stk v v8 W rest)) (fun v8 _ _ => nw.length + 1 - lenOf v8)
        case atStart => exact ⟨nw, HP0⟩
        case round =>
          clear HP0
          obtain ⟨rest, hrel⟩ := hrel
          obtain ⟨xs, st5, ov5, rows5, hxs, hq5, hr5⟩ := hrel.out
          obtain ⟨pre, x, hpx⟩ := snoc_of (show s.stk ++ v :: rest ≠ [] by simp)
          rw [hpx] at hq5
          obtain ⟨A8, c8, rfl⟩ := own_slice hr5.own
          obtain ⟨A9, c9, rfl⟩ := own_slice hq5.out.own
          have hrows5 : rows5.length ≤ 1000 := by
            have h1 := HT.out.2.1.len
            have h2 := HT.out.2.1.idx
            have h3 := hq5.out.len
            omega
          obtain ⟨g5, c5, rfl, hc5, hcell5, -⟩ := own_cells hq5.own (by simp)
          have hm5 : (pre ++ [x]).length = pre.length + 1 := by simp
          have hce5 := hcell5 pre.length (.iface 97 (.int .i64 x)) (by unfold nodeVs; simp; rfl)
          have hrl := HNW.out rest xs hxs
          have hndp : (pre ++ [x]).Nodup := by
            have h1 := HSK.out.2
            rw [hxs, show s.stk ++ v :: (rest ++ xs.reverse) = (pre ++ [x]) ++ xs.reverse by rw [← hpx]; simp] at h1
            exact (List.nodup_append.1 h1).1
          have hxp : x ∉ pre := by
            have := (List.nodup_append.1 hndp).2.2
            exact fun hh => this x hh x (by simp) rfl
          have hplen : pre.length ≤ 1000 := by
            have h1 := HT.out.2.1.len
            have h2 := HT.out.2.1.idx
            have h3 := congrArg List.length hpx
            rw [hxs] at h1
            simp at h1 h3
            omega
          have hxns : x ∈ ns := HT.out.2.1.within x (HT.out.1.inv.vis x (by rw [hxs, show s.stk ++ v :: (rest ++ xs.reverse) = (pre ++ [x]) ++ xs.reverse by rw [← hpx]; simp]; simp))
          have hxw := HE.out.2.2.2.1 x hxns
          have m5 := meth_ID x
          have k5 : wr.cell? ⟨gt, 5, none⟩ = some (.slice (some ⟨g5, 0, none⟩) (pre ++ [x]).length c5) := hq5.cells.2.2.2.2.2.1
          have kf5 : wr.frozen? ⟨gt, 5, none⟩ = false := blk_frozen hq5.blk 5
          obtain ⟨m, hm⟩ : ∃ m, (pre ++ [x]).length = m := ⟨_, rfl⟩
          rw [hm] at k5 hc5
          have hm1 : m = pre.length + 1 := by omega
          have hwm : IntKind.i64.wrap ((m : Int) - 1) = (pre.length : Int) := by rw [IntKind.wrap_i64]; omega
          have hi1 : (0 : Int) ≤ (pre.length : Int) := by omega
          have hi2 : (pre.length : Int) < (m : Int) := by omega
          have hi3 : (pre.length : Int) ≤ (c5 : Int) := by omega
          have hH5 := Aside0.mk (show TQ ⟨gt, gi, gl, gs, lo, fvT gb, w, .slice A s.stk.length cA, ov⟩ (wr.setCell ⟨gt, 5, none⟩ (.slice (some ⟨g5, 0, none⟩) pre.length c5)).drew s1.idx s1.num s1.low s1.idx s1.idx (pre ++ [x]) pre s1.out (.slice (some ⟨g5, 0, none⟩) pre.length c5) (.slice A9 rows5.length c9) rows5 from
            TQ.cutSt (hq5.below (Below.refl _ _).drew) hm5)
          have hR5 := Aside0.mk (show PRow ⟨gt, gi, gl, gs, lo, fvT gb, w, .slice A s.stk.length cA, ov⟩ (wr.setCell ⟨gt, 5, none⟩ (.slice (some ⟨g5, 0, none⟩) pre.length c5)).drew (.slice A8 xs.length c8) (.slice (some ⟨g5, 0, none⟩) pre.length c5) (.slice A9 rows5.length c9) rows5 xs from
            PRow.grown (PRow.stIs (st' := .slice (some ⟨g5, 0, none⟩) pre.length c5) (hr5.below (Below.refl _ _).drew) rfl) (grown_set _ gt 5 _) hq5.lt.1)
          have HX5 := Aside0.mk (And.intro hxs (And.intro hpx (And.intro hxp hxns)))
          clear hq5 hr5 hcell5 hxs hpx hndp hxp hrel hm5 hm hm1
          go_wp2_with fail
          refine heldTill.region 27 (fun w' => w' = wr.drew) (by kernel_rfl) rfl (fun hHeld => ?_)
          refine heldTill.takeAt (some 132) (i := 0) (oi := _) (v := ?_) rfl rfl (by kernel_rfl) (by kernel_rfl) (by kernel_rfl) (by kernel_rfl) (fun _ _ _ h => h) (Or.inl ⟨by rfl, ?_⟩) (by assumption) ?_
          rotate_left
          · intro w' hSw; (try dsimp only at hSw); subst hSw; go_simp; with_reducible rfl
          (try dsimp only); try simp only [Act.put, List.setIfInBounds_toArray, List.set_cons_zero, List.set_cons_succ]
          refine heldTill.takeAt (some 133) (i := 1) (oi := _) (v := ?_) rfl rfl (by kernel_rfl) (by kernel_rfl) (by kernel_rfl) (by kernel_rfl) (fun _ _ _ h => h) (Or.inl ⟨by rfl, ?_⟩) (by assumption) ?_
          rotate_left
          · intro w' hSw; (try dsimp only at hSw); subst hSw; go_simp; with_reducible rfl
          (try dsimp only); try simp only [Act.put, List.setIfInBounds_toArray, List.set_cons_zero, List.set_cons_succ]
          refine heldTill.takeAt (some 134) (i := 2) (oi := _) (v := ?_) rfl rfl (by kernel_rfl) (by kernel_rfl) (by kernel_rfl) (by kernel_rfl) (fun _ _ _ h => h) (Or.inl ⟨by rfl, ?_⟩) (by assumption) ?_
          rotate_left
          · intro w' hSw; (try dsimp only at hSw); subst hSw; go_simp; with_reducible rfl
          (try dsimp only); try simp only [Act.put, List.setIfInBounds_toArray, List.set_cons_zero, List.set_cons_succ]
          refine heldTill.takeAt (some 135) (i := 3) (oi := _) (v := ?_) rfl rfl (by kernel_rfl) (by kernel_rfl) (by kernel_rfl) (by kernel_rfl) (fun _ _ _ h => h) (Or.inl ⟨by rfl, ?_⟩) (by assumption) ?_
          rotate_left
          · intro w' hSw; (try dsimp only at hSw); subst hSw; go_simp; with_reducible rfl
          (try dsimp only); try simp only [Act.put, List.setIfInBounds_toArray, List.set_cons_zero, List.set_cons_succ]
          refine heldTill.takeAt (some 136) (i := 4) (oi := _) (v := ?_) rfl rfl (by kernel_rfl) (by kernel_rfl) (by kernel_rfl) (by kernel_rfl) (fun _ _ _ h => h) (Or.inl ⟨by rfl, ?_⟩) (by assumption) ?_
          rotate_left
          · intro w' hSw; (try dsimp only at hSw); subst hSw; go_simp; with_reducible rfl
          (try dsimp only); try simp only [Act.put, List.setIfInBounds_toArray, List.set_cons_zero, List.set_cons_succ]
          refine heldTill.takeAt (some 137) (i := 5) (oi := _) (v := ?_) rfl rfl (by kernel_rfl) (by kernel_rfl) (by kernel_rfl) (by kernel_rfl) (fun _ _ _ h => h) (Or.inl ⟨by rfl, ?_⟩) (by assumption) ?_
          rotate_left
          · intro w' hSw; (try dsimp only at hSw); subst hSw; go_simp; with_reducible rfl
          (try dsimp only); try simp only [Act.put, List.setIfInBounds_toArray, List.set_cons_zero, List.set_cons_succ]
          refine heldTill.takeAt (some 138) (i := 6) (oi := _) (v := ?_) rfl rfl (by kernel_rfl) (by kernel_rfl) (by kernel_rfl) (by kernel_rfl) (fun _ _ _ h => h) (Or.inl ⟨by rfl, ?_⟩) (by assumption) ?_
          rotate_left
          · intro w' hSw; (try dsimp only at hSw); subst hSw; go_simp; with_reducible rfl
          (try dsimp only); try simp only [Act.put, List.setIfInBounds_toArray, List.set_cons_zero, List.set_cons_succ]
          refine heldTill.takeAt (some 139) (i := 7) (oi := _) (v := ?_) rfl rfl (by kernel_rfl) (by kernel_rfl) (by kernel_rfl) (by kernel_rfl) (fun _ _ _ h => h) (Or.inl ⟨by rfl, ?_⟩) (by assumption) ?_
          rotate_left
          · intro w' hSw; (try dsimp only at hSw); subst hSw; go_simp; with_reducible rfl
          (try dsimp only); try simp only [Act.put, List.setIfInBounds_toArray, List.set_cons_zero, List.set_cons_succ]
          refine heldTill.takeAt (some 140) (i := 8) (oi := _) (v := ?_) rfl rfl (by kernel_rfl) (by kernel_rfl) (by kernel_rfl) (by kernel_rfl) (fun _ _ _ h => h) (Or.inl ⟨by rfl, ?_⟩) (by assumption) ?_
          rotate_left
          · intro w' hSw; (try dsimp only at hSw); subst hSw; go_simp; with_reducible rfl
          (try dsimp only); try simp only [Act.put, List.setIfInBounds_toArray, List.set_cons_zero, List.set_cons_succ]
          refine heldTill.takeAt (some 141) (i := 9) (oi := _) (v := ?_) rfl rfl (by kernel_rfl) (by kernel_rfl) (by kernel_rfl) (by kernel_rfl) (fun _ _ _ h => h) (Or.inl ⟨by rfl, ?_⟩) (by assumption) ?_
          rotate_left
          · intro w' hSw; (try dsimp only at hSw); subst hSw; go_simp; with_reducible rfl
          (try dsimp only); try simp only [Act.put, List.setIfInBounds_toArray, List.set_cons_zero, List.set_cons_succ]
          refine heldTill.takeAt (some 142) (i := 10) (oi := _) (v := ?_) rfl rfl (by kernel_rfl) (by kernel_rfl) (by kernel_rfl) (by kernel_rfl) (fun _ _ _ h => h) (Or.inl ⟨by rfl, ?_⟩) (by assumption) ?_
          rotate_left
          · intro w' hSw; (try dsimp only at hSw); subst hSw; go_simp; with_reducible rfl
          (try dsimp only); try simp only [Act.put, List.setIfInBounds_toArray, List.set_cons_zero, List.set_cons_succ]
          refine heldTill.takeAt (some 143) (i := 11) (oi := _) (v := ?_) rfl rfl (by kernel_rfl) (by kernel_rfl) (by kernel_rfl) (by kernel_rfl) (fun _ _ _ h => h) (Or.inl ⟨by rfl, ?_⟩) (by assumption) ?_
          rotate_left
          · intro w' hSw; (try dsimp only at hSw); subst hSw; go_simp; with_reducible rfl
          (try dsimp only); try simp only [Act.put, List.setIfInBounds_toArray, List.set_cons_zero, List.set_cons_succ]
          refine heldTill.takeAt (some 144) (i := 12) (oi := _) (v := ?_) rfl rfl (by kernel_rfl) (by kernel_rfl) (by kernel_rfl) (by kernel_rfl) (fun _ _ _ h => h) (Or.inl ⟨by rfl, ?_⟩) (by assumption) ?_
          rotate_left
          · intro w' hSw; (try dsimp only at hSw); subst hSw; go_simp; with_reducible rfl
          (try dsimp only); try simp only [Act.put, List.setIfInBounds_toArray, List.set_cons_zero, List.set_cons_succ]
          refine heldTill.takeAt (some 145) (i := 13) (oi := _) (v := ?_) rfl rfl (by kernel_rfl) (by kernel_rfl) (by kernel_rfl) (by kernel_rfl) (fun _ _ _ h => h) (Or.inl ⟨by rfl, ?_⟩) (by assumption) ?_
          rotate_left
          · intro w' hSw; (try dsimp only at hSw); subst hSw; go_simp; with_reducible rfl
          (try dsimp only); try simp only [Act.put, List.setIfInBounds_toArray, List.set_cons_zero, List.set_cons_succ]
          refine heldTill.takeAt (some 146) (i := 14) (oi := _) (v := ?_) rfl rfl (by kernel_rfl) (by kernel_rfl) (by kernel_rfl) (by kernel_rfl) (fun _ _ _ h => h) (Or.inl ⟨by rfl, ?_⟩) (by assumption) ?_
          rotate_left
          · intro w' hSw; (try dsimp only at hSw); subst hSw; go_simp; with_reducible rfl
          (try dsimp only); try simp only [Act.put, List.setIfInBounds_toArray, List.set_cons_zero, List.set_cons_succ]
          refine heldTill.takeAt (some 147) (i := 15) (oi := _) (v := ?_) rfl rfl (by kernel_rfl) (by kernel_rfl) (by kernel_rfl) (by kernel_rfl) (fun _ _ _ h => h) (Or.inl ⟨by rfl, ?_⟩) (by assumption) ?_
          rotate_left
          · intro w' hSw; (try dsimp only at hSw); subst hSw; go_simp; with_reducible rfl
          (try dsimp only); try simp only [Act.put, List.setIfInBounds_toArray, List.set_cons_zero, List.set_cons_succ]
          refine heldTill.takeAt (some 148) (i := 16) (oi := _) (v := ?_) rfl rfl (by kernel_rfl) (by kernel_rfl) (by kernel_rfl) (by kernel_rfl) (fun _ _ _ h => h) (Or.inl ⟨by rfl, ?_⟩) (by assumption) ?_
          rotate_left
          · intro w' hSw; (try dsimp only at hSw); subst hSw; go_simp; with_reducible rfl
          (try dsimp only); try simp only [Act.put, List.setIfInBounds_toArray, List.set_cons_zero, List.set_cons_succ]
          refine heldTill.takeAt (some 149) (i := 17) (oi := _) (v := ?_) rfl rfl (by kernel_rfl) (by kernel_rfl) (by kernel_rfl) (by kernel_rfl) (fun _ _ _ h => h) (Or.inl ⟨by rfl, ?_⟩) (by assumption) ?_
          rotate_left
          · intro w' hSw; (try dsimp only at hSw); subst hSw; go_simp; with_reducible rfl
          (try dsimp only); try simp only [Act.put, List.setIfInBounds_toArray, List.set_cons_zero, List.set_cons_succ]
          refine heldTill.takeAt (some 150) (i := 18) (oi := _) (v := ?_) rfl rfl (by kernel_rfl) (by kernel_rfl) (by kernel_rfl) (by kernel_rfl) (fun _ _ _ h => h) (Or.inl ⟨by rfl, ?_⟩) (by assumption) ?_
          rotate_left
          · intro w' hSw; (try dsimp only at hSw); subst hSw; go_simp; with_reducible rfl
          (try dsimp only); try simp only [Act.put, List.setIfInBounds_toArray, List.set_cons_zero, List.set_cons_succ]
          refine heldTill.takeAt (some 151) (i := 19) (oi := _) (v := ?_) rfl rfl (by kernel_rfl) (by kernel_rfl) (by kernel_rfl) (by kernel_rfl) (fun _ _ _ h => h) (Or.inl ⟨by rfl, ?_⟩) (by assumption) ?_
          rotate_left
          · intro w' hSw; (try dsimp only at hSw); subst hSw; go_simp; with_reducible rfl
          (try dsimp only); try simp only [Act.put, List.setIfInBounds_toArray, List.set_cons_zero, List.set_cons_succ]
          refine heldTill.takeAt (some 152) (i := 20) (oi := _) (v := ?_) rfl rfl (by kernel_rfl) (by kernel_rfl) (by kernel_rfl) (by kernel_rfl) (fun _ _ _ h => h) (Or.inl ⟨by rfl, ?_⟩) (by assumption) ?_
          rotate_left
          · intro w' hSw; (try dsimp only at hSw); subst hSw; go_simp; with_reducible rfl
          (try dsimp only); try simp only [Act.put, List.setIfInBounds_toArray, List.set_cons_zero, List.set_cons_succ]
          refine heldTill.takeAt (some 153) (i := 21) (oi := _) (v := ?_) rfl rfl (by kernel_rfl) (by kernel_rfl) (by kernel_rfl) (by kernel_rfl) (fun _ _ _ h => h) (Or.inl ⟨by rfl, ?_⟩) (by assumption) ?_
          rotate_left
          · intro w' hSw; (try dsimp only at hSw); subst hSw; go_simp; with_reducible rfl
          (try dsimp only); try simp only [Act.put, List.setIfInBounds_toArray, List.set_cons_zero, List.set_cons_succ]
          refine heldTill.takeAt (some 154) (i := 22) (oi := _) (v := ?_) rfl rfl (by kernel_rfl) (by kernel_rfl) (by kernel_rfl) (by kernel_rfl) (fun _ _ _ h => h) (Or.inl ⟨by rfl, ?_⟩) (by assumption) ?_
          rotate_left
          · intro w' hSw; (try dsimp only at hSw); subst hSw; go_simp; with_reducible rfl
          (try dsimp only); try simp only [Act.put, List.setIfInBounds_toArray, List.set_cons_zero, List.set_cons_succ]
          refine heldTill.takeAt (some 155) (i := 23) (oi := _) (v := ?_) rfl rfl (by kernel_rfl) (by kernel_rfl) (by kernel_rfl) (by kernel_rfl) (fun _ _ _ h => h) (Or.inl ⟨by rfl, ?_⟩) (by assumption) ?_
          rotate_left
          · intro w' hSw; (try dsimp only at hSw); subst hSw; go_simp; with_reducible rfl
          (try dsimp only); try simp only [Act.put, List.setIfInBounds_toArray, List.set_cons_zero, List.set_cons_succ]
          refine heldTill.takeAt (some 9) (i := 24) (oi := _) (v := ?_) rfl rfl (by kernel_rfl) (by kernel_rfl) (by kernel_rfl) (by kernel_rfl) (fun _ _ _ h => h) (Or.inl ⟨by rfl, ?_⟩) (by assumption) ?_
          rotate_left
          · intro w' hSw; (try dsimp only at hSw); subst hSw; go_simp; with_reducible rfl
          (try dsimp only); try simp only [Act.put, List.setIfInBounds_toArray, List.set_cons_zero, List.set_cons_succ]
          refine heldTill.sole (some 156) (i := 25) (oi := _) (v := ?_) rfl rfl (by kernel_rfl) (Or.inl ⟨by rfl, ?_⟩) (by assumption) ?_
          rotate_left
          · intro w' hSw; (try dsimp only at hSw); subst hSw; go_simp; with_reducible rfl
          (try dsimp only); try simp only [Act.put, List.setIfInBounds_toArray, List.set_cons_zero, List.set_cons_succ]
          refine heldTill.sole (some 157) (i := 26) (oi := _) (v := ?_) rfl rfl (by kernel_rfl) (Or.inl ⟨by rfl, ?_⟩) (by assumption) ?_
          rotate_left
          · intro w' hSw; (try dsimp only at hSw); subst hSw; go_simp; with_reducible rfl
          (try dsimp only); try simp only [Act.put, List.setIfInBounds_toArray, List.set_cons_zero, List.set_cons_succ]
          clear hHeld
          refine heldTill.last (by kernel_rfl) rfl (fun K hK => ?_)
          go_simp
          refine hK.out _ _ ?_
          (try dsimp only); try simp only [Act.put, List.setIfInBounds_toArray, List.set_cons_zero, List.set_cons_succ]
          refine heldTill.done (by kernel_rfl) ?_ _
          clear hK K
          go_wp2_with fail
          obtain ⟨W5, hW5⟩ : ∃ W5, (wr.setCell ⟨gt, 5, none⟩ (.slice (some ⟨g5, 0, none⟩) pre.length c5)).drew = W5 := ⟨_, rfl⟩
          rw [hW5] at hH5 hR5 ⊢
          clear hW5 k5 kf5 hce5
          have k4 : W5.cell? ⟨gt, 4, none⟩ = some (.map (some gs)) := (TQ.cells hH5.out).2.2.2.2.1
          go_region_held3 (fun w' => w'.cell? ⟨gt, 4, none⟩ = some (.map (some gs)))
            (first | exact j4 | go_keep)
            (first
              | (go_at_call 202; refine (nodeID_any x _).mono ?_; rintro e wi ⟨rfl, rfl⟩)
              | (go_at_call 118; refine (remove_any gs pre x _ (TQ.set (TQ.below hH5.out (Below.refl _ _).drew)) hxw HX5.out.2.2.1).mono ?_; rintro e w6 ⟨rfl, hs6, hg6⟩; have H6 := Aside0.mk (TQ.setS (TQ.below hH5.out (Below.refl _ _).drew) hs6 hg6); have R6 := Aside0.mk (PRow.grown (PRow.below hR5.out (Below.refl _ _).drew) hg6 (TQ.lt hH5.out).2.2.2); have j4 : w6.cell? ⟨gt, 4, none⟩ = some (.map (some gs)) := (TQ.cells H6.out).2.2.2.2.1; clear hs6 hg6))
          clear k4 j4
          go_wp2_with (at_builtin; refine wpList_append_own_at _ rfl _ _ 68 rfl lo 72 i0 .nilIface 1 16 Tryz.underlying68 HI.out.1 HI.out.2.1 HI.out.2.2.1 HI.out.2.2.2 rfl (by decide) _ xs.length (nodeVs xs) rfl (World.ownsRow.alloc R6.out.own _) ⟨w6.heap.size, 0, none⟩ 1 1 [.iface 97 (.int .i64 x)] rfl rfl (cell_one_new _ _ _) ?q2 ?q3 ?q4 ?q5 ?_)
          case q2 => intro u hu; simp at hu; subst hu; rfl
          case q3 => unfold maxLen; omega
          case q4 => omega
          case q5 => have h1 := TQ.L H6.out; dsimp only at h1; simp; omega
          intro v' w7 hown hgr _ hat
          obtain ⟨A7, c7, rfl⟩ := own_slice hown
          have hg0 := (World.grownBy_alloc w6 (.cells #[.iface 97 (.int .i64 x)] 72) (Value.slice A8 xs.length c8).ownBlock).trans hgr
          have H7 := Aside0.mk (TQ.beside H6.out R6.out hg0)
          have R7 := Aside0.mk (PRow.more H6.out R6.out hown (hat.imp id (fun h q hq => by rw [h] at hq; have := Option.some.inj hq; omega)))
          clear hown hgr hat hg0
          have k6 : w7.cell? ⟨gt, 6, none⟩ = some (.slice A9 rows5.length c9) := (TQ.cells H7.out).2.2.2.2.2.2
          have kf6 : w7.frozen? ⟨gt, 6, none⟩ = false := blk_frozen (TQ.blk H7.out) 6
          by_cases hxv : x = v
          · have hbx : (x == v) = true := by rw [hxv]; simp
            rcases last_is HX5.out.2.1 with ⟨e1, e2, -⟩ | ⟨rest', e1, e2⟩
            · have hvo := HT.out.1.vOut H0.out.2.1 H0.out.1
              have hnw2 : nw = xs.reverse := by
                have h := HX5.out.1
                rw [HSK.out.1, e1] at h
                simpa using h
              have HPOP := Aside0.mk (show s1.pop v = ⟨s1.idx, s1.num, s1.low, pre, s1.out ++ [xs ++ [x]]⟩ by
                obtain ⟨t1, t2⟩ := cut_at s.stk nw v hvo
                unfold TS.pop
                rw [HSK.out.1, t1, t2, e2, hnw2, hxv]
                simp)
              obtain ⟨j0, gj, gz0, gz1, gz2⟩ := info_parts Tryz.info68
              have HJ := Aside0.mk (And.intro gj (And.intro gz0 (And.intro gz1 gz2)))
              have HO7 := Aside0.mk (show w7.ownsRow lo 68 1 (.slice A9 rows5.length c9) rows5.length rows5 from (TQ.out H7.out).own)
              clear gj gz0 gz1 gz2 e1 e2 hnw2 hxv
              go_wp2_with (first
                | (go_at_call 202; refine (nodeID_any x _).mono ?_; rintro e wi ⟨rfl, rfl⟩)
                | (at_builtin; refine wpList_append_own_at _ rfl _ _ 60 rfl lo 68 j0 (.slice none 0 0) 1 24 Tryz.underlying60 HJ.out.1 HJ.out.2.1 HJ.out.2.2.1 HJ.out.2.2.2 rfl (by decide) _ rows5.length rows5 rfl (World.ownsRow.alloc HO7.out _) ⟨w7.heap.size, 0, none⟩ 1 1 [.slice A7 (xs.length + 1) c7] rfl rfl (cell_one_new _ _ _) ?q2 ?q3 ?q4 ?q5 ?_))
              case q2 => intro u hu; simp at hu; subst hu; rfl
              case q3 => unfold maxLen; omega
              case q4 => omega
              case q5 => have h1 := TQ.L H7.out; dsimp only at h1; simp; omega
              intro v' w8 hown hgr _ hat
              obtain ⟨A6, c6, rfl⟩ := own_slice hown
              have hg0 := (World.grownBy_alloc w7 (.cells #[.slice A7 (xs.length + 1) c7] 68) (Value.slice A9 rows5.length c9).ownBlock).trans hgr
              have hgtne2 : some gt ≠ (Value.slice A9 rows5.length c9).ownBlock := fun e => by have h1 := (TQ.ovLt H7.out e.symm).1; have h2 := (TQ.lt H7.out).1; dsimp only at h1 h2; omega
              have hblk := (hg0.block gt (blk_lt (TQ.blk H7.out)) hgtne2).trans (TQ.blk H7.out)
              have hc9 : w8.cell? ⟨gt, 6, none⟩ = some (.slice A9 rows5.length c9) := (blk_cell hblk 6).trans rfl
              have hf9 := blk_frozen hblk 6
              have H9 := Aside0.mk (TQ.lay H7.out R7.out hg0 hown (hat.imp id (fun h q hq => by rw [h] at hq; have := Option.some.inj hq; omega)))
              clear hown hgr hat hg0 hblk k6 kf6
              go_wp2
              go_end0
              rw [HR.out, HPOP.out]
              exact ⟨rfl, _, _, _, H9.out⟩
            · exact absurd (by rw [e2, hxv]; simp : x ∈ pre) HX5.out.2.2.1
          · have hbx : (x == v) = false := by rw [beq_eq_false_iff_ne]; exact hxv
            clear k6 kf6
            go_wp2_with (go_at_call 202; refine (nodeID_any x _).mono ?_; rintro e wi ⟨rfl, rfl⟩)
            rcases last_is HX5.out.2.1 with ⟨-, -, e⟩ | ⟨rest', e1, e2⟩
            · exact absurd e hxv
            · refine ⟨⟨rest', ⟨xs ++ [x], _, _, rows5, ?_, ?_, R7.out⟩⟩, ?_⟩
              · rw [HX5.out.1, e1]; simp
              · rw [← e2]; exact H7.out
              · simp only [lenOf]; omega
      · have hbb : (la == lb) = false := by rw [beq_eq_false_iff_ne, ← hla, ← hlb]; omega
        have HR : Aside0 (r = s1) := ⟨by rw [← HRR.out]; unfold TS.leave; rw [if_neg he]⟩
        clear hla hlb
        go_wp2_with fail
        go_region_held3 (fun w' => w'.cell? ⟨gt, 2, none⟩ = some (.map (some gi)) ∧ w'.cell? ⟨gt, 3, none⟩ = some (.map (some gl)))
          (go_keep)
          (fail)
        all_goals
          go_wp2
          go_end0
          exact ⟨rfl, st1, ov1, rows1, by rw [HR.out]; exact HT.out.2.2.2.1⟩
end Go.Proofs.YtolbfjjgdheikaaGreat.R
