import Derived.Test.YtddklkgcodjijaaGreatAG8
import Derived.Test.YtddklkgcodjijaaGreatAG7
import Derived.Test.YtddklkgcodjijaaGreatProg
import Derived.Deep.RegionHeld3
import Derived.Test.YtddklkgcodjijaaGreatAG6
set_option linter.unusedVariables false
set_option linter.unusedSimpArgs false
/- topo.sortedFrom, over topo.lexical. -/
namespace Go.Proofs.YtddklkgcodjijaaGreat.R
open Go.RowKit Go.Lab Go.Maps Go.Proofs.YtddklkgcodjijaaGreatW.PrintWords Go.Proofs.YtddklkgcodjijaaGreatW.PrintLast Go.Proofs.YtddklkgcodjijaaGreatW.PrintMore PL

theorem sc_nil (w : World) : (binOp .neq 121 (.slice none 0 0) (.slice none 0 0)).run Tryz.prog w = .ok (.bool false) w := by kernel_rfl
theorem sc_some (g n c : Nat) (w : World) : (binOp .neq 121 (.slice (some ⟨g, 0, none⟩) n c) (.slice none 0 0)).run Tryz.prog w = .ok (.bool true) w := by kernel_rfl
/-- the components that are no single nodes, ascending -/
def cyc (out : List (List Int)) : List (List Int) := (out.filter fun p => decide (p.length ≠ 1)).map srt
/-- what sortedFrom answers -/
def SFok (lo : Nat) (w w' : World) (out : List (List Int)) (sv ev : Value) : Prop :=
  w'.ownsRow w.heap.size 88 1 sv out.length (out.map slotV).reverse ∧
    ((cyc out = [] ∧ ev = .nilIface) ∨ (cyc out ≠ [] ∧ ∃ cv rows2, ev = .iface 121 cv ∧ RwsV kpN lo w' cv rows2 (cyc out).reverse)) ∧ Below lo w w'
theorem rwsL {lo b : Nat} {w : World} {cv : Value} (L : List (Value × List Int)) (hb : lo ≤ b) (own : w.ownsRow b 60 1 cv L.length (L.map (·.1))) (each : ∀ x ∈ L, w.ownsRow lo 88 1 x.1 x.2.length (nodeVs x.2)) : RwsV kpN lo w cv (L.map (·.1)) (L.map (·.2)) := by
  refine ⟨by rw [List.length_map]; exact own_weaken own hb, by simp, fun i hi => ?_⟩
  have hi2 : i < L.length := by simpa using hi
  rw [List.getElem_map, List.getD_eq_getElem?_getD, List.getElem?_map, List.getElem?_eq_getElem hi2]
  exact each _ (List.getElem_mem hi2)
theorem cyc_zip (rows : List Value) (out : List (List Int)) (h : rows.length = out.length) : ((rows.zip out).filter fun p => decide (p.2.length ≠ 1)).map (fun x => srt x.2) = cyc out := by
  unfold cyc
  rw [show (fun x : Value × List Int => srt x.2) = srt ∘ (·.2) from rfl, ← List.map_map]
  congr 1
  have h2 : (rows.zip out).map (·.2) = out := by rw [List.map_snd_zip]; omega
  conv => rhs; rw [← h2]
  rw [List.filter_map]
  rfl

section
variable {w0 : World} {lo : Nat} {rows : List Value} {lv : Value} {out : List (List Int)} {wr w2 w3 : World} {sv : Value} {vs : List Value} {cv : Value} {rows2 : List Value} {out' : List (List Int)}
theorem SFr.ends1 (h : SFr w0 lo rows lv out wr sv cv vs rows2 out') (hlo : lo ≤ w0.heap.size) (hg : wr.grownBy w2 sv.ownBlock) (ho : w2.ownsRow w0.heap.size 88 1 sv vs.length vs.reverse) (hv : vs = out.map slotV) (hok : cyc out = []) : SFok lo w0 w2 out sv .nilIface := by
  subst hv
  exact ⟨by rw [List.length_map] at ho; exact ho, .inl ⟨hok, rfl⟩, (h.old hg (fun k hk => (h.svLt hk).1) hlo).2⟩
theorem SFr.ends2 (h : SFr w0 lo rows lv out wr sv cv vs rows2 out') (hlo : lo ≤ w0.heap.size) (hg2 : wr.grownBy w2 cv.ownBlock) (ho2 : w2.ownsRow w0.heap.size 60 1 cv rows2.length rows2.reverse) (hg3 : w2.grownBy w3 sv.ownBlock) (ho3 : w3.ownsRow w0.heap.size 88 1 sv vs.length vs.reverse) (hv : vs = out.map slotV)
    (hr2 : rows2 = ((rows.zip out).filter fun p => decide (p.2.length ≠ 1)).map (·.1)) (ho' : out' = out.map srt) (hrl : rows.length = out.length) (hok : cyc out ≠ []) : SFok lo w0 w3 out sv (.iface 121 cv) := by
  obtain ⟨a, b⟩ := h.old hg2 (fun k hk => (h.cvLt hk).1) hlo
  have kk : ∀ k, k < w0.heap.size → w3.heap[k]? = w2.heap[k]? := fun k hk => hg3.block k (Nat.lt_of_lt_of_le hk (Nat.le_trans h.L hg2.size)) (fun e => by have := (h.svLt e.symm).1; omega)
  have a3 : RwsV kpN lo w3 lv rows out' := ⟨own_of_heap a.own fun k hk => kk k (h.b1 k hk), a.len, fun i hi => own_of_heap (a.each i hi) fun k hk => kk k (h.b2 _ (List.getElem_mem hi) k hk)⟩
  have ho4 : w3.ownsRow w0.heap.size 60 1 cv rows2.length rows2.reverse := own_of_heap ho2 fun k hk => hg3.block k (Nat.lt_of_lt_of_le (h.cvLt hk).2 hg2.size) (fun e => h.scNe hk e.symm)
  subst hv
  refine ⟨by rw [List.length_map] at ho3; exact ho3, .inr ⟨hok, cv, rows2.reverse, rfl, ?_⟩, ⟨hg3.os.trans b.os, hg3.tape.trans b.tape, hg3.output.trans b.output, Nat.le_trans b.size hg3.size, fun k hk => (kk k (by omega)).trans (b.block k hk)⟩⟩
  have h5 := rwsL (lo := lo) (w := w3) (cv := cv) ((((rows.zip out).filter fun p => decide (p.2.length ≠ 1)).map fun x => (x.1, srt x.2)).reverse) hlo (by
    rw [List.length_reverse, List.length_map, List.map_reverse, List.map_map]
    rw [hr2, List.length_map] at ho4
    exact ho4) (fun x hx => by
    obtain ⟨y, hy, rfl⟩ := List.mem_map.1 (List.mem_reverse.1 hx)
    obtain ⟨j, hj, rfl⟩ := List.mem_iff_getElem.1 (List.mem_filter.1 hy).1
    rw [List.length_zip] at hj
    have e := a3.each j (by omega)
    rw [ho', List.getD_eq_getElem?_getD, List.getElem?_map, List.getElem?_eq_getElem (by omega)] at e
    rw [List.getElem_zip]
    exact e)
  rw [List.map_reverse, List.map_reverse, List.map_map, List.map_map] at h5
  rw [hr2]
  have h6 := cyc_zip rows out hrl
  rw [← h6]
  exact h5
end

set_option maxHeartbeats 16000000 in
set_option maxRecDepth 100000 in
theorem sortedFrom_any (lo : Nat) (lv : Value) (rows : List Value) (out : List (List Int)) (w : World) (h : RwsV kpN lo w lv rows out) (hs : rows.Pairwise fun u v => ∀ k, u.ownBlock = some k → v.ownBlock ≠ some k) (hlo : lo ≤ w.heap.size) (hn : out.length ≤ 1000) (hl : ∀ q ∈ out, q.length ≤ 1000) :
    Calls Tryz.prog 69 #[lv, .func (.func 67) #[] #[]] w fun e w' => ∃ sv ev, e = .returned (.tuple #[sv, ev]) ∧ SFok lo w w' out sv ev := by
  obtain ⟨A, c, rfl⟩ := own_slice h.own
  have hrl : rows.length = out.length := h.len
  have hrn : rows.length ≤ 1000 := by omega
  have HH := Aside0.mk (And.intro h (And.intro hs hl))
  obtain ⟨i0, hi, hz0, hz1, hz2⟩ := info_parts Tryz.info88
  have HI := Aside0.mk (And.intro hi (And.intro hz0 (And.intro hz1 hz2)))
  obtain ⟨j0, gi, gz0, gz1, gz2⟩ := info_parts Tryz.info60
  have HJ := Aside0.mk (And.intro gi (And.intro gz0 (And.intro gz1 gz2)))
  have HRL := Aside0.mk hrl
  clear h hs hl hi hz0 hz1 hz2 gi gz0 gz1 gz2 hrl hn
  go_enter Tryz.func69, Tryz.ntmps69
  go_wp2_with (at_make; refine wpList_make_own _ rfl _ _ 60 rfl w.heap.size 88 i0 .nilIface 1 Tryz.underlying60 HI.out.1 HI.out.2.1 HI.out.2.2.1 .i64 .i64 (rows.length : Int) rows.length rfl rfl rfl (by rw [HI.out.2.2.2]; omega) (by unfold maxLen; omega) (Nat.le_refl _) ?_; intro w1 ho1 hg1; have H1 := Aside0.mk (SFr.start HH.out.1 HH.out.2.1 hlo hg1 ho1); clear ho1 hg1)
  go_loopw [6, 7, 16] (fun v6 v7 v16 wr => ∃ i : Nat, v16 = .int .i64 i ∧ i ≤ rows.length ∧ Aside0 (∃ vs rows2 out', SFr w lo rows (.slice A rows.length c) out wr v6 v7 vs rows2 out' ∧ SFi rows out i vs rows2 out')) (fun _ _ v16 _ => rows.length + 1 - (intOf v16).toNat)
  case atStart => exact ⟨0, rfl, Nat.zero_le _, ⟨[], [], out, H1.out, SFi.start rows out⟩⟩
  case round =>
    clear H1
    obtain ⟨i, rfl, hi, hrel⟩ := hrel
    obtain ⟨vs, rows2, out', hS, hF⟩ := hrel.out
    have hvl : vs.length = i := by rw [hF.vs, List.length_map, List.length_take]; have := HRL.out; omega
    have hr2 : rows2.length ≤ i := by
      rw [hF.rows2, List.length_map]
      refine Nat.le_trans (List.length_filter_le _ _) ?_
      rw [List.length_take]
      omega
    by_cases hlt : i < rows.length
    · have hdk : decide ((i : Int) < (rows.length : Int)) = true := decide_eq_true (by omega)
      obtain ⟨q0, hq0⟩ : ∃ q0, out'.getD i [] = q0 := ⟨_, rfl⟩
      have hrow := hS.oO.each i hlt
      rw [hq0] at hrow
      have hio : i < out.length := by have := HRL.out; omega
      have hqo : out[i] = q0 := by rw [← hq0]; exact (hF.at' hio).symm
      have hq1000 : q0.length ≤ 1000 := by rw [← hqo]; exact HH.out.2.2 _ (List.getElem_mem hio)
      obtain ⟨g, c', he, hc', hcell, -⟩ := own_cells hS.oO.own (by omega)
      simp only [Value.slice.injEq] at he
      obtain ⟨rfl, -, rfl⟩ := he
      have hce : wr.cell? ⟨g, i, none⟩ = some rows[i] := hcell i _ (by simp [hlt])
      obtain ⟨A2, c2, hrk⟩ := own_slice hrow
      have hrl2 : wr.ownsRow lo 88 1 (.slice A2 q0.length c2) q0.length (nodeVs q0) := by rw [← hrk]; exact hrow
      rw [hrk] at hce
      obtain ⟨A6, c6, rfl⟩ := own_slice hS.sO
      obtain ⟨A7, c7, rfl⟩ := own_slice hS.cO
      have hi0 : (0 : Int) ≤ (i : Int) := by omega
      have hi1 : (i : Int) < (rows.length : Int) := by omega
      have HS := Aside0.mk hS
      have HK := Aside0.mk (And.intro hF (And.intro hqo (And.intro hrk hq0)))
      have HROW := Aside0.mk hrl2
      have hvn : vs.length ≤ 1000 := by omega
      have hr2n : rows2.length ≤ 1000 := by omega
      have hL := hS.L
      clear hrel hS hF hrow hcell hq0 hrk hqo hrl2 hvl hr2
      by_cases h1 : q0.length = 1
      · have hb : ((q0.length : Int) == 1) = true := by rw [h1]; rfl
        obtain ⟨x, rfl⟩ := List.length_eq_one_iff.1 h1
        obtain ⟨g2, c3, he2, -, hcell2, -⟩ := own_cells HROW.out (by simp)
        simp only [Value.slice.injEq] at he2
        obtain ⟨rfl, -, rfl⟩ := he2
        have hx : wr.cell? ⟨g2, 0, none⟩ = some (.iface 272 (.int .i64 x)) := hcell2 0 _ rfl
        clear hcell2 h1
        rw [show ([x] : List Int).length = 1 from rfl] at hce
        clear hb
        go_wp2_with (at_builtin; refine wpList_append_own_at _ rfl _ _ 60 rfl w.heap.size 88 i0 .nilIface 1 16 Tryz.underlying60 HI.out.1 HI.out.2.1 HI.out.2.2.1 HI.out.2.2.2 rfl (by decide) _ vs.length vs rfl (World.ownsRow.alloc HS.out.sO _) ⟨wr.heap.size, 0, none⟩ 1 1 [.iface 272 (.int .i64 x)] rfl rfl (cell_one_new _ _ _) ?q2 ?q3 ?q4 ?q5 ?_)
        case q2 => intro u hu; simp at hu; subst hu; rfl
        case q3 => unfold maxLen; omega
        case q4 => omega
        case q5 => simp; omega
        intro v' w2 hown hgr _ hat
        have hg0 := (World.grownBy_alloc wr (.cells #[.iface 272 (.int .i64 x)] 88) (Value.slice A6 vs.length c6).ownBlock).trans hgr
        have H2 := Aside0.mk (HS.out.growS hlo hg0 hown)
        clear hown hgr hat hg0
        go_wp2
        refine ⟨⟨i + 1, by simp, by omega, ⟨vs ++ [.iface 272 (.int .i64 x)], rows2, out', H2.out, ?_⟩⟩, by simp [intOf]; omega⟩
        have h9 := HK.out.1.one hlt hio (by rw [HK.out.2.1]; rfl)
        rw [HK.out.2.1, slotV_one] at h9
        exact h9
      · have hb : ((q0.length : Int) == 1) = false := by rw [beq_eq_false_iff_ne]; omega
        have hq2 : q0.length ≤ 100000 := by omega
        go_wp2_with (first
          | (go_at_call 67; refine (lexical_own lo _ q0 _ HROW.out hq2).mono ?_; rintro e w2 ⟨rfl, ho2, hg2⟩; have H2 := Aside0.mk (HS.out.turned hlo hlt (ys := srt q0) (by rw [HK.out.2.2.2]; exact srt_length q0) (by rw [HK.out.2.2.1]; exact hg2) (by rw [HK.out.2.2.1, HK.out.2.2.2]; exact ho2)); clear ho2 hg2)
          | (at_builtin; refine wpList_append_own_at _ rfl _ _ 121 rfl w.heap.size 60 j0 (.slice none 0 0) 1 24 Tryz.underlying121 HJ.out.1 HJ.out.2.1 HJ.out.2.2.1 HJ.out.2.2.2 rfl (by decide) _ rows2.length rows2 rfl (World.ownsRow.alloc H2.out.cO _) ⟨w2.heap.size, 0, none⟩ 1 1 [.slice A2 q0.length c2] rfl rfl (cell_one_new _ _ _) ?q2 ?q3 ?q4 ?q5 ?_))
        case q2 => intro u hu; simp at hu; subst hu; rfl
        case q3 => unfold maxLen; omega
        case q4 => omega
        case q5 => have := H2.out.L; simp; omega
        intro v' w3 hown hgr _ hat
        have hg0 := (World.grownBy_alloc w2 (.cells #[.slice A2 q0.length c2] 60) (Value.slice A7 rows2.length c7).ownBlock).trans hgr
        have H3 := Aside0.mk (H2.out.growC hlo hg0 hown)
        clear hown hgr hat hg0
        go_wp2_with (at_builtin; refine wpList_append_own_at _ rfl _ _ 60 rfl w.heap.size 88 i0 .nilIface 1 16 Tryz.underlying60 HI.out.1 HI.out.2.1 HI.out.2.2.1 HI.out.2.2.2 rfl (by decide) _ vs.length vs rfl (World.ownsRow.alloc H3.out.sO _) ⟨w3.heap.size, 0, none⟩ 1 1 [.nilIface] rfl rfl (cell_one_new _ _ _) ?q2 ?q3 ?q4 ?q5 ?_)
        case q2 => intro u hu; simp at hu; subst hu; rfl
        case q3 => unfold maxLen; omega
        case q4 => omega
        case q5 => have := H3.out.L; simp; omega
        intro v4 w4 hown hgr _ hat
        have hg0 := (World.grownBy_alloc w3 (.cells #[.nilIface] 88) (Value.slice A6 vs.length c6).ownBlock).trans hgr
        have H4 := Aside0.mk (H3.out.growS hlo hg0 hown)
        clear hown hgr hat hg0
        go_wp2
        refine ⟨⟨i + 1, by simp, by omega, ⟨vs ++ [.nilIface], rows2 ++ [.slice A2 q0.length c2], _, H4.out, ?_⟩⟩, by simp [intOf]; omega⟩
        have h9 := HK.out.1.many hlt hio (by rw [HK.out.2.1]; exact h1)
        rw [HK.out.2.1, slotV_ne h1, HK.out.2.2.1] at h9
        exact h9
    · have hdk : decide ((i : Int) < (rows.length : Int)) = false := decide_eq_false (by omega)
      have hin : i = out.length := by have := HRL.out; omega
      have htk : out.take i = out := List.take_of_length_le (by omega)
      have hvo : vs = out.map slotV := by have := hF.vs; rw [htk] at this; exact this
      have hr2o : rows2 = ((rows.zip out).filter fun p => decide (p.2.length ≠ 1)).map (·.1) := by
        have := hF.rows2
        rw [List.take_of_length_le (by rw [List.length_zip]; omega)] at this
        exact this
      have hoo : out' = out.map srt := by
        have := hF.out'
        rw [htk, List.drop_eq_nil_of_le (by omega), List.append_nil] at this
        exact this
      have hc : rows2 = [] ↔ cyc out = [] := by
        rw [hr2o, ← cyc_zip rows out HRL.out, List.map_eq_nil_iff, List.map_eq_nil_iff]
      have hvn : vs.length ≤ 100000 := by omega
      have hr2n : rows2.length ≤ 100000 := by omega
      have HS := Aside0.mk hS
      have HK := Aside0.mk (And.intro hvo (And.intro hr2o hoo))
      have HVK := Aside0.mk (show ∀ u ∈ vs, u.oneCell' = true from by rw [hvo]; exact (slotV_NVs out).one)
      by_cases h2 : rows2 = []
      · have hcv := hS.nil h2
        have HO := Aside0.mk (hc.1 h2)
        have m1 := sc_nil
        subst hcv
        clear hrel hS hF hvl hr2 htk hvo hr2o hoo hc h2 hin
        go_wp2_with (first
          | (go_at_call 98; refine (revN_own w.heap.size _ vs _ HS.out.sO HVK.out hvn).mono ?_; rintro e w2 ⟨rfl, ho, hg⟩; have H2 := Aside0.mk (And.intro ho hg); clear ho hg))
        go_ret2
        exact ⟨_, _, rfl, HS.out.ends1 hlo H2.out.2 H2.out.1 HK.out.1 HO.out⟩
      · obtain ⟨g7, c7, rfl, -, -, -⟩ := own_cells hS.cO (List.length_pos_iff.2 h2)
        have HO := Aside0.mk (show cyc out ≠ [] from fun hh => h2 (hc.2 hh))
        have m1 := sc_some g7 rows2.length c7
        have HONE := Aside0.mk (show ∀ u ∈ rows2, u.oneCell' = true from fun u hu => by
          obtain ⟨y, hy, rfl⟩ := List.mem_map.1 (by rw [hr2o] at hu; exact hu)
          obtain ⟨j, hj, rfl⟩ := List.mem_iff_getElem.1 (List.mem_filter.1 hy).1
          rw [List.length_zip] at hj
          rw [List.getElem_zip]
          obtain ⟨A3, c3, e⟩ := own_slice (hS.oO.each j (by omega))
          rw [e]; rfl)
        clear hrel hS hF hvl hr2 htk hvo hr2o hoo hc h2 hin
        go_wp2_with (first
          | (go_at_call 101; refine (revL_own w.heap.size _ rows2 _ HS.out.cO HONE.out hr2n).mono ?_; rintro e w2 ⟨rfl, ho, hg⟩; have H2 := Aside0.mk (And.intro ho hg); clear ho hg; have HSV := Aside0.mk (own_of_heap HS.out.sO (fun k hk => H2.out.2.block k (HS.out.svLt hk).2 (fun e => HS.out.scNe e.symm hk))))
          | (go_at_call 98; refine (revN_own w.heap.size _ vs _ HSV.out HVK.out hvn).mono ?_; rintro e w3 ⟨rfl, ho, hg⟩; have H3 := Aside0.mk (And.intro ho hg); clear ho hg))
        go_ret2
        exact ⟨_, _, rfl, HS.out.ends2 hlo H2.out.2 H2.out.1 H3.out.2 H3.out.1 HK.out.1 HK.out.2.1 HK.out.2.2 HRL.out HO.out⟩
end Go.Proofs.YtddklkgcodjijaaGreat.R

/- A region that draws its order and stores, last of all, over what it read: what is held till then is no longer asked for behind that store. -/
namespace Go.Proofs.YtddklkgcodjijaaGreat.R
section
variable {P : Program} {ops : Array Oper} {Q : Exit → Act → World → Prop} {md : Region.Mode} {S : World → Prop} {z : Nat}

/-- whatever comes up next, till number z has come up S holds -/
def heldTill (P : Program) (md : Region.Mode) (ops : Array Oper) (Q : Exit → Act → World → Prop) (S : World → Prop) (z : Nat) : Nat → Array Bool → Act → World → Prop
  | 0, ls, a, w => Region.ready md ops ls = [] ∧ Q .normal a w
  | n + 1, ls, a, w => (Region.ready md ops ls = [] → Q .normal a w) ∧
    ∀ i ∈ Region.ready md ops ls, wpOp P ops Q i (fun a' w' => (i ≠ z → S w') ∧ heldTill P md ops Q S z n (ls.setIfInBounds i true) a' w') a w
theorem heldTill.any : ∀ (n : Nat) (ls : Array Bool) (a : Act) (w : World), heldTill P md ops Q S z n ls a w → wpAny P md ops Q n ls a w
  | 0, _, _, _, h => h
  | n + 1, _, _, _, h => ⟨h.1, fun i hi => wpOp_mono (fun a' w' h' => heldTill.any n _ a' w' h'.2) (h.2 i hi)⟩
/-- number z waits for number i -/
def waitsFor (md : Region.Mode) (ops : Array Oper) (z i : Nat) : Bool := ((ops[z]?).map fun o => o.after.any fun e => Region.binds md e && e.on == i).getD false
theorem waits_ne {i j : Nat} {ls : Array Bool} (hw : waitsFor md ops z i = true) (hi : i ∈ Region.ready md ops ls) (hj : j ∈ Region.ready md ops ls) : j ≠ z := fun e => by
  subst e
  obtain ⟨_, o, ho, hall⟩ := mem_ready.1 hj
  unfold waitsFor at hw
  rw [ho] at hw
  simp only [Option.map_some, Option.getD_some] at hw
  obtain ⟨d, hd, hb⟩ := Array.any_eq_true'.1 hw
  rw [Bool.and_eq_true, beq_iff_eq] at hb
  have h1 := hall d hd hb.1
  rw [hb.2] at h1
  have h0 := (mem_ready.1 hi).1
  rcases Nat.lt_or_ge i ls.size with h' | h'
  · simp [h'] at h0 h1; rw [h0] at h1; cases h1
  · simp [Array.getElem?_eq_none h'] at h1
theorem heldTill.first {i : Nat} {oi : Oper} {v : Value} (hi : ops[i]? = some oi) (hsel : ∀ (j : Nat) (o : Oper) cs b, ops[j]? = some o → o.op ≠ .select cs b)
    (hz : waitsFor md ops z i = true) (hQ : ∀ c a w, Q (.panic c) (a.put oi.dst v) w → Q (.panic c) a w) :
    ∀ (n : Nat) (ls : Array Bool) (a : Act) (w : World),
      (∀ j oj, ops[j]? = some oj → j ≠ i → ls.getD j true = false → (∀ e ∈ oj.after, Region.binds md e = true → e.on ≠ i) → oi.apart ops oj = true) →
      i ∈ Region.ready md ops ls → YieldsIf P ops S oi v a → S w →
      heldTill P md ops Q S z n (ls.setIfInBounds i true) (a.put oi.dst v) w → heldTill P md ops Q S z (n + 1) ls a w := by
  intro n
  induction n with
  | zero =>
    intro ls a w _ hr hy hS H
    refine ⟨fun h => (by rw [h] at hr; cases hr), fun j hj => ?_⟩
    by_cases e : j = i
    · subst e; exact hy.wpOp hi hS ⟨fun _ => hS, H⟩
    · have h1 := ready_mono hj e
      rw [H.1] at h1
      cases h1
  | succ n ih =>
    intro ls a w hfree hr hy hS H
    refine ⟨fun h => (by rw [h] at hr; cases hr), fun j hj => ?_⟩
    by_cases e : j = i
    · subst e; exact hy.wpOp hi hS ⟨fun _ => hS, H⟩
    · have hjz : j ≠ z := waits_ne hz hr hj
      obtain ⟨hun, oj, hoj, hall⟩ := mem_ready.1 hj
      have hno : ∀ d ∈ oj.after, Region.binds md d = true → d.on ≠ i := fun d hd hb heq => by
        have h1 := hall d hd hb
        have h0 := (mem_ready.1 hr).1
        rw [heq] at h1
        rcases Nat.lt_or_ge i ls.size with h' | h'
        · simp [h'] at h0 h1; rw [h0] at h1; cases h1
        · simp [Array.getElem?_eq_none h'] at h1
      have h2 := wpOp_putIf hoj (hfree j oj hoj e hun hno) (fun cs b => hsel i oi cs b hi) (fun cs b => hsel j oj cs b hoj) hQ hy (H.2 j (ready_mono hj e))
      refine wpOp_mono (fun a' w' h3 => ⟨h3.2.1, ih (ls.setIfInBounds j true) a' w' (fun k ok hk hki hkn hkw => hfree k ok hk hki (by
        by_cases e2 : j = k
        · subst e2; exact hun
        · rw [getD_set_ne true e2] at hkn; exact hkn) hkw) (ready_mono hr (Ne.symm e)) h3.1 (h3.2.1 hjz) ?_⟩) h2
      rw [Array.setIfInBounds_comm _ _ e]
      exact h3.2.2
theorem heldTill.take {i : Nat} {oi : Oper} {v : Value} {n : Nat} {ls : Array Bool} {a : Act} {w : World} (hi : ops[i]? = some oi)
    (hs : Region.noSelect ops = true) (hz : waitsFor md ops z i = true) (hf : Region.free md ops ls i = true) (hr : (Region.ready md ops ls).contains i = true)
    (hQ : ∀ c a w, Q (.panic c) (a.put oi.dst v) w → Q (.panic c) a w) (hy : YieldsIf P ops S oi v a) (hS : S w)
    (h : heldTill P md ops Q S z n (ls.setIfInBounds i true) (a.put oi.dst v) w) : heldTill P md ops Q S z (n + 1) ls a w :=
  heldTill.first hi (Region.noSelect_spec hs) hz hQ n ls a w (Region.free_spec hi hf) (by simpa using hr) hy hS h
/-- the same, the slot told -/
theorem heldTill.takeAt {i : Nat} {oi : Oper} {v : Value} {n : Nat} {ls : Array Bool} {a : Act} {w : World} (d : Option Tmp) (hi : ops[i]? = some oi) (hd : oi.dst = d)
    (hs : Region.noSelect ops = true) (hz : waitsFor md ops z i = true) (hf : Region.free md ops ls i = true) (hr : (Region.ready md ops ls).contains i = true)
    (hQ : ∀ c a w, Q (.panic c) (a.put oi.dst v) w → Q (.panic c) a w) (hy : YieldsIf P ops S oi v a) (hS : S w)
    (h : heldTill P md ops Q S z n (ls.setIfInBounds i true) (a.put d v) w) : heldTill P md ops Q S z (n + 1) ls a w :=
  heldTill.take hi hs hz hf hr hQ hy hS (hd ▸ h)
theorem heldTakeAt {i : Nat} {oi : Oper} {v : Value} {n : Nat} {ls : Array Bool} {a : Act} {w : World} (d : Option Tmp) (hi : ops[i]? = some oi) (hd : oi.dst = d)
    (hs : Region.noSelect ops = true) (hf : Region.free md ops ls i = true) (hr : (Region.ready md ops ls).contains i = true)
    (hQ : ∀ c a w, Q (.panic c) (a.put oi.dst v) w → Q (.panic c) a w) (hy : YieldsIf P ops S oi v a) (hS : S w)
    (h : wpAnyH P md ops Q S n (ls.setIfInBounds i true) (a.put d v) w) : wpAnyH P md ops Q S (n + 1) ls a w :=
  wpAnyH_take hi hs hf hr hQ hy hS (hd ▸ h)
/-- nothing else may come up -/
theorem heldTill.sole {i : Nat} {oi : Oper} {v : Value} {n : Nat} {ls : Array Bool} {a : Act} {w : World} (d : Option Tmp) (hi : ops[i]? = some oi) (hd : oi.dst = d)
    (hr : Region.ready md ops ls = [i]) (hy : YieldsIf P ops S oi v a) (hS : S w)
    (h : heldTill P md ops Q S z n (ls.setIfInBounds i true) (a.put d v) w) : heldTill P md ops Q S z (n + 1) ls a w := by
  refine ⟨fun h0 => (by rw [hr] at h0; cases h0), fun j hj => ?_⟩
  rw [hr, List.mem_singleton] at hj
  subst hj
  exact hy.wpOp hi hS ⟨fun _ => hS, hd ▸ h⟩
/-- number z itself -/
theorem heldTill.last {o : Oper} {n : Nat} {ls : Array Bool} {a : Act} {w : World} (hr : Region.ready md ops ls = [z]) (ho : ops[z]? = some o)
    (h : ∀ K' : Act → World → Prop, Shut (∀ a w, heldTill P md ops Q S z n (ls.setIfInBounds z true) a w → K' a w) → if Region.wanted o (yielded ops a.tmps) = true then Oper.wp P o a w K' Q else K' (a.put o.dst undef) w) :
    heldTill P md ops Q S z (n + 1) ls a w := by
  refine ⟨fun h0 => (by rw [hr] at h0; cases h0), fun j hj => ?_⟩
  rw [hr, List.mem_singleton] at hj
  subst hj
  exact wpOp_step ho fun K' hK => h K' fun a w hh => hK a w ⟨fun e => absurd rfl e, hh⟩
theorem heldTill.done {ls : Array Bool} {a : Act} {w : World} (hr : Region.ready md ops ls = []) (h : Q .normal a w) : ∀ n, heldTill P md ops Q S z n ls a w
  | 0 => ⟨hr, h⟩
  | _ + 1 => ⟨fun _ => h, by rw [hr]; simp⟩
theorem heldTill.region (z : Nat) (S : World → Prop) {id : Nat} {a : Act} {w : World} (hm : P.follows .mixedOrders = true) (hS : S w.drew)
    (h : S w.drew → heldTill P .any ops Q S z ops.size (Array.replicate ops.size false) a w.drew) : (Code.region id ops true).wp P Q a w :=
  wp_region_any hm (heldTill.any _ _ _ _ (h hS))
end
end Go.Proofs.YtddklkgcodjijaaGreat.R

/- The walk of strongconnect. -/
namespace Go.Proofs.YtddklkgcodjijaaGreat.R
open Go.RowKit Go.Lab Go.Maps Go.Proofs.YtddklkgcodjijaaGreatW.PrintWords Go.Proofs.YtddklkgcodjijaaGreatW.PrintLast Go.Proofs.YtddklkgcodjijaaGreatW.PrintMore PL

theorem small_wf {x : Int} (h : -100000 ≤ x ∧ x ≤ 100000000) : (Lit.int .i64 x).wf = true := by
  unfold Lit.wf
  have h1 : IntKind.i64.min = -9223372036854775808 := by decide
  have h2 : IntKind.i64.max = 9223372036854775807 := by decide
  rw [Bool.and_eq_true, decide_eq_true_iff, decide_eq_true_iff, h1, h2]
  omega
def fvT (gb : Nat) : Value := .func (.func 97) #[] #[.pointer (some ⟨gb, 0, none⟩)]
/-- Env is of blocks below lo other than the object's -/
def EnvOk (lo gt gi gl gs : Nat) (Env : World → Prop) : Prop := ∀ w w' : World, Env w → (∀ k, k < lo → k ≠ gt → k ≠ gi → k ≠ gl → k ≠ gs → w'.heap[k]? = w.heap[k]?) → Env w'
attribute [local go_sem] min2_int min_two
end Go.Proofs.YtddklkgcodjijaaGreat.R

/- The successors of a node, as the closure that Tarjan's object holds tells them. -/
namespace Go.Proofs.YtddklkgcodjijaaGreat.R
open Go.RowKit Go.Lab Go.Maps Go.Proofs.YtddklkgcodjijaaGreatW.PrintWords Go.Proofs.YtddklkgcodjijaaGreatW.PrintLast Go.Proofs.YtddklkgcodjijaaGreatW.PrintMore PL

theorem meth_DFrom (a : Addr) (w : World) : (method 396 57 (.agg #[.pointer (some a)]) "From").run Tryz.prog w = .ok (203, .agg #[.pointer (some a)]) w := by kernel_rfl
theorem meth_DNodes (a : Addr) (w : World) : (method 396 57 (.agg #[.pointer (some a)]) "Nodes").run Tryz.prog w = .ok (205, .agg #[.pointer (some a)]) w := by kernel_rfl
/-- the graph stands, and the box that names it -/
structure GEnv (wE : World) (gb base bp : Nat) (zs : List Int) (es : List S95) (p : Pl) (w : World) : Prop where
  gr : GrOk wE base bp zs es p
  old : ∀ k, k < wE.heap.size → w.heap[k]? = wE.heap[k]?
  box : w.heap[gb]? = some (.cells #[.iface 57 (.agg #[.pointer (some ⟨bp, 0, none⟩)])] 98 (0, 0))
theorem GEnv.now {wE w : World} {gb base bp : Nat} {zs : List Int} {es : List S95} {p : Pl} (h : GEnv wE gb base bp zs es p w) : GrOk w base bp zs es p :=
  ⟨h.gr.ok.kinds (fun k c t hk _ => h.old k (blk_lt hk)), h.gr.good, h.gr.adj, h.gr.hs, h.gr.hn⟩

end Go.Proofs.YtddklkgcodjijaaGreat.R

/- topo.TarjanSCC: its object is made, and all nodes are walked from. -/
namespace Go.Proofs.YtddklkgcodjijaaGreat.R
open Go.RowKit Go.Lab Go.Maps Go.Proofs.YtddklkgcodjijaaGreatW.PrintWords Go.Proofs.YtddklkgcodjijaaGreatW.PrintLast Go.Proofs.YtddklkgcodjijaaGreatW.PrintMore PL

theorem run_map150 (n : Nat) (w : World) : (Instr.makeMap 164 (some (.int .i64 (n : Int)))).run Tryz.prog w = .ok (.map (some w.heap.size)) (w.alloc (.map #[] 0)) := by
  simp [Instr.makeMap, run_underlying Tryz.underlying164, asInt, asIntOf]
theorem objZero (w : World) : (zeroValue 166).run Tryz.prog w = .ok (.agg #[.nilFunc, .int .i64 0, .map none, .map none, .map none, .slice none 0 0, .slice none 0 0]) w := by kernel_rfl
theorem eq_nilFunc (w : World) : (binOp .eql 92 .nilFunc .nilFunc).run Tryz.prog w = .ok (.bool true) w := by kernel_rfl
theorem run_store_f80 (gb : Nat) (a : Addr) (m : Mode) (w : World) : (store a (.func (.func 97) #[] #[.pointer (some ⟨gb, 0, none⟩)]) m).run Tryz.prog w = stored Tryz.prog w a (.func (.func 97) #[] #[.pointer (some ⟨gb, 0, none⟩)]) m := run_store Tryz.prog w a _ m rfl

/-- Tarjan's object and its maps, made -/
structure ObjNew (w0 w : World) (gt gi gl gs gb : Nat) : Prop where
  t0 : w0.heap.size ≤ gt
  i0 : w0.heap.size ≤ gi
  l0 : w0.heap.size ≤ gl
  s0 : w0.heap.size ≤ gs
  il : gi ≠ gl
  is : gi ≠ gs
  ls : gl ≠ gs
  old : Below w0.heap.size w0 w
  blk : w.heap[gt]? = some (.cells #[fvT gb, .int .i64 0, .map (some gi), .map (some gl), .map (some gs), .slice none 0 0, .slice none 0 0] 166 (0, 0))
  mi : w.heap[gi]? = some (.map #[] 0)
  ml : w.heap[gl]? = some (.map #[] 0)
  ms : w.heap[gs]? = some (.map #[] 0)
theorem four_new (w : World) (o1 o2 o3 o4 : Obj) : ((((w.alloc o1).alloc o2).alloc o3).alloc o4).drew.heap[w.heap.size]? = some o1 ∧ ((((w.alloc o1).alloc o2).alloc o3).alloc o4).drew.heap[w.heap.size + 1]? = some o2 ∧ ((((w.alloc o1).alloc o2).alloc o3).alloc o4).drew.heap[w.heap.size + 1 + 1]? = some o3 ∧ ((((w.alloc o1).alloc o2).alloc o3).alloc o4).drew.heap[w.heap.size + 1 + 1 + 1]? = some o4 ∧
    Below w.heap.size w ((((w.alloc o1).alloc o2).alloc o3).alloc o4).drew := by
  refine ⟨?_, ?_, ?_, ?_, ((((Below.refl _ _).alloc (Nat.le_refl _) _).alloc (by simp) _).alloc (by simp; omega) _).alloc (by simp; omega) _ |>.drew⟩
  · exact (Below.heap_alloc _ _ _ (by simp; omega)).trans ((Below.heap_alloc _ _ _ (by simp; omega)).trans ((Below.heap_alloc _ _ _ (by simp)).trans (heap_alloc_new _ _)))
  · exact (Below.heap_alloc _ _ _ (by simp)).trans ((Below.heap_alloc _ _ _ (by simp)).trans (by have := heap_alloc_new (w.alloc o1) o2; simpa using this))
  · exact (Below.heap_alloc _ _ _ (by simp)).trans (by have := heap_alloc_new ((w.alloc o1).alloc o2) o3; simpa using this)
  · show ((((w.alloc o1).alloc o2).alloc o3).alloc o4).heap[w.heap.size + 1 + 1 + 1]? = some o4
    have := heap_alloc_new (((w.alloc o1).alloc o2).alloc o3) o4
    simpa using this
theorem NumOk.fresh {w : World} {gi : Nat} (h : w.heap[gi]? = some (.map #[] 0)) : NumOk w gi (fun _ => 0) 0 := by
  obtain ⟨D, ⟨es, clock, hb, hr⟩, h2, h3⟩ := (NumOk.made w).ex
  rw [heap_alloc_new] at hb
  simp only [Option.some.injEq, Obj.map.injEq] at hb
  obtain ⟨rfl, rfl⟩ := hb
  exact ⟨D, ⟨_, _, h, hr⟩, h2, h3⟩
theorem SetOk.fresh {w : World} {gs : Nat} (h : w.heap[gs]? = some (.map #[] 0)) : SetOk w gs [] := by
  obtain ⟨n, D, ⟨es, clock, hb, hr⟩, h2, h3⟩ := (SetOk.made w).ex
  rw [heap_alloc_new] at hb
  simp only [Option.some.injEq, Obj.map.injEq] at hb
  obtain ⟨rfl, rfl⟩ := hb
  exact ⟨n, D, ⟨_, _, h, hr⟩, h2, h3⟩
theorem ObjNew.to {w0 w : World} {gt gi gl gs gb : Nat} (h : ObjNew w0 w gt gi gl gs gb) : TO ⟨gt, gi, gl, gs, w.heap.size, fvT gb, w, .slice none 0 0, .slice none 0 0⟩ w TS.none (.slice none 0 0) (.slice none 0 0) [] :=
  ⟨h.blk, NumOk.fresh h.mi, NumOk.fresh h.ml, SetOk.fresh h.ms, World.ownsRow_nil _ _ _ _, ⟨World.ownsRow_nil _ _ _ _, rfl, fun i hi => absurd hi (Nat.not_lt_zero _)⟩, fun v hv => (by cases hv), h.il, h.is, h.ls,
    ⟨blk_lt h.blk, (NumOk.fresh h.mi).lt, (NumOk.fresh h.ml).lt, (SetOk.fresh h.ms).lt⟩, Nat.le_refl _, KeepF.refl _ _, .inl rfl, .inl rfl, List.Pairwise.nil⟩
theorem GEnv.ok {wE : World} {gb base bp lo gt gi gl gs : Nat} {zs : List Int} {es : List S95} {p : Pl} (h0 : wE.heap.size ≤ gb) (hl : gb < lo) (ht : gb < gt) (hi : gb < gi) (hll : gb < gl) (hs : gb < gs) : EnvOk lo gt gi gl gs (GEnv wE gb base bp zs es p) :=
  fun w w' h hk => ⟨h.gr, fun k hk2 => (hk k (by omega) (by omega) (by omega) (by omega) (by omega)).trans (h.old k hk2), (hk gb hl (by omega) (by omega) (by omega) (by omega)).trans h.box⟩
/-- all nodes, at the i-th one -/
def ALp (adj : Int → List Int) (ns : List Int) (c : TA) (k : Nat) (r : TS) (vs : List Int) (wr : World) (i : Nat) : Prop :=
  ∃ s done ws st ov rows, vs = done ++ ws ∧ done.length = i ∧ TInv adj [] s ∧ TB ns s ∧ allT adj k ws s = some r ∧ TO c wr s st ov rows

attribute [local go_sem] run_store_f80
end Go.Proofs.YtddklkgcodjijaaGreat.R

/- oneWay: a directed graph is opened. -/
namespace Go.Proofs.YtddklkgcodjijaaGreat.R
open Go.RowKit Go.Lab Go.Maps Go.Proofs.YtddklkgcodjijaaGreatW.PrintWords Go.Proofs.YtddklkgcodjijaaGreatW.PrintLast Go.Proofs.YtddklkgcodjijaaGreatW.PrintMore PL

set_option maxHeartbeats 2000000 in
theorem oneWay_any (d : Bool) (A1 A2 : Option Addr) (c1 c2 : Nat) (zs : List Int) (es : List S95) (w : World)
    (hN : Kd.C (Kd.int .i64) w A1 zs.length zs) (hE : Kd.C k95 w A2 es.length es) (hn : zs.length ≤ 1000) (he : es.length ≤ 1000000) :
    Calls Tryz.prog 29 #[.agg #[.bool d, .slice A1 zs.length c1, .slice A2 es.length c2]] w fun e w' => ∃ base bp, e = .returned (.tuple #[.agg #[.pointer (some ⟨bp, 0, none⟩)], .bool (readOk zs es && d)]) ∧ Below w.heap.size w w' ∧ (readOk zs es = true → PlOk w' base bp (plOf d zs es)) := by
  have hb1 : Below w.heap.size w ((w.alloc (.cells #[.bool d, .slice A1 zs.length c1, .slice A2 es.length c2] 25)).alloc (.cells #[.pointer none] 57)) := ((Below.refl _ _).alloc (Nat.le_refl _) _).alloc (by simp) _
  have HN := Aside0.mk (Kd.C_below hN hb1)
  have HE := Aside0.mk (Kd.C_below hE hb1)
  have HB := Aside0.mk hb1
  clear hN hE hb1
  obtain ⟨rb, hrb⟩ : ∃ rb, readOk zs es = rb := ⟨_, rfl⟩
  rw [hrb]
  have HRB := Aside0.mk hrb
  clear hrb
  go_enter Tryz.func29, Tryz.ntmps29
  go_wp2_with (go_at_call 66; refine (read_any2 d A1 A2 c1 c2 zs es _ HN.out HE.out hn he).mono ?_; rintro e w1 ⟨rfl, hbel, _, hpl⟩; rw [HRB.out] at hpl ⊢; have HR := Aside0.mk (And.intro hbel hpl); have HRO := Aside0.mk hpl; clear hpl)
  have hz : ((w.alloc (.cells #[.bool d, .slice A1 zs.length c1, .slice A2 es.length c2] 25)).alloc (.cells #[.pointer none] 57)).heap.size = w.heap.size + 2 := by simp
  have hk0 : ((w.alloc (.cells #[.bool d, .slice A1 zs.length c1, .slice A2 es.length c2] 25)).alloc (.cells #[.pointer none] 57)).heap[w.heap.size]? = some (.cells #[.bool d, .slice A1 zs.length c1, .slice A2 es.length c2] 25 (0, 0)) :=
    (((Below.refl _ (w.alloc (.cells #[.bool d, .slice A1 zs.length c1, .slice A2 es.length c2] 25))).alloc (Nat.le_refl _) _).block _ (by simp)).trans (heap_alloc_new _ _)
  have hk1 : ((w.alloc (.cells #[.bool d, .slice A1 zs.length c1, .slice A2 es.length c2] 25)).alloc (.cells #[.pointer none] 57)).heap[w.heap.size + 1]? = some (.cells #[.pointer none] 57 (0, 0)) := by
    have := heap_alloc_new (w.alloc (.cells #[.bool d, .slice A1 zs.length c1, .slice A2 es.length c2] 25)) (.cells #[.pointer none] 57)
    simpa using this
  replace hk0 := (hbel.block w.heap.size (by simp; omega)).trans hk0
  replace hk1 := (hbel.block (w.heap.size + 1) (by simp)).trans hk1
  have hc0 : w1.cell? ⟨w.heap.size, 0, none⟩ = some (.bool d) := (blk_cell hk0 0).trans rfl
  have hc1 : w1.cell? ⟨w.heap.size + 1, 0, none⟩ = some (.pointer none) := (blk_cell hk1 0).trans rfl
  have hf1 : w1.frozen? ⟨w.heap.size + 1, 0, none⟩ = false := blk_frozen hk1 0
  have hlt := hbel.size
  rw [hz] at hlt HRO
  have hBB : Below w.heap.size w w1 := HB.out.trans (hbel.mono (by rw [hz]; omega))
  have HX := Aside0.mk (And.intro hBB (And.intro hk1 HRO.out))
  clear hbel hk0 hk1 hz HR HRO hBB
  have hfin : ∀ W : World, W.heap = (w1.setCell ⟨w.heap.size + 1, 0, none⟩ (.pointer (some ⟨w.heap.size + 1 + 1 + 1, 0, none⟩))).heap → W.os = w1.os → W.tape = w1.tape → W.output = w1.output → Below w.heap.size w W ∧ (rb = true → PlOk W (w.heap.size + 2) (w.heap.size + 3) (plOf d zs es)) ∧ W.cell? ⟨w.heap.size + 1, 0, none⟩ = some (.pointer (some ⟨w.heap.size + 1 + 1 + 1, 0, none⟩)) := by
    intro W h1 h2 h3 h4
    have hb2 : Below (w.heap.size + 1) w1 W := ⟨h2, h3, h4, by rw [h1]; simp [World.setCell], fun k hk => by rw [h1]; exact Below.heap_setCell _ _ _ _ (by simp; omega)⟩
    refine ⟨HX.out.1.trans (hb2.mono (by omega)), fun hr => ?_, ?_⟩
    · obtain ⟨ro, ri, vi, vo, vn, hp⟩ := HX.out.2.2 hr
      have hkk : ∀ k, w.heap.size + 2 ≤ k → W.heap[k]? = w1.heap[k]? := fun k hk => by rw [h1]; exact Below.heap_setCell _ _ _ _ (by simp; omega)
      have hoo : ∀ {e : TypeId} {size n : Nat} {v : Value} {xs : List Value}, w1.ownsRow (w.heap.size + 2) e size v n xs → W.ownsRow (w.heap.size + 2) e size v n xs := fun h => own_move h fun k hk => hkk k (own_base h k hk)
      exact ⟨ro, ri, vi, vo, vn, ⟨(hkk _ hp.hb).trans hp.blk, hp.hb, hoo hp.ids, ⟨hoo hp.rows.a, hoo hp.rows.b, hp.rows.la, hp.rows.lb, fun i hi => hoo (hp.rows.rowA i hi), fun i hi => hoo (hp.rows.rowB i hi), hp.rows.sepT, hp.rows.sepA, hp.rows.sepB, hp.rows.sepAB⟩, hp.po, hp.pi⟩⟩
    · have := blk_set HX.out.2.1 0 (.pointer (some ⟨w.heap.size + 1 + 1 + 1, 0, none⟩))
      rw [World.cell?_of_block (w := w1.setCell ⟨w.heap.size + 1, 0, none⟩ (.pointer (some ⟨w.heap.size + 1 + 1 + 1, 0, none⟩))) (by rw [h1]), blk_cell this]
      rfl
  have HFIN := Aside0.mk hfin
  clear hfin
  cases rb <;> cases d
  all_goals
    go_region
  all_goals
    go_wp2
    obtain ⟨hf1, hf2, hf3⟩ := HFIN.out (World.drew (w1.setCell ⟨w.heap.size + 1, 0, none⟩ (.pointer (some ⟨w.heap.size + 1 + 1 + 1, 0, none⟩)))) rfl rfl rfl rfl
    refine bodyPost_ret (v := .tuple #[.agg #[.pointer (some ⟨w.heap.size + 1 + 1 + 1, 0, none⟩)], .bool _]) (by simp [results, Tryz.results29, go_sem, *]) rfl ⟨w.heap.size + 2, w.heap.size + 3, rfl, hf1, by first | exact hf2 | exact hf2 trivial | exact hf2 rfl | trivial | simp⟩
end Go.Proofs.YtddklkgcodjijaaGreat.R

/- impl.SCC. -/
namespace Go.Proofs.YtddklkgcodjijaaGreat.R
open Go.RowKit Go.Lab Go.Maps Go.Proofs.YtddklkgcodjijaaGreatW.PrintWords Go.Proofs.YtddklkgcodjijaaGreatW.PrintLast Go.Proofs.YtddklkgcodjijaaGreatW.PrintMore PL

end Go.Proofs.YtddklkgcodjijaaGreat.R

namespace Go.Proofs.YtddklkgcodjijaaGreat.PL
open Go.RowKit Go.Lab Go.Proofs.YtddklkgcodjijaaGreatW.PrintWords Go.Proofs.YtddklkgcodjijaaGreatW.PrintLast Go.Proofs.YtddklkgcodjijaaGreatW.PrintMore
end Go.Proofs.YtddklkgcodjijaaGreat.PL

/- impl.slots: the order and the cyclic components, as they are. -/
namespace Go.Proofs.YtddklkgcodjijaaGreat.R
open Go.RowKit Go.Lab Go.Maps Go.Proofs.YtddklkgcodjijaaGreatW.PrintWords Go.Proofs.YtddklkgcodjijaaGreatW.PrintLast Go.Proofs.YtddklkgcodjijaaGreatW.PrintMore PL

theorem Tryz.info36 : (Tryz.prog.info? 36).map (fun i => (i.zero, i.size, i.bytes)) = some (some (.agg #[.bool false, .int .i64 0]), 2, 16) := by kernel_rfl
theorem cell_two_new (w : World) (x y : Value) (t : TypeId) : ∀ j u, [x, y][j]? = some u → (w.alloc (.cells #[x, y] t)).cell? ((⟨w.heap.size, 0, none⟩ : Addr).add j) = some u := by
  intro j u hj
  match j, hj with
  | 0, hj =>
    have : (⟨w.heap.size, 0, none⟩ : Addr).add 0 = ⟨w.heap.size, 0, none⟩ := by unfold Addr.add; rfl
    rw [this, blk_cell (heap_alloc_new w _)]
    simpa using hj
  | 1, hj =>
    have : (⟨w.heap.size, 0, none⟩ : Addr).add 1 = ⟨w.heap.size, 1, none⟩ := by unfold Addr.add; rfl
    rw [this, blk_cell (heap_alloc_new w _)]
    simpa using hj
theorem err_as (v : Value) (w : World) : (Instr.typeAssert (.iface 121 v) 62 121 true).run Tryz.prog w = .ok (.tuple #[v, .bool true]) w := by kernel_rfl
theorem err_eq (A : Option Addr) (n c : Nat) (w : World) : (binOp .eql 62 (.iface 121 (.slice A n c)) .nilIface).run Tryz.prog w = .ok (.bool false) w := by kernel_rfl
theorem err_eq0 (w : World) : (binOp .eql 62 .nilIface .nilIface).run Tryz.prog w = .ok (.bool true) w := by kernel_rfl
theorem node_eq (x : Int) (w : World) : (binOp .eql 88 (.iface 272 (.int .i64 x)) .nilIface).run Tryz.prog w = .ok (.bool false) w := by kernel_rfl
theorem node_eq0 (w : World) : (binOp .eql 88 .nilIface .nilIface).run Tryz.prog w = .ok (.bool true) w := by kernel_rfl
/-- a place of the order -/
def slotC (p : List Int) : List Value := if p.length = 1 then [.bool false, .int .i64 (p.headD 0)] else [.bool true, .int .i64 0]
theorem slotC_take {qs : List (List Int)} {i : Nat} (h : i < qs.length) : (qs.take (i + 1)).flatMap slotC = (qs.take i).flatMap slotC ++ slotC qs[i] := by
  rw [List.take_succ_eq_append_getElem h, List.flatMap_append]
  simp

set_option maxHeartbeats 16000000 in
set_option maxRecDepth 100000 in
theorem slots_any (base lo : Nat) (sv ev : Value) (qs ps : List (List Int)) (b : Bool) (w : World) (hs : w.ownsRow base 88 1 sv qs.length (qs.map slotV)) (hn : qs.length ≤ 1000) (hp : ps.length ≤ 1000) (hpl : ∀ p ∈ ps, p.length ≤ 1000)
    (he : (b = true ∧ ps = [] ∧ ev = .nilIface) ∨ (b = false ∧ ∃ cv rows2, ev = .iface 121 cv ∧ RwsV kpN lo w cv rows2 ps)) :
    Calls Tryz.prog 31 #[sv, ev] w fun e w' => ∃ v1 v2 rr, e = .returned (.tuple #[v1, v2, .bool b]) ∧ w'.ownsRow w.heap.size 36 2 v1 qs.length (qs.flatMap slotC) ∧ RwsV kpI w.heap.size w' v2 rr ps ∧ Below w.heap.size w w' := by
  obtain ⟨A, c, rfl⟩ := own_slice hs
  obtain ⟨i0, hi, hz0, hz1, hz2⟩ := info_parts Tryz.info36
  have HI := Aside0.mk (And.intro hi (And.intro hz0 (And.intro hz1 hz2)))
  obtain ⟨j0, gi, gz0, gz1, gz2⟩ := info_parts Tryz.info22
  have HJ := Aside0.mk (And.intro gi (And.intro gz0 (And.intro gz1 gz2)))
  have HS := Aside0.mk hs
  have HE := Aside0.mk (And.intro he hpl)
  clear hs he hpl hi hz0 hz1 hz2 gi gz0 gz1 gz2
  go_enter Tryz.func31, Tryz.ntmps31
  go_wp2_with fail
  go_loopw [4, 15] (fun v4 v15 wr => ∃ i : Nat, v15 = .int .i64 i ∧ i ≤ qs.length ∧ Aside0 (wr.ownsRow w.heap.size 36 2 v4 i ((qs.take i).flatMap slotC) ∧ Below w.heap.size w wr)) (fun _ v15 _ => qs.length + 1 - (intOf v15).toNat)
  case atStart => exact ⟨0, rfl, Nat.zero_le _, ⟨by simpa using World.ownsRow_nil _ _ _ _, Below.refl _ _⟩⟩
  case round =>
    obtain ⟨i, rfl, hi, hrel⟩ := hrel
    obtain ⟨hO, hB⟩ := hrel.out
    have hL := hB.size
    by_cases hlt : i < qs.length
    · have hdk : decide ((i : Int) < (qs.length : Int)) = true := decide_eq_true (by omega)
      obtain ⟨g, c', he, -, hcell, ⟨cur, hcur⟩⟩ := own_cells HS.out (by omega)
      simp only [Value.slice.injEq] at he
      obtain ⟨rfl, -, rfl⟩ := he
      obtain ⟨q, hq⟩ : ∃ q, qs[i] = q := ⟨_, rfl⟩
      have hce : wr.cell? ⟨g, i, none⟩ = some (slotV q) := by
        rw [World.cell?_of_block (hB.block g (blk_lt hcur))]
        exact hcell i _ (by rw [List.getElem?_map, List.getElem?_eq_getElem hlt, hq]; rfl)
      have hi0 : (0 : Int) ≤ (i : Int) := by omega
      have hi1 : (i : Int) < (qs.length : Int) := by omega
      obtain ⟨A4, c4, rfl⟩ := own_slice hO
      have HO := Aside0.mk (And.intro hO (And.intro hB (show (qs.take (i + 1)).flatMap slotC = (qs.take i).flatMap slotC ++ slotC q by rw [slotC_take hlt, hq])))
      obtain ⟨vals, hvals⟩ : ∃ vals, (qs.take i).flatMap slotC = vals := ⟨_, rfl⟩
      rw [hvals] at HO
      clear hrel hO hB hcell hcur hq hvals
      by_cases h1 : q.length = 1
      · obtain ⟨x, rfl⟩ := List.length_eq_one_iff.1 h1
        rw [slotV_one] at hce
        have m1 := node_eq x
        clear h1
        go_wp2_with (first
          | (go_at_call 47; refine (number_any x _).mono ?_; rintro e w9 ⟨rfl, rfl⟩)
          | (at_builtin; refine wpList_append_own_at _ rfl _ _ 28 rfl w.heap.size 36 i0 (.agg #[.bool false, .int .i64 0]) 2 16 Tryz.underlying28 HI.out.1 HI.out.2.1 HI.out.2.2.1 HI.out.2.2.2 rfl (by decide) _ i vals rfl (World.ownsRow.alloc HO.out.1 _) ⟨wr.heap.size, 0, none⟩ 1 1 [.bool false, .int .i64 x] rfl rfl (cell_two_new _ _ _ _) ?q2 ?q3 ?q4 ?q5 ?_))
        case q2 => intro u hu; simp at hu; rcases hu with rfl | rfl <;> rfl
        case q3 => unfold maxLen; omega
        case q4 => omega
        case q5 => simp; omega
        intro v' w2 hown hgr _ hat
        have H2 := Aside0.mk (And.intro hown ((HO.out.2.1.alloc hL _).grown hgr (by simp; omega) (fun q hq => own_base HO.out.1 q hq)))
        clear hown hgr hat
        go_wp2
        exact ⟨⟨i + 1, by simp, by omega, ⟨by rw [HO.out.2.2]; exact H2.out.1, H2.out.2⟩⟩, by simp [intOf]; omega⟩
      · rw [slotV_ne h1] at hce
        have HC := Aside0.mk (show slotC q = [.bool true, .int .i64 0] from if_neg h1)
        have m1 := node_eq0
        clear h1
        go_wp2_with (at_builtin; refine wpList_append_own_at _ rfl _ _ 28 rfl w.heap.size 36 i0 (.agg #[.bool false, .int .i64 0]) 2 16 Tryz.underlying28 HI.out.1 HI.out.2.1 HI.out.2.2.1 HI.out.2.2.2 rfl (by decide) _ i vals rfl (World.ownsRow.alloc HO.out.1 _) ⟨wr.heap.size, 0, none⟩ 1 1 [.bool true, .int .i64 0] rfl rfl (cell_two_new _ _ _ _) ?q2 ?q3 ?q4 ?q5 ?_)
        case q2 => intro u hu; simp at hu; rcases hu with rfl | rfl <;> rfl
        case q3 => unfold maxLen; omega
        case q4 => omega
        case q5 => simp; omega
        intro v' w2 hown hgr _ hat
        have H2 := Aside0.mk (And.intro hown ((HO.out.2.1.alloc hL _).grown hgr (by simp; omega) (fun q hq => own_base HO.out.1 q hq)))
        clear hown hgr hat
        go_wp2
        exact ⟨⟨i + 1, by simp, by omega, ⟨by rw [HO.out.2.2, HC.out]; exact H2.out.1, H2.out.2⟩⟩, by simp [intOf]; omega⟩
    · have hdk : decide ((i : Int) < (qs.length : Int)) = false := decide_eq_false (by omega)
      have hin : i = qs.length := by omega
      have hO2 : wr.ownsRow w.heap.size 36 2 u4 qs.length (qs.flatMap slotC) := by
        have h9 := hO
        rw [List.take_of_length_le (by omega), hin] at h9
        exact h9
      have HB := Aside0.mk (And.intro hO2 hB)
      clear hrel hO hB hO2 hin
      rcases HE.out.1 with ⟨rfl, rfl, rfl⟩ | ⟨rfl, cv, rows2, rfl, hc⟩
      · have m1 := err_eq0
        go_wp2
        exact bodyPost_ret (v := .tuple #[u4, .slice none 0 0, .bool true]) (by simp [results, Tryz.results31, go_sem]) rfl (by first | exact ⟨u4, .slice none 0 0, rfl, HB.out.1, ⟨[], World.ownsRow_nil _ _ _ _, rfl, fun i hi => absurd hi (Nat.not_lt_zero _)⟩, HB.out.2⟩ | exact ⟨u4, .slice none 0 0, [], rfl, HB.out.1, ⟨World.ownsRow_nil _ _ _ _, rfl, fun i hi => absurd hi (Nat.not_lt_zero _)⟩, HB.out.2⟩)
      · obtain ⟨A3, c3, rfl⟩ := own_slice hc.own
        have HRL := Aside0.mk (show rows2.length = ps.length from hc.len)
        have hr1000 : rows2.length ≤ 1000 := by rw [HRL.out]; exact hp
        have m1 := err_eq A3 rows2.length c3
        have m2 := err_as (.slice A3 rows2.length c3)
        have HC := Aside0.mk (show RwsV kpN lo wr (.slice A3 rows2.length c3) rows2 ps from ⟨own_of_heap hc.own fun k hk => HB.out.2.block k (by obtain ⟨cc, hcc⟩ := own_block hc.own hk; exact blk_lt hcc), hc.len, fun j hj => own_of_heap (hc.each j hj) fun k hk => HB.out.2.block k (by obtain ⟨cc, hcc⟩ := own_block (hc.each j hj) hk; exact blk_lt hcc)⟩)
        obtain ⟨n1, hn1⟩ : ∃ n1, wr.heap.size = n1 := ⟨_, rfl⟩
        rw [hn1] at hL
        have HN := Aside0.mk hn1
        clear hc hn1
        go_wp2_with fail
        go_loopw [5, 42] (fun v5 v42 wq => ∃ j : Nat, v42 = .int .i64 j ∧ j ≤ rows2.length ∧ Aside0 (∃ rr, RwsV kpI n1 wq v5 rr (ps.take j) ∧ Below n1 wr wq)) (fun _ v42 _ => rows2.length + 1 - (intOf v42).toNat)
        case atStart => exact ⟨0, rfl, Nat.zero_le _, ⟨[], ⟨World.ownsRow_nil _ _ _ _, rfl, fun i hi => absurd hi (Nat.not_lt_zero _)⟩, Below.refl _ _⟩⟩
        case round =>
          clear m1 m2
          obtain ⟨j, rfl, hj, hrel⟩ := hrel
          obtain ⟨rr, hO, hB⟩ := hrel.out
          have hz0 := hB.size
          rw [HN.out] at hz0
          have hrj : rr.length = j := by rw [hO.len, List.length_take]; have := HRL.out; omega
          by_cases hjt : j < rows2.length
          · have hdj : decide ((j : Int) < (rows2.length : Int)) = true := decide_eq_true (by omega)
            obtain ⟨g, c', he, -, hcell, ⟨cur, hcur⟩⟩ := own_cells HC.out.own (by omega)
            simp only [Value.slice.injEq] at he
            obtain ⟨rfl, -, rfl⟩ := he
            have hjp : j < ps.length := by have := HRL.out; omega
            obtain ⟨q, hq⟩ : ∃ q, ps[j] = q := ⟨_, rfl⟩
            have hq2 := HC.out.each j hjt
            rw [List.getD_eq_getElem?_getD, List.getElem?_eq_getElem hjp] at hq2
            simp only [Option.getD_some] at hq2
            rw [hq] at hq2
            have hq2 := (show _ from hq2 : World.ownsRow _ lo 88 1 rows2[j] q.length (nodeVs q))
            obtain ⟨A2, c2, hrk⟩ := own_slice hq2
            have hce : wr.cell? ⟨g, j, none⟩ = some (.slice A2 q.length c2) := by
              rw [World.cell?_of_block (hB.block g (by have := blk_lt hcur; rw [HN.out] at this; exact this)), ← hrk]
              exact hcell j _ (by rw [List.getElem?_eq_getElem hjt])
            rw [hrk] at hq2
            have hqn : q.length ≤ 100000 := by have := HE.out.2 q (by rw [← hq]; exact List.getElem_mem _); omega
            have HQ := Aside0.mk (own_of_heap hq2 fun k hk => hB.block k (by obtain ⟨cc, hcc⟩ := own_block hq2 hk; have := blk_lt hcc; rw [HN.out] at this; exact this))
            have hj0 : (0 : Int) ≤ (j : Int) := by omega
            have hj1 : (j : Int) < (rows2.length : Int) := by omega
            obtain ⟨A5, c5, hV⟩ := own_slice hO.own
            rw [hrj] at hV
            subst hV
            have HO := Aside0.mk (And.intro hO (And.intro hB (show ps.take (j + 1) = ps.take j ++ [q] by rw [List.take_succ_eq_append_getElem hjp, hq])))
            have HOO := Aside0.mk (show wr.ownsRow n1 22 1 (.slice A5 j c5) j rr from by have h9 : wr.ownsRow n1 22 1 (.slice A5 j c5) rr.length rr := hO.own; rw [hrj] at h9; exact h9)
            clear hrel hO hB hcell hcur hrk hq2 hq
            go_wp2_with (first
              | (go_at_call 62; refine (numbers_any lo _ q _ HQ.out hqn).mono ?_; rintro e w2 ⟨v1, rfl, ho1, hb1⟩; obtain ⟨B1, d1, rfl⟩ := own_slice ho1; have H1 := Aside0.mk (And.intro ho1 (And.intro hb1 (own_of_heap HOO.out (fun k hk => hb1.block k (by obtain ⟨cc, hcc⟩ := own_block HOO.out hk; exact blk_lt hcc))))); have hz1 := hb1.size; clear ho1 hb1)
              | (at_builtin; refine wpList_append_own_at _ rfl _ _ 29 rfl n1 22 j0 (.slice none 0 0) 1 24 Tryz.underlying29 HJ.out.1 HJ.out.2.1 HJ.out.2.2.1 HJ.out.2.2.2 rfl (by decide) _ j rr rfl (World.ownsRow.alloc H1.out.2.2 _) ⟨w2.heap.size, 0, none⟩ 1 1 [.slice B1 q.length d1] rfl rfl (cell_one_new _ _ _) ?q2 ?q3 ?q4 ?q5 ?_))
            case q2 => intro u hu; simp at hu; subst hu; rfl
            case q3 => unfold maxLen; omega
            case q4 => omega
            case q5 => simp; omega
            intro v' w3 hown hgr _ hat
            have H3 := Aside0.mk (And.intro hown hgr)
            clear hown hgr hat
            go_wp2
            obtain ⟨hown, hgr⟩ := H3.out
            have keep : ∀ {u : Value} {n : Nat} {ys : List Value} {b : Nat}, w2.ownsRow b 3 1 u n ys → w3.ownsRow b 3 1 u n ys := fun h => own_of_heap h fun k hk => by
              obtain ⟨c1, hc1⟩ := own_block h hk
              refine (hgr.block k (by have := blk_lt hc1; simp; omega) (fun e => ?_)).trans (Below.heap_alloc _ _ _ (blk_lt hc1))
              obtain ⟨c2, hc2⟩ := own_block H1.out.2.2 e.symm
              exact absurd (blk_type hc1 hc2) (by decide)
            refine ⟨⟨j + 1, by simp, by omega, ⟨rr ++ [.slice B1 q.length d1], ?_, ?_⟩⟩, by simp [intOf]; omega⟩
            · rw [HO.out.2.2]
              refine RwsV.snoc (by rw [List.length_append, hrj]; exact hown) HO.out.1.len (fun k hk => ?_) ?_
              · exact keep (own_of_heap (HO.out.1.each k hk) (fun x hx => H1.out.2.1.block x (by obtain ⟨cc, hcc⟩ := own_block (HO.out.1.each k hk) hx; exact blk_lt hcc)))
              · exact own_weaken (keep H1.out.1) hz0
            · exact ((HO.out.2.1.trans (H1.out.2.1.mono hz0)).alloc (by omega) _).grown hgr (by simp; omega) (fun x hx => own_base HOO.out x hx)
          · have hdj : decide ((j : Int) < (rows2.length : Int)) = false := decide_eq_false (by omega)
            have hjl : ps.take j = ps := List.take_of_length_le (by have := HRL.out; omega)
            rw [hjl] at hO
            have HF := Aside0.mk (And.intro hO hB)
            clear hrel hO hB hjl
            go_wp2
            exact bodyPost_ret (v := .tuple #[u4, u5, .bool false]) (by simp [results, Tryz.results31, go_sem]) rfl ⟨u4, u5, rr, rfl, own_of_heap HB.out.1 (fun k hk => HF.out.2.block k (by obtain ⟨cc, hcc⟩ := own_block HB.out.1 hk; have := blk_lt hcc; rw [HN.out] at this; exact this)), HF.out.1.mono hL, HB.out.2.trans (HF.out.2.mono hL)⟩
end Go.Proofs.YtddklkgcodjijaaGreat.R

/- The walk of strongconnect, where the successors are sorted by an order. -/
namespace Go.Proofs.YtddklkgcodjijaaGreat.R
open Go.RowKit Go.Lab Go.Maps Go.Proofs.YtddklkgcodjijaaGreatW.PrintWords Go.Proofs.YtddklkgcodjijaaGreatW.PrintLast Go.Proofs.YtddklkgcodjijaaGreatW.PrintMore PL

def fvO (gb go : Nat) : Value := .func (.func 99) #[] #[.pointer (some ⟨gb, 0, none⟩), .pointer (some ⟨go, 0, none⟩)]
/-- the successors of a node, in a world that Env holds of -/
def SuccOkO (adj : Int → List Int) (ns : List Int) (gb go : Nat) (Env : World → Prop) : Prop := ∀ (w : World) (v : Int), Env w → v ∈ ns →
  Calls Tryz.prog 99 #[.int .i64 v, .pointer (some ⟨gb, 0, none⟩), .pointer (some ⟨go, 0, none⟩)] w fun e w' => ∃ vv, e = .returned vv ∧ w'.ownsRow w.heap.size 88 1 vv (adj v).length (nodeVs (adj v)) ∧ Below w.heap.size w w'
/-- the contract of strongconnect, to a depth -/
def StrongAtO (adj : Int → List Int) (ns : List Int) (lo gt gi gl gs gb go : Nat) (Env : World → Prop) (k : Nat) : Prop := ∀ (g : List Int) (v : Int) (s r : TS) (w : World) (st ov : Value) (rows : List Value), TInv adj g s → s.num v = 0 → (∀ x ∈ g, RchW adj x v) → v ∈ ns → TB ns s → strongT adj k v s = some r → Env w → TO ⟨gt, gi, gl, gs, lo, fvO gb go, w, st, ov⟩ w s st ov rows →
  Calls Tryz.prog 100 #[.pointer (some ⟨gt, 0, none⟩), .iface 272 (.int .i64 v)] w fun e w' => e = .returned (.tuple #[]) ∧ ∃ st' ov' rows', TO ⟨gt, gi, gl, gs, lo, fvO gb go, w, st, ov⟩ w' r st' ov' rows'

attribute [local go_sem] min2_int min_two
set_option maxHeartbeats 16000000 in
set_option maxRecDepth 100000 in
theorem strong_stepO (adj : Int → List Int) (adj_len : ∀ u, (adj u).length ≤ 100000000) (ns : List Int) (lo gt gi gl gs gb go : Nat) (Env : World → Prop) (hns : ns.length ≤ 1000) (hwf : ∀ x ∈ ns, (Lit.int .i64 x).wf = true) (hin : ∀ u, ∀ x ∈ adj u, x ∈ ns) (hS : SuccOkO adj ns gb go Env) (hE : EnvOk lo gt gi gl gs Env) (k : Nat) (ih : StrongAtO adj ns lo gt gi gl gs gb go Env k) : StrongAtO adj ns lo gt gi gl gs gb go Env (k + 1) := by
  intro g v s r w st ov rows i0 hv hg hvn hb hr henv hT
  unfold TO at hT
  have hidx : s.idx ≤ 1000 := by have := hb.idx; omega
  have hlen : s.stk.length ≤ 1000 := by have := hb.len; omega
  have hvw := hwf v hvn
  obtain ⟨A, cA, rfl⟩ := own_slice hT.own
  have hcast : (((s.idx + 1 : Nat)) : Int) = (s.idx : Int) + 1 := by omega
  have hnw : (Lit.int .i64 (((s.idx + 1 : Nat) : Int))).wf = true := small_wf ⟨by omega, by omega⟩
  have hT1 := hT.setIx (ix' := s.idx + 1) ((s.idx : Int) + 1) hcast.symm
  obtain ⟨w2, hU2, hN2, hG2⟩ := (hT1.below (Below.refl _ _).drew).ni.put hvw (n := s.idx + 1) (by omega) hnw (by omega)
  have hT2 := (hT1.below (Below.refl _ _).drew).putI hN2 hG2
  obtain ⟨w3, hU3, hN3, hG3⟩ := (hT2.below (Below.refl _ _).drew).nl.put hvw (n := s.idx + 1) (by omega) hnw (by omega)
  have hT3 := (hT2.below (Below.refl _ _).drew).putL hN3 hG3
  rw [hcast] at hU2 hU3
  dsimp only at hU2 hU3
  have q1 : w.cell? ⟨gt, 1, none⟩ = some (.int .i64 (s.idx : Int)) := hT.cells.2.1
  have f1 : w.frozen? ⟨gt, 1, none⟩ = false := blk_frozen hT.blk 1
  have b1 : (w.setCell ⟨gt, 1, none⟩ (.int .i64 ((s.idx : Int) + 1))).cell? ⟨gt, 1, none⟩ = some (.int .i64 ((s.idx : Int) + 1)) := by have h := hT1.cells.2.1; rw [hcast] at h; exact h
  have b2 : (w.setCell ⟨gt, 1, none⟩ (.int .i64 ((s.idx : Int) + 1))).cell? ⟨gt, 2, none⟩ = some (.map (some gi)) := hT1.cells.2.2.1
  have e1 : w2.cell? ⟨gt, 1, none⟩ = some (.int .i64 ((s.idx : Int) + 1)) := by have h := hT2.cells.2.1; rw [hcast] at h; exact h
  have e2 : w2.cell? ⟨gt, 2, none⟩ = some (.map (some gi)) := hT2.cells.2.2.1
  have e3 : w2.cell? ⟨gt, 3, none⟩ = some (.map (some gl)) := hT2.cells.2.2.2.1
  have d1 : w3.cell? ⟨gt, 1, none⟩ = some (.int .i64 ((s.idx : Int) + 1)) := by have h := hT3.cells.2.1; rw [hcast] at h; exact h
  have d3 : w3.cell? ⟨gt, 3, none⟩ = some (.map (some gl)) := hT3.cells.2.2.2.1
  have d4 : w3.cell? ⟨gt, 4, none⟩ = some (.map (some gs)) := hT3.cells.2.2.2.2.1
  have d5 : w3.cell? ⟨gt, 5, none⟩ = some (.slice A s.stk.length cA) := hT3.cells.2.2.2.2.2.1
  have m1 := meth_ID v
  have H3 := Aside0.mk hT3
  have H0 := Aside0.mk (And.intro i0 (And.intro hv (And.intro hg (And.intro hvn (And.intro hb hr)))))
  have HENV := Aside0.mk (And.intro henv hT)
  have HE := Aside0.mk (And.intro hE (And.intro hS (And.intro ih (And.intro hwf hin))))
  clear hT1 hT2 hT3 hN2 hN3 hT i0 hv hg hb hr henv hE hS ih hwf hin
  go_enter Tryz.func100, Tryz.ntmps100
  go_wp2_with (go_at_call 239; refine (nodeID_any v _).mono ?_; rintro e wi ⟨rfl, rfl⟩)
  go_region_held3 (fun w' => w'.cell? ⟨gt, 1, none⟩ = some (.int .i64 ((s.idx : Int) + 1)) ∧ w'.cell? ⟨gt, 2, none⟩ = some (.map (some gi)))
    (first | exact ⟨e1, e2⟩ | go_keep)
    (fail)
  go_wp2_with fail
  go_region_held3 (fun w' => w'.cell? ⟨gt, 1, none⟩ = some (.int .i64 ((s.idx : Int) + 1)) ∧ w'.cell? ⟨gt, 3, none⟩ = some (.map (some gl)))
    (first | exact ⟨d1, d3⟩ | go_keep)
    (fail)
  have H3' := Aside0.mk (show TQ ⟨gt, gi, gl, gs, lo, fvO gb go, w, .slice A s.stk.length cA, ov⟩ w3 (s.idx + 1) (updN s.num v (s.idx + 1)) (updN s.low v (s.idx + 1)) (s.idx + 1) (s.idx + 1) s.stk s.stk s.out (.slice A s.stk.length cA) ov rows from by
    have h := H3.out
    rw [if_pos H0.out.2.1, if_pos ((H0.out.2.2.2.2.1.zero v).2 H0.out.2.1)] at h
    exact h)
  clear H3 q1 f1 b1 b2 e1 e2 e3 d1 d3 hU2 hU3 hG2 hG3
  have f5 : w3.frozen? ⟨gt, 5, none⟩ = false := blk_frozen H3'.out.blk 5
  obtain ⟨i0, hi, hz0, hz1, hz2⟩ := info_parts Tryz.info88
  have HI := Aside0.mk (And.intro hi (And.intro hz0 (And.intro hz1 hz2)))
  clear hi hz0 hz1 hz2
  go_wp2_with (at_builtin; refine wpList_append_own_at _ rfl _ _ 60 rfl lo 88 i0 .nilIface 1 16 Tryz.underlying60 HI.out.1 HI.out.2.1 HI.out.2.2.1 HI.out.2.2.2 rfl (by decide) _ s.stk.length (nodeVs s.stk) rfl (World.ownsRow.alloc H3'.out.own _) ⟨w3.heap.size, 0, none⟩ 1 1 [.iface 272 (.int .i64 v)] rfl rfl (cell_one_new _ _ _) ?q2 ?q3 ?q4 ?q5 ?_)
  case q2 => intro u hu; simp at hu; subst hu; rfl
  case q3 => unfold maxLen; omega
  case q4 => omega
  case q5 => have h1 := H3'.out.L; dsimp only at h1; simp; omega
  intro v' w4 hown hgr _ hat
  obtain ⟨A', c', rfl⟩ := own_slice hown
  have hg0 := (World.grownBy_alloc w3 (.cells #[.iface 272 (.int .i64 v)] 88) (Value.slice A s.stk.length cA).ownBlock).trans hgr
  have hgtne : some gt ≠ (Value.slice A s.stk.length cA).ownBlock := fun e => by have h1 := (H3'.out.stLt e.symm).1; have h2 := H3'.out.lt.1; dsimp only at h1 h2; omega
  have hblk := (hg0.block gt (blk_lt H3'.out.blk) hgtne).trans H3'.out.blk
  have hc2 : w4.cell? ⟨gt, 5, none⟩ = some (.slice A s.stk.length cA) := (blk_cell hblk 5).trans rfl
  have hf2 := blk_frozen hblk 5
  have H4 := Aside0.mk (H3'.out.setSt (st' := .slice A' (s.stk.length + 1) c') (stk' := s.stk ++ [v]) hg0 (by rw [nodeVs_append, List.length_append]; exact hown) (hat.imp id (fun h q hq => by rw [h] at hq; have := Option.some.inj hq; omega)))
  have d4' : (w4.setCell ⟨gt, 5, none⟩ (.slice A' (s.stk.length + 1) c')).cell? ⟨gt, 4, none⟩ = some (.map (some gs)) := H4.out.cells.2.2.2.2.1
  clear hown hgr hat hg0 hblk
  have hsl : s.stk.length ≤ 10000000 := by omega
  go_wp2_with (first
    | (go_at_call 135; refine (add_any gs s.stk v _ H4.out.set hvw hsl).mono ?_; rintro e w5 ⟨rfl, hs5, hg5⟩; have H5 := Aside0.mk (H4.out.setS hs5 hg5); have q0 : w5.cell? ⟨gt, 0, none⟩ = some (.func (.func 99) #[] #[.pointer (some ⟨gb, 0, none⟩), .pointer (some ⟨go, 0, none⟩)]) := H5.out.cells.1; clear hs5 hg5)
    | (go_at_call 99; refine (HE.out.2.1 w5 v (HE.out.1 w w5 HENV.out.1 (fun q a1 a2 a3 a4 a5 => H5.out.kp.block q (Nat.lt_of_lt_of_le a1 HENV.out.2.lo0) (fun hm => by rcases hm with e | e | e | e | e | e; exact a2 e; exact a3 e; exact a4 e; exact a5 e; exact absurd (HENV.out.2.stLt e).1 (by dsimp only; omega); exact absurd (HENV.out.2.ovLt e).1 (by dsimp only; omega)))) hvn).mono ?_; rintro e w6 ⟨vv, rfl, ho, hb⟩; obtain ⟨AV, cV, rfl⟩ := own_slice ho; have H6 := Aside0.mk (And.intro (H5.out.below hb) (And.intro ho hb)); clear ho hb))
  obtain ⟨r1, hr1, hrr⟩ : ∃ r1, succsT (strongT adj k) v (adj v) (s.enter v) = some r1 ∧ r1.leave v = r := by
    have h := H0.out.2.2.2.2.2
    unfold strongT at h
    exact Option.map_eq_some_iff.1 h
  have HRR := Aside0.mk hrr
  have hal : (adj v).length ≤ 100000000 := adj_len _
  have HI := Aside0.mk (show TLp adj ns ⟨gt, gi, gl, gs, lo, fvO gb go, w, .slice A s.stk.length cA, ov⟩ g v s r1 k (.slice AV (adj v).length cV) w6 0 from
    ⟨s.enter v, [], adj v, _, ov, rows, rfl, rfl, H0.out.1.enter H0.out.2.1 H0.out.2.2.1, H0.out.2.2.2.2.1.enter hvn H0.out.2.1, hr1, H6.out.1, ⟨own_weaken H6.out.2.1 H5.out.L, fun q hq e => by have h1 := own_base H6.out.2.1 q hq; have h2 := (H5.out.stLt e).2; omega, fun q hq e => by have h1 := own_base H6.out.2.1 q hq; have h2 := (H5.out.ovLt e).2; omega⟩⟩)
  clear H3' H4 H5 H6 d4 d5 d4' q0 hc2 hf2 f5 hr1 hrr
  go_loopw [60] (fun v60 wr => ∃ i : Nat, v60 = .int .i64 i ∧ i ≤ (adj v).length ∧ Aside0 (TLp adj ns ⟨gt, gi, gl, gs, lo, fvO gb go, w, .slice A s.stk.length cA, ov⟩ g v s r1 k (.slice AV (adj v).length cV) wr i)) (fun v60 _ => (adj v).length + 1 - (intOf v60).toNat)
  case atStart => exact ⟨0, rfl, Nat.zero_le _, HI⟩
  case round =>
    clear HI
    obtain ⟨i, rfl, hi, hrel⟩ := hrel
    obtain ⟨s1, done, ws, st1, ov1, rows1, hsp, hdl, hlp, htb, hsu, hto, hrow⟩ := hrel.out
    by_cases hlt : i < (adj v).length
    · have hdk : decide ((i : Int) < ((adj v).length : Int)) = true := decide_eq_true (by omega)
      obtain ⟨x, ws', hws⟩ : ∃ x ws', ws = x :: ws' := by
        cases ws with
        | nil => rw [hsp, List.length_append] at hlt; simp at hlt; omega
        | cons x ws' => exact ⟨x, ws', rfl⟩
      subst hws
      have hxa : (adj v)[i] = x := by
        have : (adj v)[i]? = some x := by rw [hsp, List.getElem?_append_right (by omega), hdl, Nat.sub_self]; rfl
        rw [List.getElem?_eq_getElem hlt] at this
        exact Option.some.inj this
      obtain ⟨gA, cc, hvv, hcell⟩ := hrow.cell hlt
      rw [hxa] at hcell
      simp only [Value.slice.injEq] at hvv
      obtain ⟨rfl, -, rfl⟩ := hvv
      have hxv : x ∈ adj v := by rw [← hxa]; exact List.getElem_mem hlt
      have hxw := HE.out.2.2.2.1 x (HE.out.2.2.2.2 v x hxv)
      have m2 := meth_ID x
      have p2 : wr.cell? ⟨gt, 2, none⟩ = some (.map (some gi)) := TQ.cells hto |>.2.2.1
      have hL := (TQ.ni hto).look hxw
      dsimp only at hL
      have i0' : (0 : Int) ≤ (i : Int) := by omega
      have i1' : (i : Int) < ((adj v).length : Int) := by omega
      have HT := Aside0.mk (And.intro hlp (And.intro htb (And.intro hsu (And.intro hto (And.intro hrow (And.intro hsp hdl))))))
      clear hrel hlp htb hsu hto hrow hsp hdl hxa
      by_cases hn0 : s1.num x = 0
      · have hb0 : ((s1.num x : Int) == 0) = true := by simp [hn0]
        obtain ⟨s2, hs2, hsu2⟩ : ∃ s2, strongT adj k x s1 = some s2 ∧ succsT (strongT adj k) v ws' (s2.lower v (s2.low x)) = some r1 := by
          have a3 := HT.out.2.2.1
          rw [succsT, if_pos hn0] at a3
          exact Option.bind_eq_some_iff.1 a3
        have hg' : ∀ y ∈ g ++ [v], RchW adj y x := fun y hy => by
          rcases List.mem_append.1 hy with hy | hy
          · exact (H0.out.2.2.1 y hy).step hxv
          · obtain rfl := List.mem_singleton.1 hy
            exact RchW.one hxv
        have hxn := HE.out.2.2.2.2 v x hxv
        have hp := strongT_ok adj k (g ++ [v]) x s1 s2 HT.out.1.inv hn0 hg' hs2
        have htb2 := strongT_tb HE.out.2.2.2.2 k (g ++ [v]) x s1 s2 HT.out.1.inv hn0 hg' hxn HT.out.2.1 hs2
        have nv1 : s1.num v ≠ 0 := by rw [HT.out.1.nv]; omega
        have nv0 : s2.num v ≠ 0 := by rw [hp.num v nv1]; exact nv1
        have lv0 : s2.low v ≠ 0 := fun e => nv0 ((htb2.zero v).1 e)
        have lx0 : s2.low x ≠ 0 := fun e => by have h1 := (htb2.zero x).1 e; rw [hp.nv] at h1; omega
        have hb1 : s2.idx ≤ 1000 := by have := htb2.idx; omega
        have hb2 := htb2.low v
        have hb3 := htb2.low x
        have hmw : (Lit.int .i64 (((min (s2.low v) (s2.low x) : Nat) : Int))).wf = true := small_wf ⟨by omega, by omega⟩
        obtain ⟨la, hla⟩ : ∃ a : Int, (s2.low v : Int) = a := ⟨_, rfl⟩
        obtain ⟨lb, hlb⟩ : ∃ a : Int, (s2.low x : Int) = a := ⟨_, rfl⟩
        obtain ⟨lm, hlm⟩ : ∃ a : Int, ((min (s2.low v) (s2.low x) : Nat) : Int) = a := ⟨_, rfl⟩
        have hmn : (if lb < la then lb else la) = lm := by rw [← hla, ← hlb, ← hlm]; split <;> omega
        have HLA := Aside0.mk hla
        have HLB := Aside0.mk hlb
        have HLM := Aside0.mk hlm
        have HP := Aside0.mk (And.intro hp (And.intro htb2 (And.intro hs2 (And.intro hsu2 hg'))))
        have HENV2 := Aside0.mk (HE.out.1 w wr HENV.out.1 (fun q a1 a2 a3 a4 a5 => (TQ.kp HT.out.2.2.2.1).block q (Nat.lt_of_lt_of_le a1 HENV.out.2.lo0) (fun hm => by rcases hm with e | e | e | e | e | e; exact a2 e; exact a3 e; exact a4 e; exact a5 e; exact absurd (HENV.out.2.stLt e).1 (by dsimp only; omega); exact absurd (HENV.out.2.ovLt e).1 (by dsimp only; omega))))
        clear hla hlb hlm hp htb2 hs2 hsu2 hg'
        go_wp2_with (first
          | (go_at_call 239; refine (nodeID_any x _).mono ?_; rintro e wi ⟨rfl, rfl⟩)
          | (go_at_call 100; refine (HE.out.2.2.1 (g ++ [v]) x s1 s2 wr st1 ov1 rows1 HT.out.1.inv hn0 HP.out.2.2.2.2 hxn HT.out.2.1 HP.out.2.2.1 HENV2.out (TQ.restart HT.out.2.2.2.1)).mono ?_; rintro e w7 ⟨rfl, st2, ov2, rows2, hto2⟩; have HC := Aside0.mk hto2; have HT2 := Aside0.mk (show TQ ⟨gt, gi, gl, gs, lo, fvO gb go, w, .slice A s.stk.length cA, ov⟩ w7.drew s2.idx s2.num s2.low s2.idx s2.idx s2.stk s2.stk s2.out st2 ov2 rows2 from TQ.below (TQ.resume HT.out.2.2.2.1 hto2) (Below.refl _ _).drew); clear hto2; have hA := (TQ.nl HT2.out).look hvw; have hB := (TQ.nl HT2.out).look hxw; obtain ⟨w11, hU, hN, hG⟩ := (TQ.nl HT2.out).put hvw (n := min (s2.low v) (s2.low x)) (by omega) hmw (by omega); dsimp only at hA hB hU; rw [HLA.out] at hA; rw [HLB.out] at hB; rw [HLM.out] at hU; have k3 : w7.cell? ⟨gt, 3, none⟩ = some (.map (some gl)) := (TQ.cells HT2.out).2.2.2.1; have HT3 := Aside0.mk (TQ.putL HT2.out hN hG); have j3 : w11.cell? ⟨gt, 3, none⟩ = some (.map (some gl)) := (TQ.cells HT3.out).2.2.2.1; have HG := Aside0.mk hG; clear hN hG))
        go_region_held3 (fun w' => w'.cell? ⟨gt, 3, none⟩ = some (.map (some gl)))
          (first | exact j3 | go_keep)
          (fail)
        all_goals
          go_wp2
          obtain ⟨a1, a2, a3, a4, a5, a6, a7⟩ := HT.out
          have h3 := HT3.out
          rw [if_neg lv0] at h3
          exact ⟨⟨i + 1, by simp, by omega, ⟨s2.lower v (s2.low x), done ++ [x], ws', st2, ov2, rows2, by rw [a6]; simp, by simp [a7], a1.walked H0.out.1 H0.out.2.1 hxv hn0 HP.out.1, HP.out.2.1.lower _ lx0 nv0, HP.out.2.2.2.1, h3, ((a5.call a4 HC.out).below (Below.refl _ _).drew).grown HG.out (TQ.lt a4).2.2.1⟩⟩, by simp [intOf]; omega⟩
      · have hb0 : ((s1.num x : Int) == 0) = false := by rw [beq_eq_false_iff_ne]; omega
        by_cases hst : x ∈ s1.stk
        · have hds : decide (x ∈ s1.stk) = true := decide_eq_true hst
          have p4 : wr.cell? ⟨gt, 4, none⟩ = some (.map (some gs)) := TQ.cells HT.out.2.2.2.1 |>.2.2.2.2.1
          have nv0 : s1.num v ≠ 0 := by rw [HT.out.1.nv]; omega
          have lv0 : s1.low v ≠ 0 := fun e => nv0 ((HT.out.2.1.zero v).1 e)
          have hb1 : s1.idx ≤ 1000 := by have := HT.out.2.1.idx; omega
          have hb2 := HT.out.2.1.low v
          obtain ⟨la, hla⟩ : ∃ a : Int, (s1.low v : Int) = a := ⟨_, rfl⟩
          obtain ⟨lb, hlb⟩ : ∃ a : Int, (s1.num x : Int) = a := ⟨_, rfl⟩
          obtain ⟨lm, hlm⟩ : ∃ a : Int, ((min (s1.low v) (s1.num x) : Nat) : Int) = a := ⟨_, rfl⟩
          have hmn : (if lb < la then lb else la) = lm := by rw [← hla, ← hlb, ← hlm]; split <;> omega
          have HLA := Aside0.mk hla
          have HLB := Aside0.mk hlb
          have HLM := Aside0.mk hlm
          clear hla hlb hlm
          have hmw : (Lit.int .i64 (((min (s1.low v) (s1.num x) : Nat) : Int))).wf = true := small_wf ⟨by omega, by omega⟩
          go_wp2_with (first
            | (go_at_call 239; refine (nodeID_any x _).mono ?_; rintro e wi ⟨rfl, rfl⟩)
            | (go_at_call 136; refine (has_any gs s1.stk x _ (TQ.set HT.out.2.2.2.1) hxw).mono ?_; rintro e w10 ⟨rfl, hbh⟩; rw [hds]; have HT2 := Aside0.mk (show TQ ⟨gt, gi, gl, gs, lo, fvO gb go, w, .slice A s.stk.length cA, ov⟩ w10.drew s1.idx s1.num s1.low s1.idx s1.idx s1.stk s1.stk s1.out st1 ov1 rows1 from TQ.below (TQ.below HT.out.2.2.2.1 hbh) (Below.refl _ _).drew); have HB := Aside0.mk hbh; clear hbh; have hA := (TQ.nl HT2.out).look hvw; have hB := (TQ.ni HT2.out).look hxw; obtain ⟨w11, hU, hN, hG⟩ := (TQ.nl HT2.out).put hvw (n := min (s1.low v) (s1.num x)) (by omega) hmw (by omega); dsimp only at hA hB hU; rw [HLA.out] at hA; rw [HLB.out] at hB; rw [HLM.out] at hU; have k2 : w10.cell? ⟨gt, 2, none⟩ = some (.map (some gi)) := (TQ.cells HT2.out).2.2.1; have k3 : w10.cell? ⟨gt, 3, none⟩ = some (.map (some gl)) := (TQ.cells HT2.out).2.2.2.1; have HT3 := Aside0.mk (TQ.putL HT2.out hN hG); have j2 : w11.cell? ⟨gt, 2, none⟩ = some (.map (some gi)) := (TQ.cells HT3.out).2.2.1; have j3 : w11.cell? ⟨gt, 3, none⟩ = some (.map (some gl)) := (TQ.cells HT3.out).2.2.2.1; have HG := Aside0.mk hG; clear hN hG))
          go_region_held3 (fun w' => w'.cell? ⟨gt, 2, none⟩ = some (.map (some gi)) ∧ w'.cell? ⟨gt, 3, none⟩ = some (.map (some gl)))
            (first | exact ⟨j2, j3⟩ | go_keep)
            (fail)
          all_goals
            go_wp2
            obtain ⟨a1, a2, a3, a4, a5, a6, a7⟩ := HT.out
            rw [succsT, if_neg hn0, if_pos hst] at a3
            have h3 := HT3.out
            rw [if_neg lv0] at h3
            exact ⟨⟨i + 1, by simp, by omega, ⟨s1.lower v (s1.num x), done ++ [x], ws', st1, ov1, rows1, by rw [a6]; simp, by simp [a7], a1.onStk H0.out.1 H0.out.2.1 hxv hst, a2.lower _ hn0 nv0, a3, h3, ((a5.below HB.out).below (Below.refl _ _).drew).grown HG.out (TQ.lt a4).2.2.1⟩⟩, by simp [intOf]; omega⟩
        · have hds : decide (x ∈ s1.stk) = false := decide_eq_false hst
          have p4 : wr.cell? ⟨gt, 4, none⟩ = some (.map (some gs)) := TQ.cells HT.out.2.2.2.1 |>.2.2.2.2.1
          go_wp2_with (first
            | (go_at_call 239; refine (nodeID_any x _).mono ?_; rintro e wi ⟨rfl, rfl⟩)
            | (go_at_call 136; refine (has_any gs s1.stk x _ (TQ.set HT.out.2.2.2.1) hxw).mono ?_; rintro e w10 ⟨rfl, hbh⟩; rw [hds]; have HB := Aside0.mk hbh; clear hbh))
          obtain ⟨a1, a2, a3, a4, a5, a6, a7⟩ := HT.out
          rw [succsT, if_neg hn0, if_neg hst] at a3
          exact ⟨⟨i + 1, by simp, by omega, ⟨s1, done ++ [x], ws', st1, ov1, rows1, by rw [a6]; simp, by simp [a7], a1.gone H0.out.1 hn0 hst, a2, a3, TQ.below a4 HB.out, a5.below HB.out⟩⟩, by simp [intOf]; omega⟩
    · have hdk : decide ((i : Int) < ((adj v).length : Int)) = false := decide_eq_false (by omega)
      obtain rfl : ws = [] := by
        cases ws with
        | nil => rfl
        | cons x ws' => rw [hsp, List.length_append, List.length_cons] at hlt; omega
      simp only [succsT, Option.some.injEq] at hsu
      subst hsu
      have hT2 := TQ.below hto (Below.refl _ _).drew
      have hA := (TQ.nl hT2).look hvw
      have hB := (TQ.ni hT2).look hvw
      dsimp only at hA hB
      obtain ⟨la, hla⟩ : ∃ a : Int, (s1.low v : Int) = a := ⟨_, rfl⟩
      obtain ⟨lb, hlb⟩ : ∃ a : Int, (s1.num v : Int) = a := ⟨_, rfl⟩
      rw [hla] at hA
      rw [hlb] at hB
      have p2 : wr.cell? ⟨gt, 2, none⟩ = some (.map (some gi)) := TQ.cells hto |>.2.2.1
      have p3 : wr.cell? ⟨gt, 3, none⟩ = some (.map (some gl)) := TQ.cells hto |>.2.2.2.1
      have HT := Aside0.mk (And.intro hlp (And.intro htb (And.intro hto (And.intro hT2 (And.intro hsp hdl)))))
      clear hrel hlp htb hto hrow hsp hdl hT2
      by_cases he : s1.low v = s1.num v
      · have hbb : (la == lb) = true := by rw [← hla, ← hlb, he]; simp
        have HR : Aside0 (r = s1.pop v) := ⟨by rw [← HRR.out]; unfold TS.leave; rw [if_pos he]⟩
        clear hla hlb
        go_wp2_with fail
        refine wp_region_held_drew (S := fun w' => w' = wr.drew) (by kernel_rfl) rfl (fun hHeld => ?_)
        refine heldTakeAt (some 119) (i := 0) (oi := _) (v := ?_) rfl rfl (by kernel_rfl) (by kernel_rfl) (by kernel_rfl) (fun _ _ _ h => h) (Or.inl ⟨by rfl, ?_⟩) (by assumption) ?_
        rotate_left
        · intro w' hSw; (try dsimp only at hSw); subst hSw; go_simp; with_reducible rfl
        (try dsimp only); try simp only [Act.put, List.setIfInBounds_toArray, List.set_cons_zero, List.set_cons_succ]
        refine heldTakeAt (some 120) (i := 1) (oi := _) (v := ?_) rfl rfl (by kernel_rfl) (by kernel_rfl) (by kernel_rfl) (fun _ _ _ h => h) (Or.inl ⟨by rfl, ?_⟩) (by assumption) ?_
        rotate_left
        · intro w' hSw; (try dsimp only at hSw); subst hSw; go_simp; with_reducible rfl
        (try dsimp only); try simp only [Act.put, List.setIfInBounds_toArray, List.set_cons_zero, List.set_cons_succ]
        refine heldTakeAt (some 121) (i := 2) (oi := _) (v := ?_) rfl rfl (by kernel_rfl) (by kernel_rfl) (by kernel_rfl) (fun _ _ _ h => h) (Or.inl ⟨by rfl, ?_⟩) (by assumption) ?_
        rotate_left
        · intro w' hSw; (try dsimp only at hSw); subst hSw; go_simp; with_reducible rfl
        (try dsimp only); try simp only [Act.put, List.setIfInBounds_toArray, List.set_cons_zero, List.set_cons_succ]
        refine heldTakeAt (some 122) (i := 3) (oi := _) (v := ?_) rfl rfl (by kernel_rfl) (by kernel_rfl) (by kernel_rfl) (fun _ _ _ h => h) (Or.inl ⟨by rfl, ?_⟩) (by assumption) ?_
        rotate_left
        · intro w' hSw; (try dsimp only at hSw); subst hSw; go_simp; with_reducible rfl
        (try dsimp only); try simp only [Act.put, List.setIfInBounds_toArray, List.set_cons_zero, List.set_cons_succ]
        refine heldTakeAt (some 123) (i := 4) (oi := _) (v := ?_) rfl rfl (by kernel_rfl) (by kernel_rfl) (by kernel_rfl) (fun _ _ _ h => h) (Or.inl ⟨by rfl, ?_⟩) (by assumption) ?_
        rotate_left
        · intro w' hSw; (try dsimp only at hSw); subst hSw; go_simp; with_reducible rfl
        (try dsimp only); try simp only [Act.put, List.setIfInBounds_toArray, List.set_cons_zero, List.set_cons_succ]
        refine heldTakeAt (some 124) (i := 5) (oi := _) (v := ?_) rfl rfl (by kernel_rfl) (by kernel_rfl) (by kernel_rfl) (fun _ _ _ h => h) (Or.inl ⟨by rfl, ?_⟩) (by assumption) ?_
        rotate_left
        · intro w' hSw; (try dsimp only at hSw); subst hSw; go_simp; with_reducible rfl
        (try dsimp only); try simp only [Act.put, List.setIfInBounds_toArray, List.set_cons_zero, List.set_cons_succ]
        refine heldTakeAt (some 125) (i := 6) (oi := _) (v := ?_) rfl rfl (by kernel_rfl) (by kernel_rfl) (by kernel_rfl) (fun _ _ _ h => h) (Or.inl ⟨by rfl, ?_⟩) (by assumption) ?_
        rotate_left
        · intro w' hSw; (try dsimp only at hSw); subst hSw; go_simp; with_reducible rfl
        (try dsimp only); try simp only [Act.put, List.setIfInBounds_toArray, List.set_cons_zero, List.set_cons_succ]
        refine heldTakeAt (some 126) (i := 7) (oi := _) (v := ?_) rfl rfl (by kernel_rfl) (by kernel_rfl) (by kernel_rfl) (fun _ _ _ h => h) (Or.inl ⟨by rfl, ?_⟩) (by assumption) ?_
        rotate_left
        · intro w' hSw; (try dsimp only at hSw); subst hSw; go_simp; with_reducible rfl
        (try dsimp only); try simp only [Act.put, List.setIfInBounds_toArray, List.set_cons_zero, List.set_cons_succ]
        refine heldTakeAt (some 127) (i := 8) (oi := _) (v := ?_) rfl rfl (by kernel_rfl) (by kernel_rfl) (by kernel_rfl) (fun _ _ _ h => h) (Or.inl ⟨by rfl, ?_⟩) (by assumption) ?_
        rotate_left
        · intro w' hSw; (try dsimp only at hSw); subst hSw; go_simp; with_reducible rfl
        (try dsimp only); try simp only [Act.put, List.setIfInBounds_toArray, List.set_cons_zero, List.set_cons_succ]
        refine heldTakeAt (some 128) (i := 9) (oi := _) (v := ?_) rfl rfl (by kernel_rfl) (by kernel_rfl) (by kernel_rfl) (fun _ _ _ h => h) (Or.inl ⟨by rfl, ?_⟩) (by assumption) ?_
        rotate_left
        · intro w' hSw; (try dsimp only at hSw); subst hSw; go_simp; with_reducible rfl
        (try dsimp only); try simp only [Act.put, List.setIfInBounds_toArray, List.set_cons_zero, List.set_cons_succ]
        refine heldTakeAt (some 129) (i := 10) (oi := _) (v := ?_) rfl rfl (by kernel_rfl) (by kernel_rfl) (by kernel_rfl) (fun _ _ _ h => h) (Or.inl ⟨by rfl, ?_⟩) (by assumption) ?_
        rotate_left
        · intro w' hSw; (try dsimp only at hSw); subst hSw; go_simp; with_reducible rfl
        (try dsimp only); try simp only [Act.put, List.setIfInBounds_toArray, List.set_cons_zero, List.set_cons_succ]
        refine heldTakeAt (some 130) (i := 11) (oi := _) (v := ?_) rfl rfl (by kernel_rfl) (by kernel_rfl) (by kernel_rfl) (fun _ _ _ h => h) (Or.inl ⟨by rfl, ?_⟩) (by assumption) ?_
        rotate_left
        · intro w' hSw; (try dsimp only at hSw); subst hSw; go_simp; with_reducible rfl
        (try dsimp only); try simp only [Act.put, List.setIfInBounds_toArray, List.set_cons_zero, List.set_cons_succ]
        refine heldTakeAt (some 131) (i := 12) (oi := _) (v := ?_) rfl rfl (by kernel_rfl) (by kernel_rfl) (by kernel_rfl) (fun _ _ _ h => h) (Or.inl ⟨by rfl, ?_⟩) (by assumption) ?_
        rotate_left
        · intro w' hSw; (try dsimp only at hSw); subst hSw; go_simp; with_reducible rfl
        (try dsimp only); try simp only [Act.put, List.setIfInBounds_toArray, List.set_cons_zero, List.set_cons_succ]
        clear hHeld
        refine wpAnyH_done (by kernel_rfl) ?_ _
        go_wp2_with fail
        obtain ⟨nw, hsk, -⟩ := HT.out.1.stk
        have HP0 := Aside0.mk (show TPop ⟨gt, gi, gl, gs, lo, fvO gb go, w, .slice A s.stk.length cA, ov⟩ s1 s.stk v (.slice none 0 0) wr.drew nw from ⟨[], st1, ov1, rows1, by rw [hsk]; simp, by rw [← hsk]; exact HT.out.2.2.2.1, PRow.nil _ _ _ _ _⟩)
        have hnwl : nw.length ≤ 1000 := by
          have h1 := HT.out.2.1.len
          have h2 := HT.out.2.1.idx
          rw [hsk, List.length_append, List.length_cons] at h1
          omega
        have HSK := Aside0.mk (And.intro hsk (stk_nodup HT.out.1.inv))
        have HNW := Aside0.mk (show ∀ (rest xs : List Int), s1.stk = s.stk ++ v :: (rest ++ xs.reverse) → rest.length + xs.length = nw.length from fun rest xs e => by
          rw [hsk] at e
          have := congrArg List.length e
          simp at this
          omega)
        clear hsk p2 p3 hA hB
        go_loopw [8, 9] (fun v8 v9 W => ∃ rest : List Int, Aside0 (TPop ⟨gt, gi, gl, gs, lo, fvO gb go, w, .slice A s.stk.length cA, ov⟩ s1 s.stk v v8 W rest)) (fun v8 _ _ => nw.length + 1 - lenOf v8)
        case atStart => exact ⟨nw, HP0⟩
        case round =>
          clear HP0
          obtain ⟨rest, hrel⟩ := hrel
          obtain ⟨xs, st5, ov5, rows5, hxs, hq5, hr5⟩ := hrel.out
          obtain ⟨pre, x, hpx⟩ := snoc_of (show s.stk ++ v :: rest ≠ [] by simp)
          rw [hpx] at hq5
          obtain ⟨A8, c8, rfl⟩ := own_slice hr5.own
          obtain ⟨A9, c9, rfl⟩ := own_slice hq5.out.own
          have hrows5 : rows5.length ≤ 1000 := by
            have h1 := HT.out.2.1.len
            have h2 := HT.out.2.1.idx
            have h3 := hq5.out.len
            omega
          obtain ⟨g5, c5, rfl, hc5, hcell5, -⟩ := own_cells hq5.own (by simp)
          have hm5 : (pre ++ [x]).length = pre.length + 1 := by simp
          have hce5 := hcell5 pre.length (.iface 272 (.int .i64 x)) (by unfold nodeVs; simp; rfl)
          have hrl := HNW.out rest xs hxs
          have hndp : (pre ++ [x]).Nodup := by
            have h1 := HSK.out.2
            rw [hxs, show s.stk ++ v :: (rest ++ xs.reverse) = (pre ++ [x]) ++ xs.reverse by rw [← hpx]; simp] at h1
            exact (List.nodup_append.1 h1).1
          have hxp : x ∉ pre := by
            have := (List.nodup_append.1 hndp).2.2
            exact fun hh => this x hh x (by simp) rfl
          have hplen : pre.length ≤ 1000 := by
            have h1 := HT.out.2.1.len
            have h2 := HT.out.2.1.idx
            have h3 := congrArg List.length hpx
            rw [hxs] at h1
            simp at h1 h3
            omega
          have hxns : x ∈ ns := HT.out.2.1.within x (HT.out.1.inv.vis x (by rw [hxs, show s.stk ++ v :: (rest ++ xs.reverse) = (pre ++ [x]) ++ xs.reverse by rw [← hpx]; simp]; simp))
          have hxw := HE.out.2.2.2.1 x hxns
          have m5 := meth_ID x
          have k5 : wr.cell? ⟨gt, 5, none⟩ = some (.slice (some ⟨g5, 0, none⟩) (pre ++ [x]).length c5) := hq5.cells.2.2.2.2.2.1
          have kf5 : wr.frozen? ⟨gt, 5, none⟩ = false := blk_frozen hq5.blk 5
          obtain ⟨m, hm⟩ : ∃ m, (pre ++ [x]).length = m := ⟨_, rfl⟩
          rw [hm] at k5 hc5
          have hm1 : m = pre.length + 1 := by omega
          have hwm : IntKind.i64.wrap ((m : Int) - 1) = (pre.length : Int) := by rw [IntKind.wrap_i64]; omega
          have hi1 : (0 : Int) ≤ (pre.length : Int) := by omega
          have hi2 : (pre.length : Int) < (m : Int) := by omega
          have hi3 : (pre.length : Int) ≤ (c5 : Int) := by omega
          have hH5 := Aside0.mk (show TQ ⟨gt, gi, gl, gs, lo, fvO gb go, w, .slice A s.stk.length cA, ov⟩ (wr.setCell ⟨gt, 5, none⟩ (.slice (some ⟨g5, 0, none⟩) pre.length c5)).drew s1.idx s1.num s1.low s1.idx s1.idx (pre ++ [x]) pre s1.out (.slice (some ⟨g5, 0, none⟩) pre.length c5) (.slice A9 rows5.length c9) rows5 from
            TQ.cutSt (hq5.below (Below.refl _ _).drew) hm5)
          have hR5 := Aside0.mk (show PRow ⟨gt, gi, gl, gs, lo, fvO gb go, w, .slice A s.stk.length cA, ov⟩ (wr.setCell ⟨gt, 5, none⟩ (.slice (some ⟨g5, 0, none⟩) pre.length c5)).drew (.slice A8 xs.length c8) (.slice (some ⟨g5, 0, none⟩) pre.length c5) (.slice A9 rows5.length c9) rows5 xs from
            PRow.grown (PRow.stIs (st' := .slice (some ⟨g5, 0, none⟩) pre.length c5) (hr5.below (Below.refl _ _).drew) rfl) (grown_set _ gt 5 _) hq5.lt.1)
          have HX5 := Aside0.mk (And.intro hxs (And.intro hpx (And.intro hxp hxns)))
          clear hq5 hr5 hcell5 hxs hpx hndp hxp hrel hm5 hm hm1
          go_wp2_with fail
          refine heldTill.region 27 (fun w' => w' = wr.drew) (by kernel_rfl) rfl (fun hHeld => ?_)
          refine heldTill.takeAt (some 132) (i := 0) (oi := _) (v := ?_) rfl rfl (by kernel_rfl) (by kernel_rfl) (by kernel_rfl) (by kernel_rfl) (fun _ _ _ h => h) (Or.inl ⟨by rfl, ?_⟩) (by assumption) ?_
          rotate_left
          · intro w' hSw; (try dsimp only at hSw); subst hSw; go_simp; with_reducible rfl
          (try dsimp only); try simp only [Act.put, List.setIfInBounds_toArray, List.set_cons_zero, List.set_cons_succ]
          refine heldTill.takeAt (some 133) (i := 1) (oi := _) (v := ?_) rfl rfl (by kernel_rfl) (by kernel_rfl) (by kernel_rfl) (by kernel_rfl) (fun _ _ _ h => h) (Or.inl ⟨by rfl, ?_⟩) (by assumption) ?_
          rotate_left
          · intro w' hSw; (try dsimp only at hSw); subst hSw; go_simp; with_reducible rfl
          (try dsimp only); try simp only [Act.put, List.setIfInBounds_toArray, List.set_cons_zero, List.set_cons_succ]
          refine heldTill.takeAt (some 134) (i := 2) (oi := _) (v := ?_) rfl rfl (by kernel_rfl) (by kernel_rfl) (by kernel_rfl) (by kernel_rfl) (fun _ _ _ h => h) (Or.inl ⟨by rfl, ?_⟩) (by assumption) ?_
          rotate_left
          · intro w' hSw; (try dsimp only at hSw); subst hSw; go_simp; with_reducible rfl
          (try dsimp only); try simp only [Act.put, List.setIfInBounds_toArray, List.set_cons_zero, List.set_cons_succ]
          refine heldTill.takeAt (some 135) (i := 3) (oi := _) (v := ?_) rfl rfl (by kernel_rfl) (by kernel_rfl) (by kernel_rfl) (by kernel_rfl) (fun _ _ _ h => h) (Or.inl ⟨by rfl, ?_⟩) (by assumption) ?_
          rotate_left
          · intro w' hSw; (try dsimp only at hSw); subst hSw; go_simp; with_reducible rfl
          (try dsimp only); try simp only [Act.put, List.setIfInBounds_toArray, List.set_cons_zero, List.set_cons_succ]
          refine heldTill.takeAt (some 136) (i := 4) (oi := _) (v := ?_) rfl rfl (by kernel_rfl) (by kernel_rfl) (by kernel_rfl) (by kernel_rfl) (fun _ _ _ h => h) (Or.inl ⟨by rfl, ?_⟩) (by assumption) ?_
          rotate_left
          · intro w' hSw; (try dsimp only at hSw); subst hSw; go_simp; with_reducible rfl
          (try dsimp only); try simp only [Act.put, List.setIfInBounds_toArray, List.set_cons_zero, List.set_cons_succ]
          refine heldTill.takeAt (some 137) (i := 5) (oi := _) (v := ?_) rfl rfl (by kernel_rfl) (by kernel_rfl) (by kernel_rfl) (by kernel_rfl) (fun _ _ _ h => h) (Or.inl ⟨by rfl, ?_⟩) (by assumption) ?_
          rotate_left
          · intro w' hSw; (try dsimp only at hSw); subst hSw; go_simp; with_reducible rfl
          (try dsimp only); try simp only [Act.put, List.setIfInBounds_toArray, List.set_cons_zero, List.set_cons_succ]
          refine heldTill.takeAt (some 138) (i := 6) (oi := _) (v := ?_) rfl rfl (by kernel_rfl) (by kernel_rfl) (by kernel_rfl) (by kernel_rfl) (fun _ _ _ h => h) (Or.inl ⟨by rfl, ?_⟩) (by assumption) ?_
          rotate_left
          · intro w' hSw; (try dsimp only at hSw); subst hSw; go_simp; with_reducible rfl
          (try dsimp only); try simp only [Act.put, List.setIfInBounds_toArray, List.set_cons_zero, List.set_cons_succ]
          refine heldTill.takeAt (some 139) (i := 7) (oi := _) (v := ?_) rfl rfl (by kernel_rfl) (by kernel_rfl) (by kernel_rfl) (by kernel_rfl) (fun _ _ _ h => h) (Or.inl ⟨by rfl, ?_⟩) (by assumption) ?_
          rotate_left
          · intro w' hSw; (try dsimp only at hSw); subst hSw; go_simp; with_reducible rfl
          (try dsimp only); try simp only [Act.put, List.setIfInBounds_toArray, List.set_cons_zero, List.set_cons_succ]
          refine heldTill.takeAt (some 140) (i := 8) (oi := _) (v := ?_) rfl rfl (by kernel_rfl) (by kernel_rfl) (by kernel_rfl) (by kernel_rfl) (fun _ _ _ h => h) (Or.inl ⟨by rfl, ?_⟩) (by assumption) ?_
          rotate_left
          · intro w' hSw; (try dsimp only at hSw); subst hSw; go_simp; with_reducible rfl
          (try dsimp only); try simp only [Act.put, List.setIfInBounds_toArray, List.set_cons_zero, List.set_cons_succ]
          refine heldTill.takeAt (some 141) (i := 9) (oi := _) (v := ?_) rfl rfl (by kernel_rfl) (by kernel_rfl) (by kernel_rfl) (by kernel_rfl) (fun _ _ _ h => h) (Or.inl ⟨by rfl, ?_⟩) (by assumption) ?_
          rotate_left
          · intro w' hSw; (try dsimp only at hSw); subst hSw; go_simp; with_reducible rfl
          (try dsimp only); try simp only [Act.put, List.setIfInBounds_toArray, List.set_cons_zero, List.set_cons_succ]
          refine heldTill.takeAt (some 142) (i := 10) (oi := _) (v := ?_) rfl rfl (by kernel_rfl) (by kernel_rfl) (by kernel_rfl) (by kernel_rfl) (fun _ _ _ h => h) (Or.inl ⟨by rfl, ?_⟩) (by assumption) ?_
          rotate_left
          · intro w' hSw; (try dsimp only at hSw); subst hSw; go_simp; with_reducible rfl
          (try dsimp only); try simp only [Act.put, List.setIfInBounds_toArray, List.set_cons_zero, List.set_cons_succ]
          refine heldTill.takeAt (some 143) (i := 11) (oi := _) (v := ?_) rfl rfl (by kernel_rfl) (by kernel_rfl) (by kernel_rfl) (by kernel_rfl) (fun _ _ _ h => h) (Or.inl ⟨by rfl, ?_⟩) (by assumption) ?_
          rotate_left
          · intro w' hSw; (try dsimp only at hSw); subst hSw; go_simp; with_reducible rfl
          (try dsimp only); try simp only [Act.put, List.setIfInBounds_toArray, List.set_cons_zero, List.set_cons_succ]
          refine heldTill.takeAt (some 144) (i := 12) (oi := _) (v := ?_) rfl rfl (by kernel_rfl) (by kernel_rfl) (by kernel_rfl) (by kernel_rfl) (fun _ _ _ h => h) (Or.inl ⟨by rfl, ?_⟩) (by assumption) ?_
          rotate_left
          · intro w' hSw; (try dsimp only at hSw); subst hSw; go_simp; with_reducible rfl
          (try dsimp only); try simp only [Act.put, List.setIfInBounds_toArray, List.set_cons_zero, List.set_cons_succ]
          refine heldTill.takeAt (some 145) (i := 13) (oi := _) (v := ?_) rfl rfl (by kernel_rfl) (by kernel_rfl) (by kernel_rfl) (by kernel_rfl) (fun _ _ _ h => h) (Or.inl ⟨by rfl, ?_⟩) (by assumption) ?_
          rotate_left
          · intro w' hSw; (try dsimp only at hSw); subst hSw; go_simp; with_reducible rfl
          (try dsimp only); try simp only [Act.put, List.setIfInBounds_toArray, List.set_cons_zero, List.set_cons_succ]
          refine heldTill.takeAt (some 146) (i := 14) (oi := _) (v := ?_) rfl rfl (by kernel_rfl) (by kernel_rfl) (by kernel_rfl) (by kernel_rfl) (fun _ _ _ h => h) (Or.inl ⟨by rfl, ?_⟩) (by assumption) ?_
          rotate_left
          · intro w' hSw; (try dsimp only at hSw); subst hSw; go_simp; with_reducible rfl
          (try dsimp only); try simp only [Act.put, List.setIfInBounds_toArray, List.set_cons_zero, List.set_cons_succ]
          refine heldTill.takeAt (some 147) (i := 15) (oi := _) (v := ?_) rfl rfl (by kernel_rfl) (by kernel_rfl) (by kernel_rfl) (by kernel_rfl) (fun _ _ _ h => h) (Or.inl ⟨by rfl, ?_⟩) (by assumption) ?_
          rotate_left
          · intro w' hSw; (try dsimp only at hSw); subst hSw; go_simp; with_reducible rfl
          (try dsimp only); try simp only [Act.put, List.setIfInBounds_toArray, List.set_cons_zero, List.set_cons_succ]
          refine heldTill.takeAt (some 148) (i := 16) (oi := _) (v := ?_) rfl rfl (by kernel_rfl) (by kernel_rfl) (by kernel_rfl) (by kernel_rfl) (fun _ _ _ h => h) (Or.inl ⟨by rfl, ?_⟩) (by assumption) ?_
          rotate_left
          · intro w' hSw; (try dsimp only at hSw); subst hSw; go_simp; with_reducible rfl
          (try dsimp only); try simp only [Act.put, List.setIfInBounds_toArray, List.set_cons_zero, List.set_cons_succ]
          refine heldTill.takeAt (some 149) (i := 17) (oi := _) (v := ?_) rfl rfl (by kernel_rfl) (by kernel_rfl) (by kernel_rfl) (by kernel_rfl) (fun _ _ _ h => h) (Or.inl ⟨by rfl, ?_⟩) (by assumption) ?_
          rotate_left
          · intro w' hSw; (try dsimp only at hSw); subst hSw; go_simp; with_reducible rfl
          (try dsimp only); try simp only [Act.put, List.setIfInBounds_toArray, List.set_cons_zero, List.set_cons_succ]
          refine heldTill.takeAt (some 150) (i := 18) (oi := _) (v := ?_) rfl rfl (by kernel_rfl) (by kernel_rfl) (by kernel_rfl) (by kernel_rfl) (fun _ _ _ h => h) (Or.inl ⟨by rfl, ?_⟩) (by assumption) ?_
          rotate_left
          · intro w' hSw; (try dsimp only at hSw); subst hSw; go_simp; with_reducible rfl
          (try dsimp only); try simp only [Act.put, List.setIfInBounds_toArray, List.set_cons_zero, List.set_cons_succ]
          refine heldTill.takeAt (some 151) (i := 19) (oi := _) (v := ?_) rfl rfl (by kernel_rfl) (by kernel_rfl) (by kernel_rfl) (by kernel_rfl) (fun _ _ _ h => h) (Or.inl ⟨by rfl, ?_⟩) (by assumption) ?_
          rotate_left
          · intro w' hSw; (try dsimp only at hSw); subst hSw; go_simp; with_reducible rfl
          (try dsimp only); try simp only [Act.put, List.setIfInBounds_toArray, List.set_cons_zero, List.set_cons_succ]
          refine heldTill.takeAt (some 152) (i := 20) (oi := _) (v := ?_) rfl rfl (by kernel_rfl) (by kernel_rfl) (by kernel_rfl) (by kernel_rfl) (fun _ _ _ h => h) (Or.inl ⟨by rfl, ?_⟩) (by assumption) ?_
          rotate_left
          · intro w' hSw; (try dsimp only at hSw); subst hSw; go_simp; with_reducible rfl
          (try dsimp only); try simp only [Act.put, List.setIfInBounds_toArray, List.set_cons_zero, List.set_cons_succ]
          refine heldTill.takeAt (some 153) (i := 21) (oi := _) (v := ?_) rfl rfl (by kernel_rfl) (by kernel_rfl) (by kernel_rfl) (by kernel_rfl) (fun _ _ _ h => h) (Or.inl ⟨by rfl, ?_⟩) (by assumption) ?_
          rotate_left
          · intro w' hSw; (try dsimp only at hSw); subst hSw; go_simp; with_reducible rfl
          (try dsimp only); try simp only [Act.put, List.setIfInBounds_toArray, List.set_cons_zero, List.set_cons_succ]
          refine heldTill.takeAt (some 154) (i := 22) (oi := _) (v := ?_) rfl rfl (by kernel_rfl) (by kernel_rfl) (by kernel_rfl) (by kernel_rfl) (fun _ _ _ h => h) (Or.inl ⟨by rfl, ?_⟩) (by assumption) ?_
          rotate_left
          · intro w' hSw; (try dsimp only at hSw); subst hSw; go_simp; with_reducible rfl
          (try dsimp only); try simp only [Act.put, List.setIfInBounds_toArray, List.set_cons_zero, List.set_cons_succ]
          refine heldTill.takeAt (some 155) (i := 23) (oi := _) (v := ?_) rfl rfl (by kernel_rfl) (by kernel_rfl) (by kernel_rfl) (by kernel_rfl) (fun _ _ _ h => h) (Or.inl ⟨by rfl, ?_⟩) (by assumption) ?_
          rotate_left
          · intro w' hSw; (try dsimp only at hSw); subst hSw; go_simp; with_reducible rfl
          (try dsimp only); try simp only [Act.put, List.setIfInBounds_toArray, List.set_cons_zero, List.set_cons_succ]
          refine heldTill.takeAt (some 9) (i := 24) (oi := _) (v := ?_) rfl rfl (by kernel_rfl) (by kernel_rfl) (by kernel_rfl) (by kernel_rfl) (fun _ _ _ h => h) (Or.inl ⟨by rfl, ?_⟩) (by assumption) ?_
          rotate_left
          · intro w' hSw; (try dsimp only at hSw); subst hSw; go_simp; with_reducible rfl
          (try dsimp only); try simp only [Act.put, List.setIfInBounds_toArray, List.set_cons_zero, List.set_cons_succ]
          refine heldTill.sole (some 156) (i := 25) (oi := _) (v := ?_) rfl rfl (by kernel_rfl) (Or.inl ⟨by rfl, ?_⟩) (by assumption) ?_
          rotate_left
          · intro w' hSw; (try dsimp only at hSw); subst hSw; go_simp; with_reducible rfl
          (try dsimp only); try simp only [Act.put, List.setIfInBounds_toArray, List.set_cons_zero, List.set_cons_succ]
          refine heldTill.sole (some 157) (i := 26) (oi := _) (v := ?_) rfl rfl (by kernel_rfl) (Or.inl ⟨by rfl, ?_⟩) (by assumption) ?_
          rotate_left
          · intro w' hSw; (try dsimp only at hSw); subst hSw; go_simp; with_reducible rfl
          (try dsimp only); try simp only [Act.put, List.setIfInBounds_toArray, List.set_cons_zero, List.set_cons_succ]
          clear hHeld
          refine heldTill.last (by kernel_rfl) rfl (fun K hK => ?_)
          go_simp
          refine hK.out _ _ ?_
          (try dsimp only); try simp only [Act.put, List.setIfInBounds_toArray, List.set_cons_zero, List.set_cons_succ]
          refine heldTill.done (by kernel_rfl) ?_ _
          clear hK K
          go_wp2_with fail
          obtain ⟨W5, hW5⟩ : ∃ W5, (wr.setCell ⟨gt, 5, none⟩ (.slice (some ⟨g5, 0, none⟩) pre.length c5)).drew = W5 := ⟨_, rfl⟩
          rw [hW5] at hH5 hR5 ⊢
          clear hW5 k5 kf5 hce5
          have k4 : W5.cell? ⟨gt, 4, none⟩ = some (.map (some gs)) := (TQ.cells hH5.out).2.2.2.2.1
          go_region_held3 (fun w' => w'.cell? ⟨gt, 4, none⟩ = some (.map (some gs)))
            (first | exact j4 | go_keep)
            (first
              | (go_at_call 239; refine (nodeID_any x _).mono ?_; rintro e wi ⟨rfl, rfl⟩)
              | (go_at_call 137; refine (remove_any gs pre x _ (TQ.set (TQ.below hH5.out (Below.refl _ _).drew)) hxw HX5.out.2.2.1).mono ?_; rintro e w6 ⟨rfl, hs6, hg6⟩; have H6 := Aside0.mk (TQ.setS (TQ.below hH5.out (Below.refl _ _).drew) hs6 hg6); have R6 := Aside0.mk (PRow.grown (PRow.below hR5.out (Below.refl _ _).drew) hg6 (TQ.lt hH5.out).2.2.2); have j4 : w6.cell? ⟨gt, 4, none⟩ = some (.map (some gs)) := (TQ.cells H6.out).2.2.2.2.1; clear hs6 hg6))
          clear k4 j4
          go_wp2_with (at_builtin; refine wpList_append_own_at _ rfl _ _ 60 rfl lo 88 i0 .nilIface 1 16 Tryz.underlying60 HI.out.1 HI.out.2.1 HI.out.2.2.1 HI.out.2.2.2 rfl (by decide) _ xs.length (nodeVs xs) rfl (World.ownsRow.alloc R6.out.own _) ⟨w6.heap.size, 0, none⟩ 1 1 [.iface 272 (.int .i64 x)] rfl rfl (cell_one_new _ _ _) ?q2 ?q3 ?q4 ?q5 ?_)
          case q2 => intro u hu; simp at hu; subst hu; rfl
          case q3 => unfold maxLen; omega
          case q4 => omega
          case q5 => have h1 := TQ.L H6.out; dsimp only at h1; simp; omega
          intro v' w7 hown hgr _ hat
          obtain ⟨A7, c7, rfl⟩ := own_slice hown
          have hg0 := (World.grownBy_alloc w6 (.cells #[.iface 272 (.int .i64 x)] 88) (Value.slice A8 xs.length c8).ownBlock).trans hgr
          have H7 := Aside0.mk (TQ.beside H6.out R6.out hg0)
          have R7 := Aside0.mk (PRow.more H6.out R6.out hown (hat.imp id (fun h q hq => by rw [h] at hq; have := Option.some.inj hq; omega)))
          clear hown hgr hat hg0
          have k6 : w7.cell? ⟨gt, 6, none⟩ = some (.slice A9 rows5.length c9) := (TQ.cells H7.out).2.2.2.2.2.2
          have kf6 : w7.frozen? ⟨gt, 6, none⟩ = false := blk_frozen (TQ.blk H7.out) 6
          by_cases hxv : x = v
          · have hbx : (x == v) = true := by rw [hxv]; simp
            rcases last_is HX5.out.2.1 with ⟨e1, e2, -⟩ | ⟨rest', e1, e2⟩
            · have hvo := HT.out.1.vOut H0.out.2.1 H0.out.1
              have hnw2 : nw = xs.reverse := by
                have h := HX5.out.1
                rw [HSK.out.1, e1] at h
                simpa using h
              have HPOP := Aside0.mk (show s1.pop v = ⟨s1.idx, s1.num, s1.low, pre, s1.out ++ [xs ++ [x]]⟩ by
                obtain ⟨t1, t2⟩ := cut_at s.stk nw v hvo
                unfold TS.pop
                rw [HSK.out.1, t1, t2, e2, hnw2, hxv]
                simp)
              obtain ⟨j0, gj, gz0, gz1, gz2⟩ := info_parts Tryz.info60
              have HJ := Aside0.mk (And.intro gj (And.intro gz0 (And.intro gz1 gz2)))
              have HO7 := Aside0.mk (show w7.ownsRow lo 60 1 (.slice A9 rows5.length c9) rows5.length rows5 from (TQ.out H7.out).own)
              clear gj gz0 gz1 gz2 e1 e2 hnw2 hxv
              go_wp2_with (first
                | (go_at_call 239; refine (nodeID_any x _).mono ?_; rintro e wi ⟨rfl, rfl⟩)
                | (at_builtin; refine wpList_append_own_at _ rfl _ _ 112 rfl lo 60 j0 (.slice none 0 0) 1 24 Tryz.underlying112 HJ.out.1 HJ.out.2.1 HJ.out.2.2.1 HJ.out.2.2.2 rfl (by decide) _ rows5.length rows5 rfl (World.ownsRow.alloc HO7.out _) ⟨w7.heap.size, 0, none⟩ 1 1 [.slice A7 (xs.length + 1) c7] rfl rfl (cell_one_new _ _ _) ?q2 ?q3 ?q4 ?q5 ?_))
              case q2 => intro u hu; simp at hu; subst hu; rfl
              case q3 => unfold maxLen; omega
              case q4 => omega
              case q5 => have h1 := TQ.L H7.out; dsimp only at h1; simp; omega
              intro v' w8 hown hgr _ hat
              obtain ⟨A6, c6, rfl⟩ := own_slice hown
              have hg0 := (World.grownBy_alloc w7 (.cells #[.slice A7 (xs.length + 1) c7] 60) (Value.slice A9 rows5.length c9).ownBlock).trans hgr
              have hgtne2 : some gt ≠ (Value.slice A9 rows5.length c9).ownBlock := fun e => by have h1 := (TQ.ovLt H7.out e.symm).1; have h2 := (TQ.lt H7.out).1; dsimp only at h1 h2; omega
              have hblk := (hg0.block gt (blk_lt (TQ.blk H7.out)) hgtne2).trans (TQ.blk H7.out)
              have hc9 : w8.cell? ⟨gt, 6, none⟩ = some (.slice A9 rows5.length c9) := (blk_cell hblk 6).trans rfl
              have hf9 := blk_frozen hblk 6
              have H9 := Aside0.mk (TQ.lay H7.out R7.out hg0 hown (hat.imp id (fun h q hq => by rw [h] at hq; have := Option.some.inj hq; omega)))
              clear hown hgr hat hg0 hblk k6 kf6
              go_wp2
              go_end0
              rw [HR.out, HPOP.out]
              exact ⟨rfl, _, _, _, H9.out⟩
            · exact absurd (by rw [e2, hxv]; simp : x ∈ pre) HX5.out.2.2.1
          · have hbx : (x == v) = false := by rw [beq_eq_false_iff_ne]; exact hxv
            clear k6 kf6
            go_wp2_with (go_at_call 239; refine (nodeID_any x _).mono ?_; rintro e wi ⟨rfl, rfl⟩)
            rcases last_is HX5.out.2.1 with ⟨-, -, e⟩ | ⟨rest', e1, e2⟩
            · exact absurd e hxv
            · refine ⟨⟨rest', ⟨xs ++ [x], _, _, rows5, ?_, ?_, R7.out⟩⟩, ?_⟩
              · rw [HX5.out.1, e1]; simp
              · rw [← e2]; exact H7.out
              · simp only [lenOf]; omega
      · have hbb : (la == lb) = false := by rw [beq_eq_false_iff_ne, ← hla, ← hlb]; omega
        have HR : Aside0 (r = s1) := ⟨by rw [← HRR.out]; unfold TS.leave; rw [if_neg he]⟩
        clear hla hlb
        go_wp2_with fail
        go_region_held3 (fun w' => w'.cell? ⟨gt, 2, none⟩ = some (.map (some gi)) ∧ w'.cell? ⟨gt, 3, none⟩ = some (.map (some gl)))
          (go_keep)
          (fail)
        all_goals
          go_wp2
          go_end0
          exact ⟨rfl, st1, ov1, rows1, by rw [HR.out]; exact HT.out.2.2.2.1⟩
end Go.Proofs.YtddklkgcodjijaaGreat.R

/- The successors of a node, sorted by an order and turned round. -/
namespace Go.Proofs.YtddklkgcodjijaaGreat.R
open Go.RowKit Go.Lab Go.Maps Go.Proofs.YtddklkgcodjijaaGreatW.PrintWords Go.Proofs.YtddklkgcodjijaaGreatW.PrintLast Go.Proofs.YtddklkgcodjijaaGreatW.PrintMore PL

/-- the successors, the greatest first -/
def adjR (zs : List Int) (es : List S95) (v : Int) : List Int := (srt (outN zs es v)).reverse
theorem adjR_len (zs : List Int) (es : List S95) (v : Int) : (adjR zs es v).length = (outN zs es v).length := by unfold adjR; rw [List.length_reverse, srt_length]
theorem adjR_mem {zs : List Int} {es : List S95} {u v : Int} : v ∈ adjR zs es u ↔ v ∈ outN zs es u := by unfold adjR; rw [List.mem_reverse, mem_srt]
/-- both boxes: the graph's, and the order's -/
structure OEnv (wE : World) (gb go base bp : Nat) (zs : List Int) (es : List S95) (p : Pl) (w : World) : Prop where
  g : GEnv wE gb base bp zs es p w
  box : w.heap[go]? = some (.cells #[.func (.func 67) #[] #[]] 92 (0, 0))
theorem nodeVs_rev (xs : List Int) : (nodeVs xs).reverse = nodeVs xs.reverse := by unfold nodeVs; rw [List.map_reverse]

set_option maxHeartbeats 4000000 in
set_option maxRecDepth 100000 in
theorem succ82_any (wE : World) (gb go base bp : Nat) (zs : List Int) (es : List S95) (p : Pl) (w : World) (v : Int) (h : OEnv wE gb go base bp zs es p w) (hv : v ∈ zs) :
    Calls Tryz.prog 99 #[.int .i64 v, .pointer (some ⟨gb, 0, none⟩), .pointer (some ⟨go, 0, none⟩)] w fun e w' => ∃ vv, e = .returned vv ∧ w'.ownsRow w.heap.size 88 1 vv (adjR zs es v).length (nodeVs (adjR zs es v)) ∧ Below w.heap.size w w' := by
  have hn := h.g.gr.hn
  have hl : (outN zs es v).length ≤ 100000 := by have h1 := outN_len zs es v; omega
  have HG := Aside0.mk h.g.now
  have c0 : w.cell? ⟨gb, 0, none⟩ = some (.iface 57 (.agg #[.pointer (some ⟨bp, 0, none⟩)])) := (blk_cell h.g.box 0).trans rfl
  have HB := Aside0.mk h.box
  have hgo := blk_lt h.box
  have m1 := meth_DFrom ⟨bp, 0, none⟩
  clear h hn
  go_enter Tryz.func99, Tryz.ntmps99
  go_wp2_with (first
    | (go_at_call 203; refine (gFromD base bp zs es p v _ HG.out hv).mono ?_; rintro e w1 ⟨b, rfl, hit, hbel⟩; have H1 := Aside0.mk (And.intro hit hbel); clear hit hbel)
    | (go_at_call 96; refine (nodesOf_any _ _ b (outN zs es v) _ H1.out.1 hl).mono ?_; rintro e w2 ⟨vv, rfl, h1, h2, h3⟩; have c1 : w2.cell? ⟨go, 0, none⟩ = some (.func (.func 67) #[] #[]) := (blk_cell (((H1.out.2.trans (h3.below H1.out.2.size)).block go hgo).trans HB.out) 0).trans rfl; have H2 := Aside0.mk (And.intro h1 (And.intro h2 h3)); clear h1 h2 h3)
    | (go_at_call 67; refine (lexical_own _ vv _ _ H2.out.1 hl).mono ?_; rintro e w3 ⟨rfl, ho3, hg3⟩; have H3 := Aside0.mk (And.intro (show w3.ownsRow w.heap.size 88 1 vv (nodeVs (srt (outN zs es v))).length (nodeVs (srt (outN zs es v))) by rw [nodeVs_len, srt_length]; exact ho3) hg3); clear ho3 hg3)
    | (go_at_call 98; refine (revN_own _ vv _ _ H3.out.1 (nodeVs_one _) (by rw [nodeVs_len, srt_length]; exact hl)).mono ?_; rintro e w4 ⟨rfl, ho4, hg4⟩; have H4 := Aside0.mk (And.intro ho4 hg4); clear ho4 hg4))
  go_ret
  have hb2 := H1.out.2.trans (H2.out.2.2.below H1.out.2.size)
  have hb3 := hb2.grown H3.out.2 hb2.size (fun q hq => own_base H2.out.1 q hq)
  refine ⟨vv, rfl, ?_, hb3.grown H4.out.2 hb3.size (fun q hq => own_base H2.out.1 q hq)⟩
  have h9 := H4.out.1
  rw [nodeVs_rev, nodeVs_len, srt_length] at h9
  rw [adjR_len]
  exact h9
end Go.Proofs.YtddklkgcodjijaaGreat.R
