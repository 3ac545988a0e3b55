import Derived.Test.YtlokbaljkmblaaaC2
namespace Go.Proofs.Ytlokbaljkmblaaa
open Go.RowKit Go.Lab Go.Proofs.YtlokbaljkmblaaaW.PrintWords Go.Proofs.YtlokbaljkmblaaaW.PrintLast Go.Proofs.YtlokbaljkmblaaaW.PrintMore

set_option maxHeartbeats 2000000 in
set_option maxRecDepth 100000 in
theorem insert_grow (b : Nat) (cur : Array Value) (l : List (Int × Nat)) (i : Nat) (hi : i < l.length) (a : Int × Nat) (vb : Nat) (w : World)
    (hb : w.heap[b]? = some (.cells cur 90 (0,0))) (hcur : cur.size = l.length * 2) (htake : cur.toList = fl l)
    (hvb : w.heap[vb]? = some (.cells #[.int .i64 a.1, .float .f64 a.2] 90 (0,0))) (hlen : l.length ≤ 1000) :
    Calls Try.prog 40 #[.slice (some ⟨b, 0, none⟩) l.length l.length, .int .i64 i, .slice (some ⟨vb, 0, none⟩) 1 1] w fun e w' => ∃ cap cells, e = .returned (.slice (some ⟨w.heap.size, 0, none⟩) (l.length + 1) cap) ∧ l.length + 1 ≤ cap ∧ cap ≤ 9223372036854775807 ∧
      w'.heap[w.heap.size]? = some (.cells cells 90 (0,0)) ∧ cells.size = cap * 2 ∧ cells.toList.take ((l.length + 1) * 2) = fl (insAt l i a) ∧ w.grownBy w' none := by
  have HV := Aside0.mk hvb
  have HBB := Aside0.mk hb
  have hbw := blk_lt hb
  have hvw := blk_lt hvb
  obtain ⟨i0, hi0, hz0, hz1, hz2⟩ := info_parts Try.info90
  have HI := Aside0.mk (And.intro hi0 (And.intro hz0 (And.intro hz1 hz2)))
  have hold : ∀ j v, (fl (l.take i))[j]? = some v → w.cell? ((⟨b, 0, none⟩ : Addr).add j) = some v := by
    intro j v hv
    rw [add_plain, cell_of_row w b _ _ _ _ hb]
    rw [← fl_take, ← htake, List.getElem?_take] at hv
    split at hv
    · simpa using hv
    · cases hv
  have HO := Aside0.mk hold
  have hl0 := fl_length (l.take i)
  rw [List.length_take, Nat.min_eq_left (by omega)] at hl0
  have hl1 := fl_length (l.drop i)
  rw [List.length_drop] at hl1
  have hl2 := fl_length [a]
  have HL0 := Aside0.mk hl0
  have HL1 := Aside0.mk hl1
  have HL2 := Aside0.mk hl2
  have HT := Aside0.mk htake
  have hn1 : ¬ ((i : Int) = (l.length : Int)) := by omega
  have hn3 : ¬ (l.length = i) := by omega
  clear hb hvb hl0 hl1 hl2 htake hold hi0 hz0 hz1 hz2 hcur
  obtain ⟨N, hN⟩ : ∃ N, N = w.heap.size := ⟨_, rfl⟩
  have HNN := Aside0.mk hN
  go_enter Try.func40, Try.ntmps40
  go_wp2_with (at_builtin; refine wpList_append_zeros rfl _ _ 74 3 rfl 90 i0 (.agg #[.int .i64 0, .float .f64 0]) 2 16 .i64 .i64 Try.underlying74 Try.underlying3 HI.out.1 HI.out.2.1 HI.out.2.2.1 HI.out.2.2.2 rfl (by decide) b i l.length _ rfl rfl (l.length + 1 - i) ?q0 (fl (l.take i)) HL0.out HO.out ?q1 ?q2 ?q3 ?q4 ?_)
  case q0 => omega
  case q1 => omega
  case q2 => omega
  case q3 => omega
  case q4 => omega
  intro g cap zs w1 hcap hcap2 hzs hw1 hg1 hgw
  have e1 : i + (l.length + 1 - i) = l.length + 1 := by omega
  rw [e1] at hcap ⊢
  have hv1 : w1.heap[vb]? = some (.cells #[.int .i64 a.1, .float .f64 a.2] 90 (0,0)) := by rw [hg1.block vb hvw (by simp)]; exact HV.out
  have hb1 : w1.heap[b]? = some (.cells cur 90 (0,0)) := by rw [hg1.block b hbw (by simp)]; exact HBB.out
  have hgb : b ≠ g := by omega
  have hgv : vb ≠ g := by omega
  have HN1 := Aside0.mk (blk_news hv1)
  have HB1 := Aside0.mk hb1
  have HW1 := Aside0.mk hw1
  have HG1 := Aside0.mk hg1
  have HGW := Aside0.mk hgw
  have HZS := Aside0.mk hzs
  have hrl : (fl (l.take i) ++ zs).length = cap * 2 := by rw [List.length_append, HL0.out, hzs]; omega
  have HRL := Aside0.mk hrl
  have hm1 : Nat.min 1 (l.length + 1 - i) = 1 := Nat.min_eq_left (by omega)
  have HM1 := Aside0.mk hm1
  have hn4 : ¬ (cap = i) := by omega
  clear e1 hv1 hb1 hw1 hg1 hgw hzs hrl hm1
  go_wp2_with (with_reducible refine wpList_copyk rfl (.tmp 43) (.tmp 44) 74 74 rfl 90 2 Try.underlying74 Try.size90 g (i * 2) (l.length + 1 - i) (cap - i) ⟨vb, 0, none⟩ 1 1 ?p1 ?p2 (fl (l.take i) ++ zs) 90 HW1.out (fl [a]) ?p3 HN1.out ?p4 ?p5 ?_)
  case p1 => simp [Act.eval]
  case p2 => simp [Act.eval]
  case p3 => rw [HL2.out, HM1.out]; rfl
  case p4 => rw [HL2.out, HRL.out]; simp; omega
  case p5 => exact fl_one _
  intro w2 HG2 hg2
  have hb2 : w2.heap[b]? = some (.cells cur 90 (0,0)) := by rw [hg2.block b (blk_lt HB1.out) (by simpa using hgb)]; exact HB1.out
  have hsrc : ∀ j v, (fl (l.drop i))[j]? = some v → w2.cell? ((⟨b, i * 2, none⟩ : Addr).add j) = some v := by
    intro j v hv
    have : (⟨b, i * 2, none⟩ : Addr).add j = ⟨b, i * 2 + j, none⟩ := by unfold Addr.add; split <;> simp_all
    rw [this, cell_of_row w2 b _ _ _ _ hb2]
    rw [← fl_drop, ← HT.out, List.getElem?_drop] at hv
    simpa using hv
  have HS := Aside0.mk hsrc
  have HGG2 := Aside0.mk hg2
  have hr2 : (splice (fl (l.take i) ++ zs) (i * 2) (fl [a])).length = cap * 2 := by rw [length_splice _ _ _ (by rw [HL2.out, HRL.out]; simp; omega), HRL.out]
  have HR2 := Aside0.mk hr2
  have hm2 : Nat.min (l.length - i) (l.length - i) = l.length - i := Nat.min_self _
  have HM2 := Aside0.mk hm2
  have hx1 : IntKind.i64.wrap ((i : Int) + 1) = (i : Int) + 1 := by rw [IntKind.wrap_i64]; omega
  have hx2 : (0 : Int) ≤ (i : Int) + 1 := by omega
  have hx3 : (i : Int) + 1 ≤ (l.length : Int) + 1 := by omega
  have hx4 : ((i : Int) + 1).toNat = i + 1 := by omega
  have hx5 : l.length + 1 - (i + 1) = l.length - i := by omega
  have hx6 : (i : Int) ≤ (l.length : Int) + 1 := by omega
  have hx7 : (i : Int) ≤ (l.length : Int) := by omega
  have hx8 : ¬ (cap = i + 1) := by omega
  clear hsrc hg2 hb2 hr2 hm2
  go_wp2
  go_region_law (refine step_copyk rfl (.tmp 50) (.tmp 53) 74 74 rfl 90 2 Try.underlying74 Try.size90 g ((i + 1) * 2) (l.length - i) (cap - (i + 1)) ⟨b, i * 2, none⟩ (l.length - i) (l.length - i) (by simp [Act.eval, Act.put]) (by simp [Act.eval, Act.put]) (splice (fl (l.take i) ++ zs) (i * 2) (fl [a])) 90 HG2.out (fl (l.drop i)) (by rw [HL1.out, HM2.out]) HS.out (by rw [HL1.out, HR2.out]; omega) (fl_one _) ?_; intro w3 HG3 hg3)
  go_wp2
  go_ret
  have hgrow : w.grownBy w3 none := by
    have h1 := HG1.out
    have h2 := HGG2.out
    have hsz1 : w1.heap.size ≤ w2.heap.size := h2.size
    refine ⟨hg3.os.trans (h2.os.trans h1.os), hg3.tape.trans (h2.tape.trans h1.tape), hg3.output.trans (h2.output.trans h1.output), Nat.le_trans h1.size (Nat.le_trans h2.size hg3.size), fun k hk _ => ?_⟩
    have hkg : some k ≠ some g := by rw [HGW.out]; simp; omega
    have := h1.size
    exact (hg3.block k (show k < w2.heap.size by omega) hkg).trans ((h2.block k (by omega) hkg).trans (h1.block k hk (by simp)))
  refine ⟨cap, (splice (splice (fl (l.take i) ++ zs) (i * 2) (fl [a])) ((i + 1) * 2) (fl (l.drop i))).toArray, by rw [HGW.out]; rfl, by omega, hcap2, by rw [← HGW.out]; exact HG3.out, ?_, ?_, hgrow⟩
  · rw [List.size_toArray, length_splice _ _ _ (by rw [HL1.out, HR2.out]; omega), HR2.out]
  · have h := splice_after (fl (l.take i)) zs (fl [a]) (fl (l.drop i))
    rw [HL0.out, HL1.out, HL2.out] at h
    rw [List.toList_toArray, show (l.length + 1) * 2 = i * 2 + [a].length * 2 + (l.length - i) * 2 by simp; omega, show (i + 1) * 2 = i * 2 + [a].length * 2 by simp; omega, h, ← fl_append, ← fl_append]
    simp [insAt]

/-- slices.Insert at arcs, one new arc: whatever room there is. -/
theorem insert_any (base : Nat) (v : Value) (l : List (Int × Nat)) (i : Nat) (hi : i ≤ l.length) (a : Int × Nat) (vb : Nat) (w : World) (hown : w.ownsRow base 90 2 v l.length (fl l))
    (hvb : w.heap[vb]? = some (.cells #[.int .i64 a.1, .float .f64 a.2] 90 (0,0))) (hne : v.ownBlock ≠ some vb) (hbase : base ≤ w.heap.size) (hlen : l.length ≤ 1000) :
    Calls Try.prog 40 #[v, .int .i64 i, .slice (some ⟨vb, 0, none⟩) 1 1] w fun e w' => ∃ v', e = .returned v' ∧ w'.ownsRow base 90 2 v' (l.length + 1) (fl (insAt l i a)) ∧ w.grownBy w' v.ownBlock ∧
      (v'.ownBlock = v.ownBlock ∨ v'.ownBlock = some w.heap.size) := by
  by_cases h : i = l.length
  · subst h; exact insert_end base v l a vb w hown hvb hbase hlen
  · have hlt : i < l.length := by omega
    have hil : (insAt l i a).length = l.length + 1 := by simp [insAt]; omega
    have hfl : (fl (insAt l i a)).length = (l.length + 1) * 2 := by rw [fl_length, hil]
    rcases hown.2 with ⟨_, h0⟩ | ⟨g, cap, cur, rfl, hb1, hg, hc1, hc2, hcs, htk⟩
    · omega
    · have hc3 := hc2
      unfold maxLen at hc3
      by_cases hroom : l.length + 1 ≤ cap
      · refine (insert_shift base g cap cur l i hlt hroom (by omega) a vb w hg hcs htk hvb (fun e => hne (by rw [e]; rfl)) hlen).mono ?_
        rintro e w' ⟨rfl, hh, hgr⟩
        refine ⟨_, rfl, ⟨hfl, .inr ⟨g, cap, _, rfl, hb1, hh, hroom, hc2, ?_, ?_⟩⟩, hgr, .inl rfl⟩
        · have hl1 := fl_length (l.drop i)
          rw [List.length_drop] at hl1
          have hl2 := fl_length [a]
          have hcl : cur.toList.length = cap * 2 := by simpa using hcs
          have h1 : (splice cur.toList ((i + 1) * 2) (fl (l.drop i))).length = cap * 2 := by rw [length_splice _ _ _ (by rw [hl1, hcl]; omega), hcl]
          rw [List.size_toArray, length_splice _ _ _ (by rw [h1, hl2]; simp; omega), h1]
        · have hl1 := fl_length (l.drop i)
          rw [List.length_drop] at hl1
          have hl2 := fl_length [a]
          have hcl : cur.toList.length = cap * 2 := by simpa using hcs
          have hsp : cur.toList = (cur.toList.take (i * 2)) ++ ((cur.toList.drop (i * 2)).take 2) ++ (cur.toList.drop (i * 2)).drop 2 := by
            rw [List.append_assoc, List.take_append_drop, List.take_append_drop]
          have hA : cur.toList.take (i * 2) = fl (l.take i) := by
            rw [← fl_take, ← htk, List.take_take, Nat.min_eq_left (by omega)]
          have hl0 := fl_length (l.take i)
          rw [List.length_take, Nat.min_eq_left (by omega)] at hl0
          have h := splice_before (fl (l.take i)) ((cur.toList.drop (i * 2)).take 2) ((cur.toList.drop (i * 2)).drop 2) (fl [a]) (fl (l.drop i)) (by rw [hl2, List.length_take, List.length_drop, hcl]; simp; omega)
          rw [hl0, hl1, hl2, ← hA, ← hsp] at h
          rw [List.toList_toArray, show (l.length + 1) * 2 = i * 2 + [a].length * 2 + (l.length - i) * 2 by simp; omega, show (i + 1) * 2 = i * 2 + [a].length * 2 by simp; omega, h, hA, ← fl_append, ← fl_append]
          simp [insAt]
      · obtain rfl : cap = l.length := by omega
        have htk' : cur.toList = fl l := by rw [← htk, List.take_of_length_le (by simp [hcs])]
        refine (insert_grow g cur l i hlt a vb w hg hcs htk' hvb hlen).mono ?_
        rintro e w' ⟨cap, cells, rfl, h1, h2, h3, h4, h5, h6⟩
        exact ⟨_, rfl, ⟨hfl, .inr ⟨w.heap.size, cap, cells, rfl, hbase, h3, h1, by unfold maxLen; omega, h4, h5⟩⟩, ⟨h6.os, h6.tape, h6.output, h6.size, fun k hk _ => h6.block k hk (by simp)⟩, .inr rfl⟩
end Go.Proofs.Ytlokbaljkmblaaa
