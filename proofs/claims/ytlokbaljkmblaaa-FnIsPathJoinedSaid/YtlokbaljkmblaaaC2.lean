import Derived.Test.YtlokbaljkmblaaaC
import Derived.Deep.RegionLaw
namespace Go.Proofs.Ytlokbaljkmblaaa
open Go.RowKit Go.Lab Go.Proofs.YtlokbaljkmblaaaW.PrintWords Go.Proofs.YtlokbaljkmblaaaW.PrintLast Go.Proofs.YtlokbaljkmblaaaW.PrintMore

theorem Try.sizeOf90 : ∀ w, (Go.sizeOf 90).run Try.prog w = .ok 2 w := fun _ => by kernel_rfl

theorem overlaps_no (w : World) (b vb off la ca lb cb : Nat) (cur : Array Value) (x y : Value) (hb : w.heap[b]? = some (.cells cur 90 (0,0))) (hcur : cur.size ≠ 0)
    (hvb : w.heap[vb]? = some (.cells #[x, y] 90 (0,0))) (hne : vb ≠ b) :
    (callFunc 47 #[.slice (some ⟨vb, 0, none⟩) la ca, .slice (some ⟨b, off, none⟩) lb cb]).run Try.prog w = .ok (.value (.bool false)) w := by
  rw [run_callFunc_extern Try.func47 (by kernel_rfl) (by kernel_rfl) (by kernel_rfl) (e := Extern.SlicesOverlaps.overlaps #[74, 74] #[4]) (by kernel_rfl),
    Lib.run_overlaps_apart w 74 4 90 Try.underlying74 2 Try.sizeOf90 ⟨vb, 0, none⟩ ⟨b, off, none⟩ la ca lb cb hne 90 90 2 cur.size (by simp [World.shape?, hvb]) (by simp [World.shape?, hb]) hcur (by simp [World.frozen?, hvb]) (by simp [World.frozen?, hvb])]
  rfl

set_option maxHeartbeats 2000000 in
set_option maxRecDepth 100000 in
theorem insert_shift (base b cap : Nat) (cur : Array Value) (l : List (Int × Nat)) (i : Nat) (hi : i < l.length) (hcap : l.length + 1 ≤ cap) (hc2 : cap ≤ 9223372036854775807) (a : Int × Nat) (vb : Nat) (w : World)
    (hb : w.heap[b]? = some (.cells cur 90 (0,0))) (hcur : cur.size = cap * 2) (htake : cur.toList.take (l.length * 2) = fl l)
    (hvb : w.heap[vb]? = some (.cells #[.int .i64 a.1, .float .f64 a.2] 90 (0,0))) (hne : vb ≠ b) (hlen : l.length ≤ 1000) :
    Calls Try.prog 40 #[.slice (some ⟨b, 0, none⟩) l.length cap, .int .i64 i, .slice (some ⟨vb, 0, none⟩) 1 1] w fun e w' => e = .returned (.slice (some ⟨b, 0, none⟩) (l.length + 1) cap) ∧
      w'.heap[b]? = some (.cells (splice (splice cur.toList ((i + 1) * 2) (fl (l.drop i))) (i * 2) (fl [a])).toArray 90 (0,0)) ∧ w.grownBy w' (some b) := by
  have HN := Aside0.mk (blk_news hvb)
  have HB := Aside0.mk hb
  have HV := Aside0.mk hvb
  have hov := fun off la ca lb cb => overlaps_no w b vb off la ca lb cb cur _ _ hb (by omega) hvb hne
  have hsrc : ∀ j v, (fl (l.drop i))[j]? = some v → w.cell? ((⟨b, 0 + i * 2, none⟩ : Addr).add j) = some v := by
    intro j v hv
    have : (⟨b, 0 + i * 2, none⟩ : Addr).add j = ⟨b, i * 2 + j, none⟩ := by unfold Addr.add; split <;> simp_all
    rw [this, cell_of_row w b _ _ _ _ hb]
    rw [← fl_drop, ← htake, List.getElem?_drop, List.getElem?_take] at hv
    split at hv
    · simpa using hv
    · cases hv
  have HS := Aside0.mk hsrc
  have hl1 := fl_length (l.drop i)
  have hl2 := fl_length [a]
  rw [List.length_drop] at hl1
  have HL1 := Aside0.mk hl1
  have HL2 := Aside0.mk hl2
  have HC := Aside0.mk hcur
  have HT := Aside0.mk htake
  have hlw : cur.toList.length = cap * 2 := by simpa using hcur
  have HLW := Aside0.mk hlw
  have hn1 : ¬ ((i : Int) = (l.length : Int)) := by omega
  have hn2 : ¬ (cap = i + 1) := by omega
  have hn3 : ¬ (cap = i) := by omega
  clear hb hvb hsrc hl1 hl2 hcur htake hlw
  go_enter Try.func40, Try.ntmps40
  go_wp2_with (simp only [hov])
  have hm1 : Nat.min (l.length + 1 - i) (l.length - i) = l.length - i := Nat.min_eq_right (by omega)
  have HM1 := Aside0.mk hm1
  clear hm1
  have hx1 : IntKind.i64.wrap ((i : Int) + 1) = (i : Int) + 1 := by rw [IntKind.wrap_i64]; omega
  have hx2 : (0 : Int) ≤ (i : Int) + 1 := by omega
  have hx3 : (i : Int) + 1 ≤ (l.length : Int) + 1 := by omega
  have hx4 : ((i : Int) + 1).toNat = i + 1 := by omega
  have hx6 : (i : Int) ≤ (l.length : Int) + 1 := by omega
  have hx5 : l.length + 1 - (i + 1) = l.length - i := by omega
  go_region_law (refine step_copyk rfl (.tmp 73) (.tmp 76) 74 74 rfl 90 2 Try.underlying74 Try.size90 b ((i + 1) * 2) (l.length - i) (cap - (i + 1)) ⟨b, i * 2, none⟩ (l.length + 1 - i) (cap - i) (by simp [Act.eval, Act.put]) (by simp [Act.eval, Act.put]) cur.toList 90 HB.out (fl (l.drop i)) (by rw [HL1.out, HM1.out]) (by simpa using HS.out) (by rw [HL1.out, HLW.out]; omega) (fl_one _) ?_; intro w2 HG2 hg2)
  have hv2 : w2.heap[vb]? = some (.cells #[.int .i64 a.1, .float .f64 a.2] 90 (0,0)) := by
    rw [hg2.block vb (blk_lt HV.out) (by simpa using hne)]; exact HV.out
  have HN2 := Aside0.mk (blk_news hv2)
  have HW := Aside0.mk ((grownBy_drew w (some b)).trans hg2)
  have hm2 : Nat.min 1 (l.length + 1 - i) = 1 := Nat.min_eq_left (by omega)
  have HM2 := Aside0.mk hm2
  have hls : (splice cur.toList ((i + 1) * 2) (fl (l.drop i))).length = cap * 2 := by rw [length_splice _ _ _ (by rw [HL1.out, HLW.out]; omega), HLW.out]
  have HLS := Aside0.mk hls
  clear hm2 hv2 hg2 hls hov
  go_wp2_with (with_reducible refine wpList_copyk rfl (.tmp 80) (.tmp 81) 74 74 rfl 90 2 Try.underlying74 Try.size90 b (i * 2) (l.length + 1 - i) (cap - i) ⟨vb, 0, none⟩ 1 1 ?p1 ?p2 (splice cur.toList ((i + 1) * 2) (fl (l.drop i))) 90 HG2.out (fl [a]) ?p3 HN2.out ?p4 ?p5 ?_)
  case p1 => simp [Act.eval]
  case p2 => simp [Act.eval]
  case p3 => rw [HL2.out, HM2.out]; rfl
  case p4 => rw [HL2.out, HLS.out]; simp; omega
  case p5 => exact fl_one _
  intro w3 HG3 hg3
  go_wp2
  go_ret
  exact ⟨rfl, HG3.out, HW.out.trans hg3⟩
end Go.Proofs.Ytlokbaljkmblaaa
