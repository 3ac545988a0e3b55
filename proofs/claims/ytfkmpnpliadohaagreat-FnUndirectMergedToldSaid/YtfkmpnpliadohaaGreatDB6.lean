import Derived.Test.YtfkmpnpliadohaaGreatDB5
import Derived.Test.YtfkmpnpliadohaaGreatDT3
set_option linter.unusedVariables false
set_option linter.unusedSimpArgs false
set_option linter.unusedVariables false
set_option linter.unusedSimpArgs false
/- impl.UndirectWeighted. -/
namespace Go.Proofs.YtfkmpnpliadohaaGreat.R
open Go.RowKit Go.Lab Go.Maps Go.Proofs.YtfkmpnpliadohaaGreatW.PrintWords Go.Proofs.YtfkmpnpliadohaaGreatW.PrintLast Go.Proofs.YtfkmpnpliadohaaGreatW.PrintMore PL

theorem near_f (x : Int) : impl_near.f 3 [x] = some (!decide (1099511627776 < x) && !decide (x < -1099511627776)) := by
  unfold impl_near.f
  simp only [impl_near.l0]
  have hr : rd [x] 0 = x := rfl
  have hw : wrap64 (0 + 1) = 1 := by unfold wrap64; omega
  simp only [hr, hw, List.length_cons, List.length_nil]
  by_cases h1 : x > 1099511627776
  · have : 1099511627776 < x := h1
    simp [h1, this]
  · by_cases h2 : x < -1099511627776
    · have : ¬ 1099511627776 < x := h1
      simp [h1, h2, this]
    · have : ¬ 1099511627776 < x := h1
      simp [h1, h2, this]

/-- whether UndirectWeighted takes it -/
def uwOk (d : Bool) (zs : List Int) (es : List S38) (absent how : Int) : Bool := (readOk zs es && d) && (!decide (how < 0) && (!decide (2 < how) && (!decide (1099511627776 < absent) && !decide (absent < -1099511627776))))

theorem one_C (w : World) (x : Int) : Kd.C (Kd.int .i64) (w.alloc (.cells #[.int .i64 x] 3)) (some ⟨w.heap.size, 0, none⟩) 1 [x] := by
  have ho : (w.alloc (.cells #[.int .i64 x] 3)).ownsRow 0 3 1 (.slice (some ⟨w.heap.size, 0, none⟩) 1 1) [x].length (nums .i64 [x]) :=
    ⟨rfl, .inr ⟨w.heap.size, 1, #[.int .i64 x], rfl, Nat.zero_le _, heap_alloc_new _ _, Nat.le_refl _, by decide, rfl, rfl⟩⟩
  obtain ⟨A, c, he, hr⟩ := own_reads ho
  injection he with e1 e2 e3
  subst e1
  exact Kd.C_of_reads hr

theorem near_any (x : Int) (w : World) : Calls Tryz.prog 49 #[.slice (some ⟨w.heap.size, 0, none⟩) 1 1] (w.alloc (.cells #[.int .i64 x] 3)) fun e w' => e = .returned (.bool (!decide (1099511627776 < x) && !decide (x < -1099511627776))) ∧ ∃ n, w' = (w.alloc (.cells #[.int .i64 x] 3)).drewN n :=
  (impl_near.calls 3 (some ⟨w.heap.size, 0, none⟩) 1 [x] _ _ (one_C w x) (Nat.le_refl _) (near_f x)).mono fun _ _ ⟨h1, h2⟩ => ⟨h1, h2.out⟩

/-- what UndirectWeighted holds behind oneWay -/
structure Uw (w W : World) (how : Int) (bp b5 b6 b8 : Nat) : Prop where
  h5 : W.heap[b5]? = some (.cells #[.int .i64 how] 3 (0, 0))
  h6 : W.heap[b6]? = some (.cells #[.bool false, .slice none 0 0, .slice none 0 0] 25 (0, 0))
  h8 : W.heap[b8]? = some (.cells #[.pointer (some ⟨bp, 0, none⟩)] 75 (0, 0))
  bel : Below w.heap.size w W
  l6 : w.heap.size ≤ b6

theorem Uw.below {w W W' : World} {how : Int} {bp b5 b6 b8 : Nat} (h : Uw w W how bp b5 b6 b8) (hb : Below W.heap.size W W') : Uw w W' how bp b5 b6 b8 :=
  ⟨(hb.block _ (blk_lt h.h5)).trans h.h5, (hb.block _ (blk_lt h.h6)).trans h.h6, (hb.block _ (blk_lt h.h8)).trans h.h8, h.bel.trans (hb.mono h.bel.size), h.l6⟩

theorem Uw.cells {w W : World} {how : Int} {bp b5 b6 b8 : Nat} (h : Uw w W how bp b5 b6 b8) : W.cell? ⟨b5, 0, none⟩ = some (.int .i64 how) ∧ W.cell? ⟨b6, 0, none⟩ = some (.bool false) ∧ W.cell? ⟨b6, 1, none⟩ = some (.slice none 0 0) ∧ W.cell? ⟨b6, 2, none⟩ = some (.slice none 0 0) ∧
    (∀ k, W.frozen? ⟨b6, k, none⟩ = false) ∧ W.cell? ⟨b8, 0, none⟩ = some (.pointer (some ⟨bp, 0, none⟩)) := by
  refine ⟨?_, ?_, ?_, ?_, fun k => blk_frozen h.h6 k, ?_⟩
  · rw [blk_cell h.h5]; rfl
  · rw [blk_cell h.h6]; rfl
  · rw [blk_cell h.h6]; rfl
  · rw [blk_cell h.h6]; rfl
  · rw [blk_cell h.h8]; rfl

theorem uw_start (d : Bool) (A1 A2 : Option Addr) (n m c1 c2 : Nat) (how : Int) (w w1 : World) (bp : Nat)
    (hb : Below (((w.alloc (.cells #[.bool d, .slice A1 n c1, .slice A2 m c2] 25)).alloc (.cells #[.int .i64 how] 3)).alloc (.cells #[.bool false, .slice none 0 0, .slice none 0 0] 25)).heap.size
      (((w.alloc (.cells #[.bool d, .slice A1 n c1, .slice A2 m c2] 25)).alloc (.cells #[.int .i64 how] 3)).alloc (.cells #[.bool false, .slice none 0 0, .slice none 0 0] 25)) w1) :
    Uw w (w1.alloc (.cells #[.pointer (some ⟨bp, 0, none⟩)] 75)) how bp (w.heap.size + 1) (w.heap.size + 1 + 1) w1.heap.size := by
  have b1 := (Below.refl w.heap.size w).alloc (Nat.le_refl _) (.cells #[.bool d, .slice A1 n c1, .slice A2 m c2] 25)
  have b3 : Below w.heap.size w (((w.alloc (.cells #[.bool d, .slice A1 n c1, .slice A2 m c2] 25)).alloc (.cells #[.int .i64 how] 3)).alloc (.cells #[.bool false, .slice none 0 0, .slice none 0 0] 25)) := (b1.alloc (by simp) _).alloc (by simp; omega) _
  have hz : (((w.alloc (.cells #[.bool d, .slice A1 n c1, .slice A2 m c2] 25)).alloc (.cells #[.int .i64 how] 3)).alloc (.cells #[.bool false, .slice none 0 0, .slice none 0 0] 25)).heap.size = w.heap.size + 3 := by simp
  have hb2 := hb.alloc hb.size (.cells #[.pointer (some ⟨bp, 0, none⟩)] 75)
  refine ⟨?_, ?_, heap_alloc_new _ _, b3.trans (hb2.mono (by rw [hz]; omega)), by omega⟩
  · refine (hb2.block _ (by rw [hz]; omega)).trans ?_
    have h1 := heap_alloc_new (w.alloc (.cells #[.bool d, .slice A1 n c1, .slice A2 m c2] 25)) (.cells #[.int .i64 how] 3)
    have h2 := ((Below.refl _ ((w.alloc (.cells #[.bool d, .slice A1 n c1, .slice A2 m c2] 25)).alloc (.cells #[.int .i64 how] 3))).alloc (Nat.le_refl _) (.cells #[.bool false, .slice none 0 0, .slice none 0 0] 25)).block (w.heap.size + 1) (by simp)
    rw [h2]
    simpa using h1
  · refine (hb2.block _ (by rw [hz]; omega)).trans ?_
    have h1 := heap_alloc_new ((w.alloc (.cells #[.bool d, .slice A1 n c1, .slice A2 m c2] 25)).alloc (.cells #[.int .i64 how] 3)) (.cells #[.bool false, .slice none 0 0, .slice none 0 0] 25)
    simpa using h1

def badV : Value := .tuple #[.agg #[.bool false, .slice none 0 0, .slice none 0 0], .bool true]

set_option maxHeartbeats 8000000 in
set_option maxRecDepth 100000 in
theorem uw_bad (d : Bool) (A1 A2 : Option Addr) (c1 c2 : Nat) (zs : List Int) (es : List S38) (absent how : Int) (w : World)
    (hN : Kd.C (Kd.int .i64) w A1 zs.length zs) (hE : Kd.C k38 w A2 es.length es) (hn : zs.length ≤ 1000) (he : es.length ≤ 1000000) (hbad : uwOk d zs es absent how = false) :
    Calls Tryz.prog 12 #[.agg #[.bool d, .slice A1 zs.length c1, .slice A2 es.length c2], .int .i64 absent, .int .i64 how] w fun e w' => e = .returned badV ∧ Below w.heap.size w w' := by
  have hb1 : Below w.heap.size w (((w.alloc (.cells #[.bool d, .slice A1 zs.length c1, .slice A2 es.length c2] 25)).alloc (.cells #[.int .i64 how] 3)).alloc (.cells #[.bool false, .slice none 0 0, .slice none 0 0] 25)) := (((Below.refl _ _).alloc (Nat.le_refl _) _).alloc (by simp) _).alloc (by simp; omega) _
  have HN := Aside0.mk (Kd.C_below hN hb1)
  have HE := Aside0.mk (Kd.C_below hE hb1)
  obtain ⟨rb, hrb⟩ : ∃ rb, (readOk zs es && d) = rb := ⟨_, rfl⟩
  unfold uwOk at hbad
  rw [hrb] at hbad
  have HRB := Aside0.mk hrb
  have HBAD := Aside0.mk hbad
  clear hN hE hb1 hrb hbad
  go_enter Tryz.func12, Tryz.ntmps12
  go_upto_region 2 with (go_at_call 48; refine (oneWay_any d A1 A2 c1 c2 zs es _ HN.out HE.out hn he).mono ?_; rintro e w1 ⟨base, bp, rfl, hbel, hpl⟩; rw [HRB.out]; have HU := Aside0.mk (uw_start d A1 A2 zs.length es.length c1 c2 how w w1 bp hbel); clear hpl)
  obtain ⟨W, hW⟩ : ∃ W, W = w1.alloc (.cells #[.pointer (some ⟨bp, 0, none⟩)] 75) := ⟨_, rfl⟩
  rw [← hW] at HU ⊢
  obtain ⟨b8, h8⟩ : ∃ b8, b8 = w1.heap.size := ⟨_, rfl⟩
  rw [← h8] at HU ⊢
  obtain ⟨b6, h6⟩ : ∃ b6, b6 = w.heap.size + 1 + 1 := ⟨_, rfl⟩
  rw [← h6] at HU ⊢
  obtain ⟨b5, h5⟩ : ∃ b5, b5 = w.heap.size + 1 := ⟨_, rfl⟩
  rw [← h5] at HU ⊢
  clear hbel hW h8 h6 h5
  obtain ⟨k5, k60, k61, k62, kf, k8⟩ := HU.out.cells
  have kf0 := kf 0
  have kf1 := kf 1
  have kf2 := kf 2
  clear kf
  have hend : ∀ W' : World, Uw w W' how bp b5 b6 b8 → Below w.heap.size w (((W'.setCell ⟨b6, 0, none⟩ (.bool false)).setCell ⟨b6, 1, none⟩ (.slice none 0 0)).setCell ⟨b6, 2, none⟩ (.slice none 0 0)) ∧
      (((W'.setCell ⟨b6, 0, none⟩ (.bool false)).setCell ⟨b6, 1, none⟩ (.slice none 0 0)).setCell ⟨b6, 2, none⟩ (.slice none 0 0)).heap[b6]? = some (.cells #[.bool false, .slice none 0 0, .slice none 0 0] 25 (0, 0)) := fun W' h =>
    ⟨((h.bel.setCell h.l6 _).setCell h.l6 _).setCell h.l6 _, by simpa using blk_set (blk_set (blk_set h.h6 0 (.bool false)) 1 (.slice none 0 0)) 2 (.slice none 0 0)⟩
  have HE2 := Aside0.mk hend
  clear hend
  cases rb
  · obtain ⟨hz1, hz2⟩ := HE2.out W HU.out
    have q0 := blk_cell hz2 0
    have q1 := blk_cell hz2 1
    have q2 := blk_cell hz2 2
    clear hz2
    go_wp2
    refine bodyPost_ret (v := badV) (by unfold badV; simp [results, Tryz.results12, go_sem, q0, q1, q2, *]) rfl ⟨rfl, hz1⟩
  · by_cases hh0 : how < 0
    · have hd0 : decide (how < 0) = true := decide_eq_true hh0
      clear hh0 HBAD
      obtain ⟨hz1, hz2⟩ := HE2.out W HU.out
      have q0 := blk_cell hz2 0
      have q1 := blk_cell hz2 1
      have q2 := blk_cell hz2 2
      clear hz2
      go_wp2
      refine bodyPost_ret (v := badV) (by unfold badV; simp [results, Tryz.results12, go_sem, q0, q1, q2, *]) rfl ⟨rfl, hz1⟩
    · have hd0 : decide (how < 0) = false := decide_eq_false hh0
      by_cases hh2 : 2 < how
      · have hd2 : decide (2 < how) = true := decide_eq_true hh2
        clear hh0 hh2 HBAD
        obtain ⟨hz1, hz2⟩ := HE2.out W HU.out
        have q0 := blk_cell hz2 0
        have q1 := blk_cell hz2 1
        have q2 := blk_cell hz2 2
        clear hz2
        go_wp2
        refine bodyPost_ret (v := badV) (by unfold badV; simp [results, Tryz.results12, go_sem, q0, q1, q2, *]) rfl ⟨rfl, hz1⟩
      · have hd2 : decide (2 < how) = false := decide_eq_false hh2
        have hnr : (!decide (1099511627776 < absent) && !decide (absent < -1099511627776)) = false := by
          have := HBAD.out
          rw [hd0, hd2] at this
          simpa using this
        have HNR := Aside0.mk hnr
        clear hh0 hh2 HBAD hnr
        go_upto_region 3 with (go_at_call 49; refine (near_any absent W).mono ?_; rintro e w5 ⟨rfl, nq, rfl⟩; rw [HNR.out])
        have HU2 := Aside0.mk (HU.out.below (w := w) (W' := (W.alloc (.cells #[.int .i64 absent] 3)).drewN nq) (((Below.refl _ _).alloc (Nat.le_refl _) _).trans ⟨rfl, rfl, rfl, Nat.le_refl _, fun _ _ => rfl⟩))
        obtain ⟨W2, hW2⟩ : ∃ W2, W2 = (W.alloc (.cells #[.int .i64 absent] 3)).drewN nq := ⟨_, rfl⟩
        rw [← hW2] at HU2 ⊢
        clear hW2 k5 k60 k61 k62 kf0 kf1 kf2 k8
        obtain ⟨k5, k60, k61, k62, kf, k8⟩ := HU2.out.cells
        have kf0 := kf 0
        have kf1 := kf 1
        have kf2 := kf 2
        clear kf
        obtain ⟨hz1, hz2⟩ := HE2.out W2 HU2.out
        have q0 := blk_cell hz2 0
        have q1 := blk_cell hz2 1
        have q2 := blk_cell hz2 2
        clear hz2
        go_wp2
        refine bodyPost_ret (v := badV) (by unfold badV; simp [results, Tryz.results12, go_sem, q0, q1, q2, *]) rfl ⟨rfl, hz1⟩
end Go.Proofs.YtfkmpnpliadohaaGreat.R

set_option linter.unusedVariables false
set_option linter.unusedSimpArgs false
/- impl.UndirectWeighted of a good graph. -/
namespace Go.Proofs.YtfkmpnpliadohaaGreat.R
open Go.RowKit Go.Lab Go.Maps Go.Proofs.YtfkmpnpliadohaaGreatW.PrintWords Go.Proofs.YtfkmpnpliadohaaGreatW.PrintLast Go.Proofs.YtfkmpnpliadohaaGreatW.PrintMore PL

@[go_sem] theorem run_store_func {P : Program} {w : World} {a : Addr} {m : Mode} (f : Fn) (b c : Array Value) : (store a (.func f b c) m).run P w = stored P w a (.func f b c) m := run_store P w a _ m rfl

def undE (zs : List Int) (es : List S38) (absent how : Int) : List S38 := seenE (srt zs) (nbs zs es) (undV es absent how)

set_option maxHeartbeats 8000000 in
set_option maxRecDepth 100000 in
theorem uw_good (A1 A2 : Option Addr) (c1 c2 : Nat) (zs : List Int) (es : List S38) (absent how : Int) (w : World)
    (hN : Kd.C (Kd.int .i64) w A1 zs.length zs) (hE : Kd.C k38 w A2 es.length es) (hn : zs.length ≤ 1000) (he : es.length ≤ 1000000) (hwf : ∀ x ∈ zs, (Lit.int .i64 x).wf = true) (hok : readOk zs es = true) (hh : 0 ≤ how ∧ how ≤ 2) (ha : -1099511627776 ≤ absent ∧ absent ≤ 1099511627776) :
    Calls Tryz.prog 12 #[.agg #[.bool true, .slice A1 zs.length c1, .slice A2 es.length c2], .int .i64 absent, .int .i64 how] w fun e w' => ∃ vN vE, e = .returned (.tuple #[.agg #[.bool false, vN, vE], .bool false]) ∧ w'.ownsRow w.heap.size 3 1 vN (srt zs).length (nums .i64 (srt zs)) ∧
      w'.ownsRow w.heap.size 38 3 vE (undE zs es absent how).length (flE (undE zs es absent how)) ∧ Below w.heap.size w w' := by
  have hb1 : Below w.heap.size w (((w.alloc (.cells #[.bool true, .slice A1 zs.length c1, .slice A2 es.length c2] 25)).alloc (.cells #[.int .i64 how] 3)).alloc (.cells #[.bool false, .slice none 0 0, .slice none 0 0] 25)) := (((Below.refl _ _).alloc (Nat.le_refl _) _).alloc (by simp) _).alloc (by simp; omega) _
  have HN := Aside0.mk (Kd.C_below hN hb1)
  have HE := Aside0.mk (Kd.C_below hE hb1)
  have HOK := Aside0.mk hok
  have HH := Aside0.mk hh
  have HA := Aside0.mk ha
  have HWF := Aside0.mk hwf
  have hro : (readOk zs es && true) = true := by rw [hok]; rfl
  have hd0 : decide (how < 0) = false := by simp; omega
  have hd2 : decide (2 < how) = false := by simp; omega
  have hnr : (!decide (1099511627776 < absent) && !decide (absent < -1099511627776)) = true := by simp; omega
  have HNR := Aside0.mk hnr
  have HRB := Aside0.mk hro
  clear hN hE hb1 hok hh ha hwf hro hnr
  go_enter Tryz.func12, Tryz.ntmps12
  go_upto_region 2 with (go_at_call 48; refine (oneWay_any true A1 A2 c1 c2 zs es _ HN.out HE.out hn he).mono ?_; rintro e w1 ⟨base, bp, rfl, hbel, hpl⟩; rw [HRB.out]; have HU := Aside0.mk (uw_start true A1 A2 zs.length es.length c1 c2 how w w1 bp hbel); have HPL := Aside0.mk (hpl HOK.out); clear hpl)
  obtain ⟨W, hW⟩ : ∃ W, W = w1.alloc (.cells #[.pointer (some ⟨bp, 0, none⟩)] 75) := ⟨_, rfl⟩
  have HPW := Aside0.mk (show PlOk W base bp (plOf true zs es) from by rw [hW]; exact HPL.out.below ((Below.refl _ _).alloc (Nat.le_refl _) _))
  rw [← hW] at HU ⊢
  obtain ⟨b8, h8⟩ : ∃ b8, b8 = w1.heap.size := ⟨_, rfl⟩
  rw [← h8] at HU ⊢
  obtain ⟨b6, h6⟩ : ∃ b6, b6 = w.heap.size + 1 + 1 := ⟨_, rfl⟩
  rw [← h6] at HU ⊢
  obtain ⟨b5, h5⟩ : ∃ b5, b5 = w.heap.size + 1 := ⟨_, rfl⟩
  rw [← h5] at HU ⊢
  clear hbel hW h8 h6 h5 HPL
  obtain ⟨k5, k60, k61, k62, kf, k8⟩ := HU.out.cells
  have kf0 := kf 0
  have kf1 := kf 1
  have kf2 := kf 2
  clear kf
  go_upto_region 4 with (go_at_call 49; refine (near_any absent W).mono ?_; rintro e w5 ⟨rfl, nq, rfl⟩; rw [HNR.out])
  have hb2 : Below W.heap.size W ((W.alloc (.cells #[.int .i64 absent] 3)).drewN nq) := ((Below.refl _ _).alloc (Nat.le_refl _) _).trans ⟨rfl, rfl, rfl, Nat.le_refl _, fun _ _ => rfl⟩
  have HU2 := Aside0.mk (HU.out.below hb2)
  have HPW2 := Aside0.mk (HPW.out.below hb2)
  obtain ⟨W2, hW2⟩ : ∃ W2, W2 = (W.alloc (.cells #[.int .i64 absent] 3)).drewN nq := ⟨_, rfl⟩
  rw [← hW2] at HU2 HPW2 ⊢
  clear hW2 hb2 k5 k60 k61 k62 kf0 kf1 kf2 k8 HPW HU
  obtain ⟨k5, k60, k61, k62, kf, k8⟩ := HU2.out.cells
  clear kf
  go_upto_region 6 with fail
  obtain ⟨W3, hW3⟩ : ∃ W3, W3 = W2.alloc (.cells #[.iface 75 (.agg #[.pointer (some ⟨bp, 0, none⟩)]), .float .f64 (fI absent), .func (.func 50) #[] #[.pointer (some ⟨b5, 0, none⟩)]] 86) := ⟨_, rfl⟩
  have hb3 : Below W2.heap.size W2 W3 := by rw [hW3]; exact (Below.refl _ _).alloc (Nat.le_refl _) _
  have HU3 := Aside0.mk (HU2.out.below hb3)
  have hss : (srt zs).Pairwise (· < ·) := by
    have := HOK.out
    unfold readOk at this
    rw [Bool.and_eq_true] at this
    exact of_decide_eq_true this.1
  have hall : es.all (goodE zs) = true := by
    have := HOK.out
    unfold readOk at this
    rw [Bool.and_eq_true] at this
    exact this.2
  have k53 : W3.cell? ⟨b5, 0, none⟩ = some (.int .i64 how) := HU3.out.cells.1
  have HSO := Aside0.mk (show SeenOk W3 base bp b5 absent how zs es (plOf true zs es) from
    ⟨HPW2.out.below hb3, k53, HH.out, HA.out, hn, hss, hall, plOf_adj zs hn hss es hall, plOf_good true zs hn hss es hall, HWF.out⟩)
  have q : W3.heap[W2.heap.size]? = some (.cells #[.iface 75 (.agg #[.pointer (some ⟨bp, 0, none⟩)]), .float .f64 (fI absent), .func (.func 50) #[] #[.pointer (some ⟨b5, 0, none⟩)]] 86 (0, 0)) := by rw [hW3]; exact heap_alloc_new _ _
  have q0 : W3.cell? ⟨W2.heap.size, 0, none⟩ = some (.iface 75 (.agg #[.pointer (some ⟨bp, 0, none⟩)])) := (blk_cell q 0).trans rfl
  have q1 : W3.cell? ⟨W2.heap.size, 1, none⟩ = some (.float .f64 (fI absent)) := (blk_cell q 1).trans rfl
  have q2 : W3.cell? ⟨W2.heap.size, 2, none⟩ = some (.func (.func 50) #[] #[.pointer (some ⟨b5, 0, none⟩)]) := (blk_cell q 2).trans rfl
  rw [← hW3]
  clear hW3 hb3 q k5 k60 k61 k62 k8 hss hall HU2 HPW2
  go_wp2_with (go_at_call 51; refine (seen_any base bp b5 absent how zs es (plOf true zs es) _ HSO.out).mono ?_; rintro e W4 ⟨vN, vE, rfl, hoN, hoE, hbel⟩; have HS := Aside0.mk (And.intro hoN (And.intro hoE hbel)); obtain ⟨NA, NC, rfl⟩ := own_slice hoN; obtain ⟨EA, EC, rfl⟩ := own_slice hoE; have HU4 := Aside0.mk (HU3.out.below hbel); obtain ⟨k5, k60, k61, k62, kf, k8⟩ := HU4.out.cells; have kf0 := kf 0; have kf1 := kf 1; have kf2 := kf 2; clear kf hoN hoE hbel)
  obtain ⟨W5, hW5⟩ : ∃ W5, W5 = ((W4.setCell ⟨b6, 0, none⟩ (.bool false)).setCell ⟨b6, 1, none⟩ (.slice NA (srt zs).length NC)).setCell ⟨b6, 2, none⟩ (.slice EA (seenE (srt zs) (nbs zs es) (undV es absent how)).length EC) := ⟨_, rfl⟩
  have hWk : ∀ k, k ≠ b6 → W5.heap[k]? = W4.heap[k]? := fun k hk => by
    rw [hW5, Below.heap_setCell _ _ _ _ (by simpa using hk), Below.heap_setCell _ _ _ _ (by simpa using hk), Below.heap_setCell _ _ _ _ (by simpa using hk)]
  have hW6 := blk_set (blk_set (blk_set HU4.out.h6 0 (.bool false)) 1 (.slice NA (srt zs).length NC)) 2 (.slice EA (seenE (srt zs) (nbs zs es) (undV es absent how)).length EC)
  rw [← hW5] at hW6
  have hwb : Below w.heap.size w W5 := by
    rw [hW5]
    exact ((HU4.out.bel.setCell HU4.out.l6 _).setCell HU4.out.l6 _).setCell HU4.out.l6 _
  have hlo : w.heap.size ≤ W3.heap.size := HU3.out.bel.size
  have hWN := own_less (base := w.heap.size) (own_move (w1 := W5) HS.out.1 fun k hk => hWk k (by
    rintro rfl
    obtain ⟨c, hc⟩ := own_block HS.out.1 hk
    exact absurd (blk_type hc HU4.out.h6) (by decide))) hlo
  have hWE := own_less (base := w.heap.size) (own_move (w1 := W5) HS.out.2.1 fun k hk => hWk k (by
    rintro rfl
    obtain ⟨c, hc⟩ := own_block HS.out.2.1 hk
    exact absurd (blk_type hc HU4.out.h6) (by decide))) hlo
  have r0 : W5.cell? ⟨b6, 0, none⟩ = some (.bool false) := (blk_cell hW6 0).trans rfl
  have r1 : W5.cell? ⟨b6, 1, none⟩ = some (.slice NA (srt zs).length NC) := (blk_cell hW6 1).trans rfl
  have r2 : W5.cell? ⟨b6, 2, none⟩ = some (.slice EA (seenE (srt zs) (nbs zs es) (undV es absent how)).length EC) := (blk_cell hW6 2).trans rfl
  rw [← hW5]
  clear hW5
  refine bodyPost_ret (v := .tuple #[.agg #[.bool false, .slice NA (srt zs).length NC, .slice EA (seenE (srt zs) (nbs zs es) (undV es absent how)).length EC], .bool false]) (by simp [results, Tryz.results12, go_sem, r0, r1, r2]) rfl ⟨_, _, rfl, hWN, hWE, hwb⟩

theorem R_of_nums {w : World} {base : Nat} {e : TypeId} {v : Value} {xs : List Int} (h : w.ownsRow base e 1 v xs.length (nums .i64 xs)) : Kd.R (Kd.int .i64) e w base (fun _ => True) v xs := by
  refine ⟨fun _ _ => trivial, nums .i64 xs, h, by rw [nums_length]; exact (Nat.mul_one _).symm, fun j p hj => ?_⟩
  show List.take 1 (List.drop (j * 1) (nums .i64 xs)) = [.int .i64 p]
  obtain ⟨hl, rfl⟩ := List.getElem?_eq_some_iff.1 hj
  rw [Nat.mul_one, List.drop_eq_getElem_cons (by rw [nums_length]; exact hl)]
  simp [nums]

theorem R_of_flE {w : World} {base : Nat} {v : Value} {es : List S38} (h : w.ownsRow base 38 3 v es.length (flE es)) : Kd.R k38 38 w base (fun _ => True) v es := by
  refine ⟨fun _ _ => trivial, flE es, h, by rw [flE_length]; rfl, fun j p hj => ?_⟩
  obtain ⟨hl, rfl⟩ := List.getElem?_eq_some_iff.1 hj
  have e : List.take 3 (List.drop (j * 3) (flE es)) = enE es[j] := by
    apply List.ext_getElem?
    intro i
    rw [List.getElem?_take]
    by_cases hi : i < 3
    · rw [if_pos hi, List.getElem?_drop, flE_get es j hl i hi]
    · rw [if_neg hi, List.getElem?_eq_none (by simp [enE]; omega)]
  show k38.M _ _ _ _ (List.take 3 (List.drop (j * 3) (flE es)))
  rw [e]
  exact k38_mkM _ _ _ _
end Go.Proofs.YtfkmpnpliadohaaGreat.R

set_option linter.unusedVariables false
set_option linter.unusedSimpArgs false
/- The contract of impl.UndirectWeighted, in the printed contracts' form. -/
namespace Go.Proofs.YtfkmpnpliadohaaGreat.PL
open Go.RowKit Go.Lab Go.Proofs.YtfkmpnpliadohaaGreatW.PrintWords Go.Proofs.YtfkmpnpliadohaaGreatW.PrintLast Go.Proofs.YtfkmpnpliadohaaGreatW.PrintMore
def impl_UndirectWeighted.f (a0_0 : Bool) (l0_1 : List Int) (l0_2 : List S38) (a1 : Int) (a2 : Int) : Option (Bool × List Int × List S38 × Bool) :=
  if l0_1.length ≤ 1000 ∧ l0_2.length ≤ 1000000 ∧ (l0_1.all fun x => (Lit.int .i64 x).wf) = true then
    if R.uwOk a0_0 l0_1 l0_2 a1 a2 = true then some (false, srt l0_1, R.undE l0_1 l0_2 a1 a2, false) else some (false, [], [], true)
  else none
theorem impl_UndirectWeighted.calls (a0_0 : Bool) (A0_1 : Option Addr) (c0_1 : Nat) (l0_1 : List Int) (A0_2 : Option Addr) (c0_2 : Nat) (l0_2 : List S38) (a1 : Int) (a2 : Int) (r1 : Bool) (r2 : List Int) (r3 : List S38) (r4 : Bool) (w : World)
    (hr0_1 : Kd.C (Kd.int .i64) w A0_1 l0_1.length l0_1) (hc0_1 : l0_1.length ≤ c0_1) (hr0_2 : Kd.C k38 w A0_2 l0_2.length l0_2) (hc0_2 : l0_2.length ≤ c0_2) (h : impl_UndirectWeighted.f a0_0 l0_1 l0_2 a1 a2 = some (r1, r2, r3, r4)) :
    Calls Tryz.prog 12 #[.agg #[.bool a0_0, .slice A0_1 l0_1.length c0_1, .slice A0_2 l0_2.length c0_2], .int .i64 a1, .int .i64 a2] w fun e w' => ∃ v1_ v2_ : Value, e = .returned (.tuple #[.agg #[.bool r1, v1_, v2_], .bool r4]) ∧ Kd.R (Kd.int .i64) 3 w' w.heap.size (fun _ => True) v1_ r2 ∧ Kd.R k38 38 w' w.heap.size (fun _ => True) v2_ r3 ∧ Below w.heap.size w w' := by
  unfold impl_UndirectWeighted.f at h
  split at h
  · rename_i hc
    split at h
    · rename_i hgood
      injection h with h
      injection h with h1 h
      injection h with h2 h
      injection h with h3 h4
      subst h1 h2 h3 h4
      unfold R.uwOk at hgood
      simp only [Bool.and_eq_true, Bool.not_eq_true', decide_eq_false_iff_not] at hgood
      obtain ⟨⟨g1, g2⟩, g3, g4, g5, g6⟩ := hgood
      subst g2
      refine (R.uw_good A0_1 A0_2 c0_1 c0_2 l0_1 l0_2 a1 a2 w hr0_1 hr0_2 hc.1 hc.2.1 (List.all_eq_true.1 hc.2.2) g1 (by omega) (by omega)).mono ?_
      rintro e w' ⟨vN, vE, rfl, hN, hE, hb⟩
      exact ⟨vN, vE, rfl, R.R_of_nums hN, R.R_of_flE hE, hb⟩
    · rename_i hbad
      injection h with h
      injection h with h1 h
      injection h with h2 h
      injection h with h3 h4
      subst h1 h2 h3 h4
      refine (R.uw_bad a0_0 A0_1 A0_2 c0_1 c0_2 l0_1 l0_2 a1 a2 w hr0_1 hr0_2 hc.1 hc.2.1 (by simpa using hbad)).mono ?_
      rintro e w' ⟨rfl, hb⟩
      exact ⟨_, _, rfl, Kd.R_nil _ _ _ _ _, Kd.R_nil _ _ _ _ _, hb⟩
  · cases h
end Go.Proofs.YtfkmpnpliadohaaGreat.PL
