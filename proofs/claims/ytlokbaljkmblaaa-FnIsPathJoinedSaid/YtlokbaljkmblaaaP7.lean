import Derived.Test.YtlokbaljkmblaaaP6
namespace Go.Proofs.Ytlokbaljkmblaaa
open Go.RowKit Go.Lab Go.Proofs.YtlokbaljkmblaaaW.PrintWords Go.Proofs.YtlokbaljkmblaaaW.PrintLast Go.Proofs.YtlokbaljkmblaaaW.PrintMore PFnIsPathJoined

set_option maxHeartbeats 8000000 in
set_option maxRecDepth 100000 in
/-- the graph does not fit: true at once -/
theorem law_zz (d : Bool) (A1 A2 A3 A4 : Option Addr) (c1 c2 c3 c4 : Nat) (zs : List Int) (es : List S42) (na nb : Nat) (x : Int) (w : World)
    (hN : Kd.C (Kd.int .i64) w A1 zs.length zs) (hE : Kd.C k42 w A2 es.length es) (hc1 : zs.length ≤ c1) (hc2 : es.length ≤ c2)
    (hz : (decide (zs.length ≤ 2147483647) && decide (es.length ≤ 2147483647)) = false) :
    Calls Try.prog 3 #[.agg #[.bool d, .slice A1 zs.length c1, .slice A2 es.length c2], .slice A3 na c3, .slice A4 nb c4, .int .i64 x] w fun e w' => e = .returned (.bool true) ∧ Below w.heap.size w w' := by
  have hb1 : Below w.heap.size w (w.alloc (.cells #[.bool d, .slice A1 zs.length c1, .slice A2 es.length c2] 25)) := (Below.refl _ _).alloc (Nat.le_refl _) _
  have HN := Aside0.mk hN
  have HE := Aside0.mk hE
  have HZ := Aside0.mk hz
  have HL0 := Aside0.mk (show Lw w (w.alloc (.cells #[.bool d, .slice A1 zs.length c1, .slice A2 es.length c2] 25)) d (.slice A1 zs.length c1) (.slice A2 es.length c2) from ⟨hb1, heap_alloc_new _ _⟩)
  clear hN hE hb1 hz
  go_enter Try.func3, Try.ntmps3
  go_wp2_with fail
  refine (zz_any d A1 A2 c1 c2 zs es _ (Kd.C_below HN.out HL0.out.bel) (Kd.C_below HE.out HL0.out.bel) hc1 hc2).mono ?_
  rintro e w1 ⟨rfl, hbel⟩
  rw [HZ.out]
  have HL1 := Aside0.mk (HL0.out.below hbel)
  clear hbel HL0
  go_wp2
  go_ret
  exact ⟨rfl, HL1.out.bel⟩

set_option maxHeartbeats 8000000 in
set_option maxRecDepth 100000 in
/-- the first list is past the words' bound -/
theorem law_la (d : Bool) (A1 A2 A3 A4 : Option Addr) (c1 c2 c3 c4 : Nat) (zs : List Int) (es : List S42) (na nb : Nat) (x : Int) (w : World)
    (hN : Kd.C (Kd.int .i64) w A1 zs.length zs) (hE : Kd.C k42 w A2 es.length es) (hc1 : zs.length ≤ c1) (hc2 : es.length ≤ c2)
    (hz : (decide (zs.length ≤ 2147483647) && decide (es.length ≤ 2147483647)) = true) (hna : 2147483647 < na ∨ 2147483647 < nb) :
    Calls Try.prog 3 #[.agg #[.bool d, .slice A1 zs.length c1, .slice A2 es.length c2], .slice A3 na c3, .slice A4 nb c4, .int .i64 x] w fun e w' => e = .returned (.bool true) ∧ Below w.heap.size w w' := by
  have hb1 : Below w.heap.size w (w.alloc (.cells #[.bool d, .slice A1 zs.length c1, .slice A2 es.length c2] 25)) := (Below.refl _ _).alloc (Nat.le_refl _) _
  have HN := Aside0.mk hN
  have HE := Aside0.mk hE
  have HZ := Aside0.mk hz
  have HL0 := Aside0.mk (show Lw w (w.alloc (.cells #[.bool d, .slice A1 zs.length c1, .slice A2 es.length c2] 25)) d (.slice A1 zs.length c1) (.slice A2 es.length c2) from ⟨hb1, heap_alloc_new _ _⟩)
  clear hN hE hb1 hz
  by_cases ha : 2147483647 < na
  · have g1 : ((2147483647 : Int) < (na : Int)) := by omega
    clear hna ha
    go_enter Try.func3, Try.ntmps3
    go_wp2_with fail
    refine (zz_any d A1 A2 c1 c2 zs es _ (Kd.C_below HN.out HL0.out.bel) (Kd.C_below HE.out HL0.out.bel) hc1 hc2).mono ?_
    rintro e w1 ⟨rfl, hbel⟩
    rw [HZ.out]
    have HL1 := Aside0.mk (HL0.out.below hbel)
    clear hbel HL0
    go_wp2
    go_ret
    exact ⟨rfl, HL1.out.bel⟩
  · have g1 : ¬ ((2147483647 : Int) < (na : Int)) := by omega
    have g2 : ((2147483647 : Int) < (nb : Int)) := by omega
    clear hna ha
    go_enter Try.func3, Try.ntmps3
    go_wp2_with fail
    refine (zz_any d A1 A2 c1 c2 zs es _ (Kd.C_below HN.out HL0.out.bel) (Kd.C_below HE.out HL0.out.bel) hc1 hc2).mono ?_
    rintro e w1 ⟨rfl, hbel⟩
    rw [HZ.out]
    have HL1 := Aside0.mk (HL0.out.below hbel)
    clear hbel HL0
    go_wp2
    go_ret
    exact ⟨rfl, HL1.out.bel⟩

set_option maxHeartbeats 8000000 in
set_option maxRecDepth 100000 in
/-- the graph is too great, or one of the lists is -/
theorem law_few (d : Bool) (A1 A2 A3 A4 : Option Addr) (c1 c2 c3 c4 : Nat) (zs : List Int) (es : List S42) (na nb : Nat) (x : Int) (w : World)
    (hN : Kd.C (Kd.int .i64) w A1 zs.length zs) (hE : Kd.C k42 w A2 es.length es) (hc1 : zs.length ≤ c1) (hc2 : es.length ≤ c2)
    (hz : (decide (zs.length ≤ 2147483647) && decide (es.length ≤ 2147483647)) = true) (hna : na ≤ 2147483647) (hnb : nb ≤ 2147483647) (r : Bool) (hr : fewOk 40 zs es = r) (hc : r = true → 30 < na ∨ 30 < nb) :
    Calls Try.prog 3 #[.agg #[.bool d, .slice A1 zs.length c1, .slice A2 es.length c2], .slice A3 na c3, .slice A4 nb c4, .int .i64 x] w fun e w' => e = .returned (.bool true) ∧ Below w.heap.size w w' := by
  have hb1 : Below w.heap.size w (w.alloc (.cells #[.bool d, .slice A1 zs.length c1, .slice A2 es.length c2] 25)) := (Below.refl _ _).alloc (Nat.le_refl _) _
  have HN := Aside0.mk hN
  have HE := Aside0.mk hE
  have HZ := Aside0.mk hz
  have HF := Aside0.mk hr
  have HC := Aside0.mk hc
  have HL0 := Aside0.mk (show Lw w (w.alloc (.cells #[.bool d, .slice A1 zs.length c1, .slice A2 es.length c2] 25)) d (.slice A1 zs.length c1) (.slice A2 es.length c2) from ⟨hb1, heap_alloc_new _ _⟩)
  clear hN hE hb1 hz hr hc
  have g1 : ¬ ((2147483647 : Int) < (na : Int)) := by omega
  have g2 : ¬ ((2147483647 : Int) < (nb : Int)) := by omega
  go_enter Try.func3, Try.ntmps3
  go_wp2_with fail
  refine (zz_any d A1 A2 c1 c2 zs es _ (Kd.C_below HN.out HL0.out.bel) (Kd.C_below HE.out HL0.out.bel) hc1 hc2).mono ?_
  rintro e w1 ⟨rfl, hbel⟩
  rw [HZ.out]
  have HL1 := Aside0.mk (HL0.out.below hbel)
  clear hbel HL0
  obtain ⟨q0, q1, q2⟩ := HL1.out.cells
  go_wp2_with fail
  refine (few_any 40 (by omega) d A1 A2 c1 c2 zs es _ (Kd.C_below HN.out HL1.out.bel) (Kd.C_below HE.out HL1.out.bel) hc1).mono ?_
  rintro e w2 ⟨rfl, hbel⟩
  rw [HF.out]
  have HL2 := Aside0.mk (HL1.out.below hbel)
  clear hbel HL1 q0 q1 q2
  cases r with
  | false =>
    go_wp2
    go_ret
    exact ⟨rfl, HL2.out.bel⟩
  | true =>
    by_cases ha : 30 < na
    · have g3 : ((30 : Int) < (na : Int)) := by omega
      clear ha
      go_wp2
      go_ret
      exact ⟨rfl, HL2.out.bel⟩
    · have g3 : ¬ ((30 : Int) < (na : Int)) := by omega
      have g4 : ((30 : Int) < (nb : Int)) := by
        have := HC.out rfl
        omega
      clear ha
      go_wp2
      go_ret
      exact ⟨rfl, HL2.out.bel⟩

/-- FnIsPathJoined: true, whatever comes in. -/
theorem law_any (d : Bool) (A1 A2 A3 A4 : Option Addr) (c1 c2 c3 c4 : Nat) (zs : List Int) (es : List S42) (la lb : List Int) (x : Int) (w : World)
    (hN : Kd.C (Kd.int .i64) w A1 zs.length zs) (hE : Kd.C k42 w A2 es.length es) (hA : Kd.C (Kd.int .i64) w A3 la.length la) (hB : Kd.C (Kd.int .i64) w A4 lb.length lb)
    (hc1 : zs.length ≤ c1) (hc2 : es.length ≤ c2) :
    Calls Try.prog 3 #[.agg #[.bool d, .slice A1 zs.length c1, .slice A2 es.length c2], .slice A3 la.length c3, .slice A4 lb.length c4, .int .i64 x] w fun e w' => e = .returned (.bool true) ∧ Below w.heap.size w w' := by
  cases hz : (decide (zs.length ≤ 2147483647) && decide (es.length ≤ 2147483647)) with
  | false => exact law_zz d A1 A2 A3 A4 c1 c2 c3 c4 zs es la.length lb.length x w hN hE hc1 hc2 hz
  | true =>
    by_cases h1 : 2147483647 < la.length ∨ 2147483647 < lb.length
    · exact law_la d A1 A2 A3 A4 c1 c2 c3 c4 zs es la.length lb.length x w hN hE hc1 hc2 hz h1
    · by_cases h2 : fewOk 40 zs es = true ∧ la.length ≤ 30 ∧ lb.length ≤ 30
      · exact law_main d A1 A2 A3 A4 c1 c2 c3 c4 zs es la lb x w hN hE hA hB hc1 hc2 h2.1 h2.2.1 h2.2.2
      · exact law_few d A1 A2 A3 A4 c1 c2 c3 c4 zs es la.length lb.length x w hN hE hc1 hc2 hz (by omega) (by omega) _ rfl (fun hr => by
          by_cases h3 : 30 < la.length
          · exact .inl h3
          · exact .inr (by have : ¬ lb.length ≤ 30 := fun h4 => h2 ⟨hr, by omega, h4⟩
                           omega))
end Go.Proofs.Ytlokbaljkmblaaa
