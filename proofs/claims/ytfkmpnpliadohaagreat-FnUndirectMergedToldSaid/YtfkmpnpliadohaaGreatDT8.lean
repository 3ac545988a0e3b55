/- Printed by a program (the kit's printer, run over contracts that were proved by hand). -/
import Derived.Test.YtfkmpnpliadohaaGreatDT0
import Derived.Test.YtfkmpnpliadohaaGreatDT6
import Derived.Test.YtfkmpnpliadohaaGreatDT7
set_option linter.unusedVariables false
set_option linter.unusedSimpArgs false
namespace Go.Proofs.YtfkmpnpliadohaaGreat.PL
open Go.RowKit Go.Proofs.YtfkmpnpliadohaaGreatW.PrintWords Go.Proofs.YtfkmpnpliadohaaGreatW.PrintLast Go.Proofs.YtfkmpnpliadohaaGreatW.PrintMore
attribute [local go_sem] max2_int min2_int max_two min_two max_three min_three max_four min_four   -- for this text's walks alone
set_option linter.unusedVariables false
set_option linter.unusedSimpArgs false

/-! ### spec_UndirectWeighted: function 18 -/
mutual
def spec_UndirectWeighted.j0 : Nat → Int → Int → Bool → Bool → List Int → List (S38) → Option (Bool × List Int × (List (S38)) × Bool)
 | 0, _, _, _, _, _, _ => none
 | k + 1, x1, x2, x41, x245000, x245001, x245002 => if x41 = true then (some (false, ([] : List Int), ([] : List (S38)), true)) else ((spec_Nodes.f x245000 x245001 x245002).bind fun t247 => (spec_UndirectWeighted.l0 k x1 x2 t247 (t247.length : Int) 0 x245000 x245001 x245002 false t247 ([] : List (S38))))
def spec_UndirectWeighted.l0 : Nat → Int → Int → List Int → Int → Int → Bool → List Int → List (S38) → Bool → List Int → List (S38) → Option (Bool × List Int × (List (S38)) × Bool)
 | 0, _, _, _, _, _, _, _, _, _, _, _ => none
 | k + 1, x1, x2, x47, x48, x49, x245000, x245001, x245002, x246000, x246001, x246002 => if x49 < x48 then (if 0 ≤ x49 then (if x49 < (x47.length : Int) then (spec_UndirectWeighted.l1 k x1 x2 (rd x47 x49) x47 x48 x49 x246001 (x246001.length : Int) 0 x245000 x245001 x245002 x246000 x246001 x246002) else (none)) else (none)) else (some (x246000, x246001, x246002, false))
def spec_UndirectWeighted.l1 : Nat → Int → Int → Int → List Int → Int → Int → List Int → Int → Int → Bool → List Int → List (S38) → Bool → List Int → List (S38) → Option (Bool × List Int × (List (S38)) × Bool)
 | 0, _, _, _, _, _, _, _, _, _, _, _, _, _, _, _ => none
 | k + 1, x1, x2, x9, x47, x48, x49, x54, x55, x56, x245000, x245001, x245002, x246000, x246001, x246002 => if x56 < x55 then (if 0 ≤ x56 then (if x56 < (x54.length : Int) then (if x9 ≥ (rd x54 x56) then (spec_UndirectWeighted.j3 k x1 x2 x9 (rd x54 x56) x47 x48 x49 x54 x55 x56 true x245000 x245001 x245002 x246000 x246001 x246002) else ((spec_Touch.f k x245000 x245001 x245002 x9 (rd x54 x56)).bind fun t252 => (spec_UndirectWeighted.j3 k x1 x2 x9 (rd x54 x56) x47 x48 x49 x54 x55 x56 (!t252) x245000 x245001 x245002 x246000 x246001 x246002))) else (none)) else (none)) else (spec_UndirectWeighted.l0 k x1 x2 x47 x48 (wrap64 (x49 + 1)) x245000 x245001 x245002 x246000 x246001 x246002)
def spec_UndirectWeighted.j3 : Nat → Int → Int → Int → Int → List Int → Int → Int → List Int → Int → Int → Bool → Bool → List Int → List (S38) → Bool → List Int → List (S38) → Option (Bool × List Int × (List (S38)) × Bool)
 | 0, _, _, _, _, _, _, _, _, _, _, _, _, _, _, _, _, _ => none
 | k + 1, x1, x2, x9, x11, x47, x48, x49, x54, x55, x56, x69, x245000, x245001, x245002, x246000, x246001, x246002 => if x69 = true then (spec_UndirectWeighted.l1 k x1 x2 x9 x47 x48 x49 x54 x55 (wrap64 (x56 + 1)) x245000 x245001 x245002 x246000 x246001 x246002) else ((spec_Weight.f k x245000 x245001 x245002 x9 x11).bind fun bt253 => (if bt253.2 = true then (spec_UndirectWeighted.j4 k x1 x2 x9 x11 bt253.1 x1 x47 x48 x49 x54 x55 x56 x245000 x245001 x245002 x246000 x246001 x246002) else (spec_UndirectWeighted.j4 k x1 x2 x9 x11 x1 x1 x47 x48 x49 x54 x55 x56 x245000 x245001 x245002 x246000 x246001 x246002)))
def spec_UndirectWeighted.j4 : Nat → Int → Int → Int → Int → Int → Int → List Int → Int → Int → List Int → Int → Int → Bool → List Int → List (S38) → Bool → List Int → List (S38) → Option (Bool × List Int × (List (S38)) × Bool)
 | 0, _, _, _, _, _, _, _, _, _, _, _, _, _, _, _, _, _, _ => none
 | k + 1, x1, x2, x9, x11, x12, x13, x47, x48, x49, x54, x55, x56, x245000, x245001, x245002, x246000, x246001, x246002 => (spec_Weight.f k x245000 x245001 x245002 x11 x9).bind fun bt255 => (if bt255.2 = true then ((spec_merged.f x12 bt255.1 x2).bind fun t257 => (if x246002.length < 5864062014805 then (spec_UndirectWeighted.l1 k x1 x2 x9 x47 x48 x49 x54 x55 (wrap64 (x56 + 1)) x245000 x245001 x245002 x246000 x246001 (x246002 ++ [(⟨x9, x11, t257⟩ : S38)])) else (none))) else ((spec_merged.f x12 x13 x2).bind fun t261 => (if x246002.length < 5864062014805 then (spec_UndirectWeighted.l1 k x1 x2 x9 x47 x48 x49 x54 x55 (wrap64 (x56 + 1)) x245000 x245001 x245002 x246000 x246001 (x246002 ++ [(⟨x9, x11, t261⟩ : S38)])) else (none))))
end
def spec_UndirectWeighted.f (k : Nat) (a0_0 : Bool) (l0_1 : List Int) (l0_2 : List (S38)) (a1 : Int) (a2 : Int) : Option (Bool × List Int × (List (S38)) × Bool) := (spec_Well.f k a0_0 l0_1 l0_2).bind fun t246 => (if t246 = true then (if a0_0 = true then (if a2 < 0 then (spec_UndirectWeighted.j0 k a1 a2 true a0_0 l0_1 l0_2) else (if a2 > 2 then (spec_UndirectWeighted.j0 k a1 a2 true a0_0 l0_1 l0_2) else (if a1 > 1099511627776 then (spec_UndirectWeighted.j0 k a1 a2 true a0_0 l0_1 l0_2) else (spec_UndirectWeighted.j0 k a1 a2 (decide (a1 < (-1099511627776))) a0_0 l0_1 l0_2)))) else (spec_UndirectWeighted.j0 k a1 a2 true a0_0 l0_1 l0_2)) else (spec_UndirectWeighted.j0 k a1 a2 true a0_0 l0_1 l0_2))
theorem spec_UndirectWeighted.mono_l : ∀ k, (∀ y0 y1 y2 y3 y4 y5, LeO (spec_UndirectWeighted.j0 k y0 y1 y2 y3 y4 y5) (spec_UndirectWeighted.j0 (k + 1) y0 y1 y2 y3 y4 y5)) ∧ (∀ y0 y1 y2 y3 y4 y5 y6 y7 y8 y9 y10, LeO (spec_UndirectWeighted.l0 k y0 y1 y2 y3 y4 y5 y6 y7 y8 y9 y10) (spec_UndirectWeighted.l0 (k + 1) y0 y1 y2 y3 y4 y5 y6 y7 y8 y9 y10)) ∧ (∀ y0 y1 y2 y3 y4 y5 y6 y7 y8 y9 y10 y11 y12 y13 y14, LeO (spec_UndirectWeighted.l1 k y0 y1 y2 y3 y4 y5 y6 y7 y8 y9 y10 y11 y12 y13 y14) (spec_UndirectWeighted.l1 (k + 1) y0 y1 y2 y3 y4 y5 y6 y7 y8 y9 y10 y11 y12 y13 y14)) ∧ (∀ y0 y1 y2 y3 y4 y5 y6 y7 y8 y9 y10 y11 y12 y13 y14 y15 y16, LeO (spec_UndirectWeighted.j3 k y0 y1 y2 y3 y4 y5 y6 y7 y8 y9 y10 y11 y12 y13 y14 y15 y16) (spec_UndirectWeighted.j3 (k + 1) y0 y1 y2 y3 y4 y5 y6 y7 y8 y9 y10 y11 y12 y13 y14 y15 y16)) ∧ (∀ y0 y1 y2 y3 y4 y5 y6 y7 y8 y9 y10 y11 y12 y13 y14 y15 y16 y17, LeO (spec_UndirectWeighted.j4 k y0 y1 y2 y3 y4 y5 y6 y7 y8 y9 y10 y11 y12 y13 y14 y15 y16 y17) (spec_UndirectWeighted.j4 (k + 1) y0 y1 y2 y3 y4 y5 y6 y7 y8 y9 y10 y11 y12 y13 y14 y15 y16 y17))
 | 0 => ⟨fun _ _ _ _ _ _ r h => by simp [spec_UndirectWeighted.j0] at h, fun _ _ _ _ _ _ _ _ _ _ _ r h => by simp [spec_UndirectWeighted.l0] at h, fun _ _ _ _ _ _ _ _ _ _ _ _ _ _ _ r h => by simp [spec_UndirectWeighted.l1] at h, fun _ _ _ _ _ _ _ _ _ _ _ _ _ _ _ _ _ r h => by simp [spec_UndirectWeighted.j3] at h, fun _ _ _ _ _ _ _ _ _ _ _ _ _ _ _ _ _ _ r h => by simp [spec_UndirectWeighted.j4] at h⟩
 | k + 1 => by
  obtain ⟨ih0, ih1, ih2, ih3, ih4⟩ := spec_UndirectWeighted.mono_l k
  refine ⟨?_, ?_, ?_, ?_, ?_⟩
  ·intro y0 y1 y2 y3 y4 y5
   unfold spec_UndirectWeighted.j0
   repeat' first
   | (with_reducible exact ih0 _ _ _ _ _ _)
   | (with_reducible exact ih1 _ _ _ _ _ _ _ _ _ _ _)
   | (with_reducible exact ih2 _ _ _ _ _ _ _ _ _ _ _ _ _ _ _)
   | (with_reducible exact ih3 _ _ _ _ _ _ _ _ _ _ _ _ _ _ _ _ _)
   | (with_reducible exact ih4 _ _ _ _ _ _ _ _ _ _ _ _ _ _ _ _ _ _)
   | (with_reducible exact spec_Touch.mono _ _ _ _ _ _)
   | (with_reducible exact spec_Weight.mono _ _ _ _ _ _)
   | (with_reducible exact spec_Well.mono _ _ _ _)
   | (with_reducible exact LeO.refl _)
   | (with_reducible exact LeO.none _)
   | (with_reducible refine LeO.ite ?_ ?_)
   | (with_reducible refine LeO.bind ?_ (fun _ => ?_))
   | exact ih0 _ _ _ _ _ _
   | exact ih1 _ _ _ _ _ _ _ _ _ _ _
   | exact ih2 _ _ _ _ _ _ _ _ _ _ _ _ _ _ _
   | exact ih3 _ _ _ _ _ _ _ _ _ _ _ _ _ _ _ _ _
   | exact ih4 _ _ _ _ _ _ _ _ _ _ _ _ _ _ _ _ _ _
   | exact spec_Touch.mono _ _ _ _ _ _
   | exact spec_Weight.mono _ _ _ _ _ _
   | exact spec_Well.mono _ _ _ _
   | exact LeO.none _
   | refine LeO.ite ?_ ?_
   | refine LeO.bind ?_ (fun _ => ?_)
  ·intro y0 y1 y2 y3 y4 y5 y6 y7 y8 y9 y10
   unfold spec_UndirectWeighted.l0
   repeat' first
   | (with_reducible exact ih0 _ _ _ _ _ _)
   | (with_reducible exact ih1 _ _ _ _ _ _ _ _ _ _ _)
   | (with_reducible exact ih2 _ _ _ _ _ _ _ _ _ _ _ _ _ _ _)
   | (with_reducible exact ih3 _ _ _ _ _ _ _ _ _ _ _ _ _ _ _ _ _)
   | (with_reducible exact ih4 _ _ _ _ _ _ _ _ _ _ _ _ _ _ _ _ _ _)
   | (with_reducible exact spec_Touch.mono _ _ _ _ _ _)
   | (with_reducible exact spec_Weight.mono _ _ _ _ _ _)
   | (with_reducible exact spec_Well.mono _ _ _ _)
   | (with_reducible exact LeO.refl _)
   | (with_reducible exact LeO.none _)
   | (with_reducible refine LeO.ite ?_ ?_)
   | (with_reducible refine LeO.bind ?_ (fun _ => ?_))
   | exact ih0 _ _ _ _ _ _
   | exact ih1 _ _ _ _ _ _ _ _ _ _ _
   | exact ih2 _ _ _ _ _ _ _ _ _ _ _ _ _ _ _
   | exact ih3 _ _ _ _ _ _ _ _ _ _ _ _ _ _ _ _ _
   | exact ih4 _ _ _ _ _ _ _ _ _ _ _ _ _ _ _ _ _ _
   | exact spec_Touch.mono _ _ _ _ _ _
   | exact spec_Weight.mono _ _ _ _ _ _
   | exact spec_Well.mono _ _ _ _
   | exact LeO.none _
   | refine LeO.ite ?_ ?_
   | refine LeO.bind ?_ (fun _ => ?_)
  ·intro y0 y1 y2 y3 y4 y5 y6 y7 y8 y9 y10 y11 y12 y13 y14
   unfold spec_UndirectWeighted.l1
   repeat' first
   | (with_reducible exact ih0 _ _ _ _ _ _)
   | (with_reducible exact ih1 _ _ _ _ _ _ _ _ _ _ _)
   | (with_reducible exact ih2 _ _ _ _ _ _ _ _ _ _ _ _ _ _ _)
   | (with_reducible exact ih3 _ _ _ _ _ _ _ _ _ _ _ _ _ _ _ _ _)
   | (with_reducible exact ih4 _ _ _ _ _ _ _ _ _ _ _ _ _ _ _ _ _ _)
   | (with_reducible exact spec_Touch.mono _ _ _ _ _ _)
   | (with_reducible exact spec_Weight.mono _ _ _ _ _ _)
   | (with_reducible exact spec_Well.mono _ _ _ _)
   | (with_reducible exact LeO.refl _)
   | (with_reducible exact LeO.none _)
   | (with_reducible refine LeO.ite ?_ ?_)
   | (with_reducible refine LeO.bind ?_ (fun _ => ?_))
   | exact ih0 _ _ _ _ _ _
   | exact ih1 _ _ _ _ _ _ _ _ _ _ _
   | exact ih2 _ _ _ _ _ _ _ _ _ _ _ _ _ _ _
   | exact ih3 _ _ _ _ _ _ _ _ _ _ _ _ _ _ _ _ _
   | exact ih4 _ _ _ _ _ _ _ _ _ _ _ _ _ _ _ _ _ _
   | exact spec_Touch.mono _ _ _ _ _ _
   | exact spec_Weight.mono _ _ _ _ _ _
   | exact spec_Well.mono _ _ _ _
   | exact LeO.none _
   | refine LeO.ite ?_ ?_
   | refine LeO.bind ?_ (fun _ => ?_)
  ·intro y0 y1 y2 y3 y4 y5 y6 y7 y8 y9 y10 y11 y12 y13 y14 y15 y16
   unfold spec_UndirectWeighted.j3
   repeat' first
   | (with_reducible exact ih0 _ _ _ _ _ _)
   | (with_reducible exact ih1 _ _ _ _ _ _ _ _ _ _ _)
   | (with_reducible exact ih2 _ _ _ _ _ _ _ _ _ _ _ _ _ _ _)
   | (with_reducible exact ih3 _ _ _ _ _ _ _ _ _ _ _ _ _ _ _ _ _)
   | (with_reducible exact ih4 _ _ _ _ _ _ _ _ _ _ _ _ _ _ _ _ _ _)
   | (with_reducible exact spec_Touch.mono _ _ _ _ _ _)
   | (with_reducible exact spec_Weight.mono _ _ _ _ _ _)
   | (with_reducible exact spec_Well.mono _ _ _ _)
   | (with_reducible exact LeO.refl _)
   | (with_reducible exact LeO.none _)
   | (with_reducible refine LeO.ite ?_ ?_)
   | (with_reducible refine LeO.bind ?_ (fun _ => ?_))
   | exact ih0 _ _ _ _ _ _
   | exact ih1 _ _ _ _ _ _ _ _ _ _ _
   | exact ih2 _ _ _ _ _ _ _ _ _ _ _ _ _ _ _
   | exact ih3 _ _ _ _ _ _ _ _ _ _ _ _ _ _ _ _ _
   | exact ih4 _ _ _ _ _ _ _ _ _ _ _ _ _ _ _ _ _ _
   | exact spec_Touch.mono _ _ _ _ _ _
   | exact spec_Weight.mono _ _ _ _ _ _
   | exact spec_Well.mono _ _ _ _
   | exact LeO.none _
   | refine LeO.ite ?_ ?_
   | refine LeO.bind ?_ (fun _ => ?_)
  ·intro y0 y1 y2 y3 y4 y5 y6 y7 y8 y9 y10 y11 y12 y13 y14 y15 y16 y17
   unfold spec_UndirectWeighted.j4
   repeat' first
   | (with_reducible exact ih0 _ _ _ _ _ _)
   | (with_reducible exact ih1 _ _ _ _ _ _ _ _ _ _ _)
   | (with_reducible exact ih2 _ _ _ _ _ _ _ _ _ _ _ _ _ _ _)
   | (with_reducible exact ih3 _ _ _ _ _ _ _ _ _ _ _ _ _ _ _ _ _)
   | (with_reducible exact ih4 _ _ _ _ _ _ _ _ _ _ _ _ _ _ _ _ _ _)
   | (with_reducible exact spec_Touch.mono _ _ _ _ _ _)
   | (with_reducible exact spec_Weight.mono _ _ _ _ _ _)
   | (with_reducible exact spec_Well.mono _ _ _ _)
   | (with_reducible exact LeO.refl _)
   | (with_reducible exact LeO.none _)
   | (with_reducible refine LeO.ite ?_ ?_)
   | (with_reducible refine LeO.bind ?_ (fun _ => ?_))
   | exact ih0 _ _ _ _ _ _
   | exact ih1 _ _ _ _ _ _ _ _ _ _ _
   | exact ih2 _ _ _ _ _ _ _ _ _ _ _ _ _ _ _
   | exact ih3 _ _ _ _ _ _ _ _ _ _ _ _ _ _ _ _ _
   | exact ih4 _ _ _ _ _ _ _ _ _ _ _ _ _ _ _ _ _ _
   | exact spec_Touch.mono _ _ _ _ _ _
   | exact spec_Weight.mono _ _ _ _ _ _
   | exact spec_Well.mono _ _ _ _
   | exact LeO.none _
   | refine LeO.ite ?_ ?_
   | refine LeO.bind ?_ (fun _ => ?_)
theorem spec_UndirectWeighted.mono : ∀ a0 a1 a2 a3 a4 k, LeO (spec_UndirectWeighted.f k a0 a1 a2 a3 a4) (spec_UndirectWeighted.f (k + 1) a0 a1 a2 a3 a4) := by
 intro a0 a1 a2 a3 a4 k
 obtain ⟨ih0, ih1, ih2, ih3, ih4⟩ := spec_UndirectWeighted.mono_l k
 unfold spec_UndirectWeighted.f
 repeat' first
   | (with_reducible exact ih0 _ _ _ _ _ _)
   | (with_reducible exact ih1 _ _ _ _ _ _ _ _ _ _ _)
   | (with_reducible exact ih2 _ _ _ _ _ _ _ _ _ _ _ _ _ _ _)
   | (with_reducible exact ih3 _ _ _ _ _ _ _ _ _ _ _ _ _ _ _ _ _)
   | (with_reducible exact ih4 _ _ _ _ _ _ _ _ _ _ _ _ _ _ _ _ _ _)
   | (with_reducible exact spec_Touch.mono _ _ _ _ _ _)
   | (with_reducible exact spec_Weight.mono _ _ _ _ _ _)
   | (with_reducible exact spec_Well.mono _ _ _ _)
   | (with_reducible exact LeO.refl _)
   | (with_reducible exact LeO.none _)
   | (with_reducible refine LeO.ite ?_ ?_)
   | (with_reducible refine LeO.bind ?_ (fun _ => ?_))
   | exact ih0 _ _ _ _ _ _
   | exact ih1 _ _ _ _ _ _ _ _ _ _ _
   | exact ih2 _ _ _ _ _ _ _ _ _ _ _ _ _ _ _
   | exact ih3 _ _ _ _ _ _ _ _ _ _ _ _ _ _ _ _ _
   | exact ih4 _ _ _ _ _ _ _ _ _ _ _ _ _ _ _ _ _ _
   | exact spec_Touch.mono _ _ _ _ _ _
   | exact spec_Weight.mono _ _ _ _ _ _
   | exact spec_Well.mono _ _ _ _
   | exact LeO.none _
   | refine LeO.ite ?_ ?_
   | refine LeO.bind ?_ (fun _ => ?_)
def spec_UndirectWeighted.T18 : Bool × List (List Nat × List Nat) := (true, [([], []), ([0], [0]), ([], []), ([], []), ([], []), ([], []), ([], []), ([4, 5, 6], [4, 5, 6]), ([2, 3, 7], [2, 3, 7]), ([8], [8]), ([1, 9, 7], [1, 9]), ([0, 1, 2, 3, 4, 5, 6, 7, 8, 9, 10], []), ([11, 10, 10, 0, 1, 2, 3, 4, 5, 6, 7, 8, 9, 10], [10, 11])])
def spec_UndirectWeighted.B18 : List Nat := [0, 1, 0, 0, 0, 0, 0, 112, 252, 508, 1023, 2047, 4095]
theorem spec_UndirectWeighted.tab18 : rtab .any (opsOf Tryz.f18 18) = spec_UndirectWeighted.T18 := by kernel_rfl
theorem spec_UndirectWeighted.bits18 : waitsOk spec_UndirectWeighted.T18.2 spec_UndirectWeighted.B18 = true := by kernel_rfl
set_option maxHeartbeats 8000000 in
set_option maxRecDepth 100000 in
theorem spec_UndirectWeighted.calls (k : Nat) (a0_0 : Bool) (A0_1 : Option Addr) (c0_1 : Nat) (l0_1 : List Int) (A0_2 : Option Addr) (c0_2 : Nat) (l0_2 : List (S38)) (a1 : Int) (a2 : Int) (r1 : Bool) (r2 : List Int) (r3 : List (S38)) (r4 : Bool) (w : World) (hr0_1 : Kd.C (Kd.int .i64) w A0_1 l0_1.length l0_1) (hc0_1 : l0_1.length ≤ c0_1) (hr0_2 : Kd.C k38 w A0_2 l0_2.length l0_2) (hc0_2 : l0_2.length ≤ c0_2) (h : spec_UndirectWeighted.f k a0_0 l0_1 l0_2 a1 a2 = some (r1, r2, r3, r4)) :
  Calls Tryz.prog 18 #[.agg #[.bool a0_0, .slice A0_1 l0_1.length c0_1, .slice A0_2 l0_2.length c0_2], .int .i64 a1, .int .i64 a2] w fun e w' => ∃ v1_ v2_ : Value, e = .returned (.tuple #[.agg #[.bool r1, v1_, v2_], .bool r4]) ∧ Kd.R (Kd.int .i64) 3 w' w.heap.size (fun _ => True) v1_ r2 ∧ Kd.R k38 38 w' w.heap.size (fun _ => True) v2_ r3 ∧ Below w.heap.size w w' := by
 have hu25 := Tryz.underlying25
 have hu38 := Tryz.underlying38
 have HR0_1 := Aside0.mk hr0_1
 have HC0_1 := Aside0.mk hc0_1
 clear hr0_1 hc0_1
 have HR0_2 := Aside0.mk hr0_2
 have HC0_2 := Aside0.mk hc0_2
 clear hr0_2 hc0_2
 have HB := Aside0.mk (Below.refl w.heap.size w)
 have H : ((spec_Well.f k a0_0 l0_1 l0_2).bind fun t246 => (if t246 = true then (if a0_0 = true then (if a2 < 0 then (spec_UndirectWeighted.j0 k a1 a2 true a0_0 l0_1 l0_2) else (if a2 > 2 then (spec_UndirectWeighted.j0 k a1 a2 true a0_0 l0_1 l0_2) else (if a1 > 1099511627776 then (spec_UndirectWeighted.j0 k a1 a2 true a0_0 l0_1 l0_2) else (spec_UndirectWeighted.j0 k a1 a2 (decide (a1 < (-1099511627776))) a0_0 l0_1 l0_2)))) else (spec_UndirectWeighted.j0 k a1 a2 true a0_0 l0_1 l0_2)) else (spec_UndirectWeighted.j0 k a1 a2 true a0_0 l0_1 l0_2))) = some (r1, r2, r3, r4) := h
 clear h
 have HC4 := Aside0.mk H
 clear H
 go_enter Tryz.func18, Tryz.ntmps18
 go_upto_region 1 with (first | ((with_reducible refine gate_dst (N := 3) rfl ?_); refine box_event ?hg (N := 3) ?hd (cs := #[.bool a0_0, .slice A0_1 l0_1.length c0_1, .slice A0_2 l0_2.length c0_2]) (t := 25) ?hr ?_; (case hd => rfl); (case hg => rfl); (case hr => first | (go_simp; done) | (go_simp; rfl)); intro gb244 hg w5 hbox hb; have n0_ := Aside0.mk (below_step (by repeat (first | (with_reducible first | exact HB.out | apply below_alloc | apply pw_below_drewN | apply below_drew1) | exact HB.out)) hb); have n1_ := Aside0.mk (hbox); have n2_ := Aside0.mk ((by rw [hg]; exact (below_size (by repeat (first | (with_reducible first | exact HB.out | apply below_alloc | apply pw_below_drewN | apply below_drew1) | exact HB.out))) : w.heap.size ≤ gb244)); have n3_ := Aside0.mk ((by rw [hg]; exact (below_size (by repeat (first | (with_reducible first | exact HB.out | apply below_alloc | apply pw_below_drewN | apply below_drew1) | exact HB.out))) : w.heap.size ≤ gb244)); clear HB; have HB := n0_; have BK244 := n1_; have GW244 := n2_; have GE244 := n3_; clear n0_ n1_ n2_ n3_; clear hb hbox hg) | ((with_reducible refine gate_dst (N := 6) rfl ?_); refine box_event ?hg (N := 6) ?hd (cs := #[.bool false, .slice none 0 0, .slice none 0 0]) (t := 25) ?hr ?_; (case hd => rfl); (case hg => rfl); (case hr => first | (go_simp; done) | (go_simp; rfl)); intro gb245 hg w6 hbox hb; have n0_ := Aside0.mk (blk_below (g := gb244) (o := .cells #[.bool a0_0, .slice A0_1 l0_1.length c0_1, .slice A0_2 l0_2.length c0_2] 25 (0, 0)) (by (with_reducible repeat (first | refine blk_drewN ?_ _ | refine blk_drew ?_ | refine blk_alloc ?_ _)); exact BK244.out) hb); have n1_ := Aside0.mk (below_step (by repeat (first | (with_reducible first | exact HB.out | apply below_alloc | apply pw_below_drewN | apply below_drew1 | refine below_set ?_ GE244.out) | exact HB.out)) hb); have n2_ := Aside0.mk (hbox); have n3_ := Aside0.mk ((by rw [hg]; exact (below_size (by repeat (first | (with_reducible first | exact HB.out | apply below_alloc | apply pw_below_drewN | apply below_drew1 | refine below_set ?_ GE244.out) | exact HB.out))) : w.heap.size ≤ gb245)); have n4_ := Aside0.mk ((by rw [hg]; exact (below_size (by repeat (first | (with_reducible first | exact HB.out | apply below_alloc | apply pw_below_drewN | apply below_drew1 | refine below_set ?_ GE244.out) | exact HB.out))) : w.heap.size ≤ gb245)); have n5_ := Aside0.mk ((by rw [hg]; exact Nat.ne_of_lt (blk_lt (g := gb244) (o := .cells #[.bool a0_0, .slice A0_1 l0_1.length c0_1, .slice A0_2 l0_2.length c0_2] 25 (0, 0)) (by (with_reducible repeat (first | refine blk_drewN ?_ _ | refine blk_drew ?_ | refine blk_alloc ?_ _)); exact BK244.out)) : gb244 ≠ gb245)); have n6_ := Aside0.mk ((by rw [hg]; exact Nat.ne_of_gt (blk_lt (g := gb244) (o := .cells #[.bool a0_0, .slice A0_1 l0_1.length c0_1, .slice A0_2 l0_2.length c0_2] 25 (0, 0)) (by (with_reducible repeat (first | refine blk_drewN ?_ _ | refine blk_drew ?_ | refine blk_alloc ?_ _)); exact BK244.out)) : gb245 ≠ gb244)); clear BK244; clear HB; have BK244 := n0_; have HB := n1_; have BK245 := n2_; have GW245 := n3_; have GE245 := n4_; have NB244_245 := n5_; have NB245_244 := n6_; clear n0_ n1_ n2_ n3_ n4_ n5_ n6_; clear hb hbox hg))
 (try simp only [Act.put, List.setIfInBounds_toArray, List.set_cons_zero, List.set_cons_succ])
 go_cut [41] (fun v41 wc => ∃ (kq : Nat) (x41_3 : Bool), v41 = .bool x41_3 ∧ Aside0 (spec_UndirectWeighted.j0 kq a1 a2 x41_3 a0_0 l0_1 l0_2 = some (r1, r2, r3, r4)) ∧ Aside0 (kq ≤ k) ∧ Aside0 (wc.heap[gb244]? = some (.cells #[.bool a0_0, (.slice A0_1 l0_1.length c0_1), (.slice A0_2 l0_2.length c0_2)] 25 (0, 0))) ∧ Aside0 (wc.heap[gb245]? = some (.cells #[.bool false, (.slice none 0 0), (.slice none 0 0)] 25 (0, 0))) ∧ Aside0 (Below w.heap.size w wc))
 case first =>
  have H := HC4.out
  clear HC4
  replace H := Option.bind_eq_some_iff.mp H
  obtain ⟨t246, A70, H⟩ := H
  replace H : (if t246 = true then (if a0_0 = true then (if a2 < 0 then (spec_UndirectWeighted.j0 k a1 a2 true a0_0 l0_1 l0_2) else (if a2 > 2 then (spec_UndirectWeighted.j0 k a1 a2 true a0_0 l0_1 l0_2) else (if a1 > 1099511627776 then (spec_UndirectWeighted.j0 k a1 a2 true a0_0 l0_1 l0_2) else (spec_UndirectWeighted.j0 k a1 a2 (decide (a1 < (-1099511627776))) a0_0 l0_1 l0_2)))) else (spec_UndirectWeighted.j0 k a1 a2 true a0_0 l0_1 l0_2)) else (spec_UndirectWeighted.j0 k a1 a2 true a0_0 l0_1 l0_2)) = some (r1, r2, r3, r4) := H
  have A7 := Aside0.mk A70
  clear A70
  by_cases c8 : t246 = true
  ·subst c8
   have H1 : (if a0_0 = true then (if a2 < 0 then (spec_UndirectWeighted.j0 k a1 a2 true a0_0 l0_1 l0_2) else (if a2 > 2 then (spec_UndirectWeighted.j0 k a1 a2 true a0_0 l0_1 l0_2) else (if a1 > 1099511627776 then (spec_UndirectWeighted.j0 k a1 a2 true a0_0 l0_1 l0_2) else (spec_UndirectWeighted.j0 k a1 a2 (decide (a1 < (-1099511627776))) a0_0 l0_1 l0_2)))) else (spec_UndirectWeighted.j0 k a1 a2 true a0_0 l0_1 l0_2)) = some (r1, r2, r3, r4) := by rw [if_pos rfl] at H; exact H
   clear H
   have H := H1
   clear H1
   by_cases c9 : a0_0 = true
   ·subst c9
    have H1 : (if a2 < 0 then (spec_UndirectWeighted.j0 k a1 a2 true true l0_1 l0_2) else (if a2 > 2 then (spec_UndirectWeighted.j0 k a1 a2 true true l0_1 l0_2) else (if a1 > 1099511627776 then (spec_UndirectWeighted.j0 k a1 a2 true true l0_1 l0_2) else (spec_UndirectWeighted.j0 k a1 a2 (decide (a1 < (-1099511627776))) true l0_1 l0_2)))) = some (r1, r2, r3, r4) := by rw [if_pos rfl] at H; exact H
    clear H
    have H := H1
    clear H1
    by_cases c10 : a2 < 0
    ·rw [if_pos c10] at H
     have c10b0 : decide (a2 < 0) = true := decide_eq_true c10
     clear c10
     (first | rw [c10b0] | (simp only [i64_w, i32_w]; rw [c10b0]) | skip)
     have H' := Aside0.mk H
     clear H
     have hnb11 := NB244_245.out
     have hnc11 := NB245_244.out
     have hcz12_0 : w6.cell? ⟨gb244, 0, none⟩ = some (.bool true) := (blk_cell BK244.out 0).trans rfl
     have hcz12_1 : w6.cell? ⟨gb244, 1, none⟩ = some (.slice A0_1 l0_1.length c0_1) := (blk_cell BK244.out 1).trans rfl
     have hcz12_2 : w6.cell? ⟨gb244, 2, none⟩ = some (.slice A0_2 l0_2.length c0_2) := (blk_cell BK244.out 2).trans rfl
     have hfz12_0 := blk_frozen BK244.out 0
     have hfz12_1 := blk_frozen BK244.out 1
     have hfz12_2 := blk_frozen BK244.out 2
     go_wp2_with (first | ((with_reducible refine gate_callee (f := 57) rfl ?_); refine goesL_ (some 19) rfl rfl Tryz.func57 (by kernel_rfl) rfl #[.agg #[.bool true, .slice A0_1 l0_1.length c0_1, .slice A0_2 l0_2.length c0_2]] rfl (by (try simp only [List.map_toArray, List.map_cons, List.map_nil]); first | done | rfl | (simp only [List.length_drop, List.length_take]; rfl)) ?_; (with_reducible refine (spec_Well.calls k true _ _ l0_1 _ _ l0_2 true _ ?side1 ?side2 ?side3 ?side4 A7.out).mono ?_); (case side1 => repeat (first | exact (Kd.C_below HR0_1.out HB.out) | (with_reducible refine Kd.C_alloc ?_ _) | (with_reducible refine Kd.C_drewN ?_ _) | (with_reducible refine Kd.C_drew ?_))); (case side2 => exact HC0_1.out); (case side3 => repeat (first | exact (Kd.C_below HR0_2.out HB.out) | (with_reducible refine Kd.C_alloc ?_ _) | (with_reducible refine Kd.C_drewN ?_ _) | (with_reducible refine Kd.C_drew ?_))); (case side4 => exact HC0_2.out); rintro e w13 ⟨rfl, hb⟩; refine ⟨_, rfl, ?_⟩; have n0_ := Aside0.mk (blk_below (g := gb244) (o := .cells #[.bool true, .slice A0_1 l0_1.length c0_1, .slice A0_2 l0_2.length c0_2] 25 (0, 0)) (by (with_reducible repeat (first | refine blk_drewN ?_ _ | refine blk_drew ?_ | refine blk_alloc ?_ _)); exact BK244.out) hb); have n1_ := Aside0.mk (blk_below (g := gb245) (o := .cells #[.bool false, .slice none 0 0, .slice none 0 0] 25 (0, 0)) (by (with_reducible repeat (first | refine blk_drewN ?_ _ | refine blk_drew ?_ | refine blk_alloc ?_ _)); exact BK245.out) hb); have n2_ := Aside0.mk (below_step (by repeat (first | (with_reducible first | exact HB.out | apply below_alloc | apply pw_below_drewN | apply below_drew1 | refine below_set ?_ GE244.out | refine below_set ?_ GE245.out) | exact HB.out)) hb); clear BK244; clear BK245; clear HB; have BK244 := n0_; have BK245 := n1_; have HB := n2_; clear n0_ n1_ n2_; (try clear hb); (try clear hb2); (try clear hk); (try clear hi); have hcz14_0 : w13.cell? ⟨gb244, 0, none⟩ = some (.bool true) := (blk_cell BK244.out 0).trans rfl; have hcz14_1 : w13.cell? ⟨gb244, 1, none⟩ = some (.slice A0_1 l0_1.length c0_1) := (blk_cell BK244.out 1).trans rfl; have hcz14_2 : w13.cell? ⟨gb244, 2, none⟩ = some (.slice A0_2 l0_2.length c0_2) := (blk_cell BK244.out 2).trans rfl; have hfz14_0 := blk_frozen BK244.out 0; have hfz14_1 := blk_frozen BK244.out 1; have hfz14_2 := blk_frozen BK244.out 2))
     go_meet
     case rel => exact ⟨_, (true), (by first | rfl | (simp; done) | (simp [*]; done)), H', ⟨by first | omega | exact Nat.le_refl _⟩, ⟨by (with_reducible repeat (first | refine blk_drewN ?_ _ | refine blk_drew ?_ | refine blk_alloc ?_ _)); exact BK244.out⟩, ⟨by (with_reducible repeat (first | refine blk_drewN ?_ _ | refine blk_drew ?_ | refine blk_alloc ?_ _)); exact BK245.out⟩, ⟨by repeat (first | (with_reducible first | exact HB.out | apply below_alloc | apply pw_below_drewN | apply below_drew1 | refine below_set ?_ GE244.out | refine below_set ?_ GE245.out) | exact HB.out)⟩⟩
    ·rw [if_neg c10] at H
     have c10b0 : decide (a2 < 0) = false := decide_eq_false c10
     clear c10
     (first | rw [c10b0] | (simp only [i64_w, i32_w]; rw [c10b0]) | skip)
     by_cases c15 : a2 > 2
     ·rw [if_pos c15] at H
      have c15b0 : decide (2 < a2) = true := decide_eq_true c15
      clear c15
      have H' := Aside0.mk H
      clear H
      have hnb16 := NB244_245.out
      have hnc16 := NB245_244.out
      have hcz17_0 : w6.cell? ⟨gb244, 0, none⟩ = some (.bool true) := (blk_cell BK244.out 0).trans rfl
      have hcz17_1 : w6.cell? ⟨gb244, 1, none⟩ = some (.slice A0_1 l0_1.length c0_1) := (blk_cell BK244.out 1).trans rfl
      have hcz17_2 : w6.cell? ⟨gb244, 2, none⟩ = some (.slice A0_2 l0_2.length c0_2) := (blk_cell BK244.out 2).trans rfl
      have hfz17_0 := blk_frozen BK244.out 0
      have hfz17_1 := blk_frozen BK244.out 1
      have hfz17_2 := blk_frozen BK244.out 2
      go_wp2_with (first | ((with_reducible refine gate_callee (f := 57) rfl ?_); refine goesL_ (some 19) rfl rfl Tryz.func57 (by kernel_rfl) rfl #[.agg #[.bool true, .slice A0_1 l0_1.length c0_1, .slice A0_2 l0_2.length c0_2]] rfl (by (try simp only [List.map_toArray, List.map_cons, List.map_nil]); first | done | rfl | (simp only [List.length_drop, List.length_take]; rfl)) ?_; (with_reducible refine (spec_Well.calls k true _ _ l0_1 _ _ l0_2 true _ ?side1 ?side2 ?side3 ?side4 A7.out).mono ?_); (case side1 => repeat (first | exact (Kd.C_below HR0_1.out HB.out) | (with_reducible refine Kd.C_alloc ?_ _) | (with_reducible refine Kd.C_drewN ?_ _) | (with_reducible refine Kd.C_drew ?_))); (case side2 => exact HC0_1.out); (case side3 => repeat (first | exact (Kd.C_below HR0_2.out HB.out) | (with_reducible refine Kd.C_alloc ?_ _) | (with_reducible refine Kd.C_drewN ?_ _) | (with_reducible refine Kd.C_drew ?_))); (case side4 => exact HC0_2.out); rintro e w18 ⟨rfl, hb⟩; refine ⟨_, rfl, ?_⟩; have n0_ := Aside0.mk (blk_below (g := gb244) (o := .cells #[.bool true, .slice A0_1 l0_1.length c0_1, .slice A0_2 l0_2.length c0_2] 25 (0, 0)) (by (with_reducible repeat (first | refine blk_drewN ?_ _ | refine blk_drew ?_ | refine blk_alloc ?_ _)); exact BK244.out) hb); have n1_ := Aside0.mk (blk_below (g := gb245) (o := .cells #[.bool false, .slice none 0 0, .slice none 0 0] 25 (0, 0)) (by (with_reducible repeat (first | refine blk_drewN ?_ _ | refine blk_drew ?_ | refine blk_alloc ?_ _)); exact BK245.out) hb); have n2_ := Aside0.mk (below_step (by repeat (first | (with_reducible first | exact HB.out | apply below_alloc | apply pw_below_drewN | apply below_drew1 | refine below_set ?_ GE244.out | refine below_set ?_ GE245.out) | exact HB.out)) hb); clear BK244; clear BK245; clear HB; have BK244 := n0_; have BK245 := n1_; have HB := n2_; clear n0_ n1_ n2_; (try clear hb); (try clear hb2); (try clear hk); (try clear hi); have hcz19_0 : w18.cell? ⟨gb244, 0, none⟩ = some (.bool true) := (blk_cell BK244.out 0).trans rfl; have hcz19_1 : w18.cell? ⟨gb244, 1, none⟩ = some (.slice A0_1 l0_1.length c0_1) := (blk_cell BK244.out 1).trans rfl; have hcz19_2 : w18.cell? ⟨gb244, 2, none⟩ = some (.slice A0_2 l0_2.length c0_2) := (blk_cell BK244.out 2).trans rfl; have hfz19_0 := blk_frozen BK244.out 0; have hfz19_1 := blk_frozen BK244.out 1; have hfz19_2 := blk_frozen BK244.out 2))
      go_meet
      case rel => exact ⟨_, (true), (by first | rfl | (simp; done) | (simp [*]; done)), H', ⟨by first | omega | exact Nat.le_refl _⟩, ⟨by (with_reducible repeat (first | refine blk_drewN ?_ _ | refine blk_drew ?_ | refine blk_alloc ?_ _)); exact BK244.out⟩, ⟨by (with_reducible repeat (first | refine blk_drewN ?_ _ | refine blk_drew ?_ | refine blk_alloc ?_ _)); exact BK245.out⟩, ⟨by repeat (first | (with_reducible first | exact HB.out | apply below_alloc | apply pw_below_drewN | apply below_drew1 | refine below_set ?_ GE244.out | refine below_set ?_ GE245.out) | exact HB.out)⟩⟩
     ·rw [if_neg c15] at H
      have c15b0 : decide (2 < a2) = false := decide_eq_false c15
      clear c15
      by_cases c20 : a1 > 1099511627776
      ·rw [if_pos c20] at H
       have c20b0 : decide (1099511627776 < a1) = true := decide_eq_true c20
       clear c20
       have H' := Aside0.mk H
       clear H
       have hnb21 := NB244_245.out
       have hnc21 := NB245_244.out
       have hcz22_0 : w6.cell? ⟨gb244, 0, none⟩ = some (.bool true) := (blk_cell BK244.out 0).trans rfl
       have hcz22_1 : w6.cell? ⟨gb244, 1, none⟩ = some (.slice A0_1 l0_1.length c0_1) := (blk_cell BK244.out 1).trans rfl
       have hcz22_2 : w6.cell? ⟨gb244, 2, none⟩ = some (.slice A0_2 l0_2.length c0_2) := (blk_cell BK244.out 2).trans rfl
       have hfz22_0 := blk_frozen BK244.out 0
       have hfz22_1 := blk_frozen BK244.out 1
       have hfz22_2 := blk_frozen BK244.out 2
       go_wp2_with (first | ((with_reducible refine gate_callee (f := 57) rfl ?_); refine goesL_ (some 19) rfl rfl Tryz.func57 (by kernel_rfl) rfl #[.agg #[.bool true, .slice A0_1 l0_1.length c0_1, .slice A0_2 l0_2.length c0_2]] rfl (by (try simp only [List.map_toArray, List.map_cons, List.map_nil]); first | done | rfl | (simp only [List.length_drop, List.length_take]; rfl)) ?_; (with_reducible refine (spec_Well.calls k true _ _ l0_1 _ _ l0_2 true _ ?side1 ?side2 ?side3 ?side4 A7.out).mono ?_); (case side1 => repeat (first | exact (Kd.C_below HR0_1.out HB.out) | (with_reducible refine Kd.C_alloc ?_ _) | (with_reducible refine Kd.C_drewN ?_ _) | (with_reducible refine Kd.C_drew ?_))); (case side2 => exact HC0_1.out); (case side3 => repeat (first | exact (Kd.C_below HR0_2.out HB.out) | (with_reducible refine Kd.C_alloc ?_ _) | (with_reducible refine Kd.C_drewN ?_ _) | (with_reducible refine Kd.C_drew ?_))); (case side4 => exact HC0_2.out); rintro e w23 ⟨rfl, hb⟩; refine ⟨_, rfl, ?_⟩; have n0_ := Aside0.mk (blk_below (g := gb244) (o := .cells #[.bool true, .slice A0_1 l0_1.length c0_1, .slice A0_2 l0_2.length c0_2] 25 (0, 0)) (by (with_reducible repeat (first | refine blk_drewN ?_ _ | refine blk_drew ?_ | refine blk_alloc ?_ _)); exact BK244.out) hb); have n1_ := Aside0.mk (blk_below (g := gb245) (o := .cells #[.bool false, .slice none 0 0, .slice none 0 0] 25 (0, 0)) (by (with_reducible repeat (first | refine blk_drewN ?_ _ | refine blk_drew ?_ | refine blk_alloc ?_ _)); exact BK245.out) hb); have n2_ := Aside0.mk (below_step (by repeat (first | (with_reducible first | exact HB.out | apply below_alloc | apply pw_below_drewN | apply below_drew1 | refine below_set ?_ GE244.out | refine below_set ?_ GE245.out) | exact HB.out)) hb); clear BK244; clear BK245; clear HB; have BK244 := n0_; have BK245 := n1_; have HB := n2_; clear n0_ n1_ n2_; (try clear hb); (try clear hb2); (try clear hk); (try clear hi); have hcz24_0 : w23.cell? ⟨gb244, 0, none⟩ = some (.bool true) := (blk_cell BK244.out 0).trans rfl; have hcz24_1 : w23.cell? ⟨gb244, 1, none⟩ = some (.slice A0_1 l0_1.length c0_1) := (blk_cell BK244.out 1).trans rfl; have hcz24_2 : w23.cell? ⟨gb244, 2, none⟩ = some (.slice A0_2 l0_2.length c0_2) := (blk_cell BK244.out 2).trans rfl; have hfz24_0 := blk_frozen BK244.out 0; have hfz24_1 := blk_frozen BK244.out 1; have hfz24_2 := blk_frozen BK244.out 2))
       go_meet
       case rel => exact ⟨_, (true), (by first | rfl | (simp; done) | (simp [*]; done)), H', ⟨by first | omega | exact Nat.le_refl _⟩, ⟨by (with_reducible repeat (first | refine blk_drewN ?_ _ | refine blk_drew ?_ | refine blk_alloc ?_ _)); exact BK244.out⟩, ⟨by (with_reducible repeat (first | refine blk_drewN ?_ _ | refine blk_drew ?_ | refine blk_alloc ?_ _)); exact BK245.out⟩, ⟨by repeat (first | (with_reducible first | exact HB.out | apply below_alloc | apply pw_below_drewN | apply below_drew1 | refine below_set ?_ GE244.out | refine below_set ?_ GE245.out) | exact HB.out)⟩⟩
      ·rw [if_neg c20] at H
       have c20b0 : decide (1099511627776 < a1) = false := decide_eq_false c20
       clear c20
       have H' := Aside0.mk H
       clear H
       have hnb25 := NB244_245.out
       have hnc25 := NB245_244.out
       have hcz26_0 : w6.cell? ⟨gb244, 0, none⟩ = some (.bool true) := (blk_cell BK244.out 0).trans rfl
       have hcz26_1 : w6.cell? ⟨gb244, 1, none⟩ = some (.slice A0_1 l0_1.length c0_1) := (blk_cell BK244.out 1).trans rfl
       have hcz26_2 : w6.cell? ⟨gb244, 2, none⟩ = some (.slice A0_2 l0_2.length c0_2) := (blk_cell BK244.out 2).trans rfl
       have hfz26_0 := blk_frozen BK244.out 0
       have hfz26_1 := blk_frozen BK244.out 1
       have hfz26_2 := blk_frozen BK244.out 2
       go_wp2_with (first | ((with_reducible refine gate_callee (f := 57) rfl ?_); refine goesL_ (some 19) rfl rfl Tryz.func57 (by kernel_rfl) rfl #[.agg #[.bool true, .slice A0_1 l0_1.length c0_1, .slice A0_2 l0_2.length c0_2]] rfl (by (try simp only [List.map_toArray, List.map_cons, List.map_nil]); first | done | rfl | (simp only [List.length_drop, List.length_take]; rfl)) ?_; (with_reducible refine (spec_Well.calls k true _ _ l0_1 _ _ l0_2 true _ ?side1 ?side2 ?side3 ?side4 A7.out).mono ?_); (case side1 => repeat (first | exact (Kd.C_below HR0_1.out HB.out) | (with_reducible refine Kd.C_alloc ?_ _) | (with_reducible refine Kd.C_drewN ?_ _) | (with_reducible refine Kd.C_drew ?_))); (case side2 => exact HC0_1.out); (case side3 => repeat (first | exact (Kd.C_below HR0_2.out HB.out) | (with_reducible refine Kd.C_alloc ?_ _) | (with_reducible refine Kd.C_drewN ?_ _) | (with_reducible refine Kd.C_drew ?_))); (case side4 => exact HC0_2.out); rintro e w27 ⟨rfl, hb⟩; refine ⟨_, rfl, ?_⟩; have n0_ := Aside0.mk (blk_below (g := gb244) (o := .cells #[.bool true, .slice A0_1 l0_1.length c0_1, .slice A0_2 l0_2.length c0_2] 25 (0, 0)) (by (with_reducible repeat (first | refine blk_drewN ?_ _ | refine blk_drew ?_ | refine blk_alloc ?_ _)); exact BK244.out) hb); have n1_ := Aside0.mk (blk_below (g := gb245) (o := .cells #[.bool false, .slice none 0 0, .slice none 0 0] 25 (0, 0)) (by (with_reducible repeat (first | refine blk_drewN ?_ _ | refine blk_drew ?_ | refine blk_alloc ?_ _)); exact BK245.out) hb); have n2_ := Aside0.mk (below_step (by repeat (first | (with_reducible first | exact HB.out | apply below_alloc | apply pw_below_drewN | apply below_drew1 | refine below_set ?_ GE244.out | refine below_set ?_ GE245.out) | exact HB.out)) hb); clear BK244; clear BK245; clear HB; have BK244 := n0_; have BK245 := n1_; have HB := n2_; clear n0_ n1_ n2_; (try clear hb); (try clear hb2); (try clear hk); (try clear hi); have hcz28_0 : w27.cell? ⟨gb244, 0, none⟩ = some (.bool true) := (blk_cell BK244.out 0).trans rfl; have hcz28_1 : w27.cell? ⟨gb244, 1, none⟩ = some (.slice A0_1 l0_1.length c0_1) := (blk_cell BK244.out 1).trans rfl; have hcz28_2 : w27.cell? ⟨gb244, 2, none⟩ = some (.slice A0_2 l0_2.length c0_2) := (blk_cell BK244.out 2).trans rfl; have hfz28_0 := blk_frozen BK244.out 0; have hfz28_1 := blk_frozen BK244.out 1; have hfz28_2 := blk_frozen BK244.out 2))
       go_meet
       case rel => exact ⟨_, (decide (a1 < (-1099511627776))), (by first | rfl | (simp; done) | (simp [*]; done)), H', ⟨by first | omega | exact Nat.le_refl _⟩, ⟨by (with_reducible repeat (first | refine blk_drewN ?_ _ | refine blk_drew ?_ | refine blk_alloc ?_ _)); exact BK244.out⟩, ⟨by (with_reducible repeat (first | refine blk_drewN ?_ _ | refine blk_drew ?_ | refine blk_alloc ?_ _)); exact BK245.out⟩, ⟨by repeat (first | (with_reducible first | exact HB.out | apply below_alloc | apply pw_below_drewN | apply below_drew1 | refine below_set ?_ GE244.out | refine below_set ?_ GE245.out) | exact HB.out)⟩⟩
   ·replace c9 := Bool.eq_false_iff.mpr c9
    subst c9
    have H1 : (spec_UndirectWeighted.j0 k a1 a2 true false l0_1 l0_2) = some (r1, r2, r3, r4) := by rw [if_neg (show ¬ (false = true) by decide)] at H; exact H
    clear H
    have H := H1
    clear H1
    have H' := Aside0.mk H
    clear H
    have hnb29 := NB244_245.out
    have hnc29 := NB245_244.out
    have hcz30_0 : w6.cell? ⟨gb244, 0, none⟩ = some (.bool false) := (blk_cell BK244.out 0).trans rfl
    have hcz30_1 : w6.cell? ⟨gb244, 1, none⟩ = some (.slice A0_1 l0_1.length c0_1) := (blk_cell BK244.out 1).trans rfl
    have hcz30_2 : w6.cell? ⟨gb244, 2, none⟩ = some (.slice A0_2 l0_2.length c0_2) := (blk_cell BK244.out 2).trans rfl
    have hfz30_0 := blk_frozen BK244.out 0
    have hfz30_1 := blk_frozen BK244.out 1
    have hfz30_2 := blk_frozen BK244.out 2
    go_wp2_with (first | ((with_reducible refine gate_callee (f := 57) rfl ?_); refine goesL_ (some 19) rfl rfl Tryz.func57 (by kernel_rfl) rfl #[.agg #[.bool false, .slice A0_1 l0_1.length c0_1, .slice A0_2 l0_2.length c0_2]] rfl (by (try simp only [List.map_toArray, List.map_cons, List.map_nil]); first | done | rfl | (simp only [List.length_drop, List.length_take]; rfl)) ?_; (with_reducible refine (spec_Well.calls k false _ _ l0_1 _ _ l0_2 true _ ?side1 ?side2 ?side3 ?side4 A7.out).mono ?_); (case side1 => repeat (first | exact (Kd.C_below HR0_1.out HB.out) | (with_reducible refine Kd.C_alloc ?_ _) | (with_reducible refine Kd.C_drewN ?_ _) | (with_reducible refine Kd.C_drew ?_))); (case side2 => exact HC0_1.out); (case side3 => repeat (first | exact (Kd.C_below HR0_2.out HB.out) | (with_reducible refine Kd.C_alloc ?_ _) | (with_reducible refine Kd.C_drewN ?_ _) | (with_reducible refine Kd.C_drew ?_))); (case side4 => exact HC0_2.out); rintro e w31 ⟨rfl, hb⟩; refine ⟨_, rfl, ?_⟩; have n0_ := Aside0.mk (blk_below (g := gb244) (o := .cells #[.bool false, .slice A0_1 l0_1.length c0_1, .slice A0_2 l0_2.length c0_2] 25 (0, 0)) (by (with_reducible repeat (first | refine blk_drewN ?_ _ | refine blk_drew ?_ | refine blk_alloc ?_ _)); exact BK244.out) hb); have n1_ := Aside0.mk (blk_below (g := gb245) (o := .cells #[.bool false, .slice none 0 0, .slice none 0 0] 25 (0, 0)) (by (with_reducible repeat (first | refine blk_drewN ?_ _ | refine blk_drew ?_ | refine blk_alloc ?_ _)); exact BK245.out) hb); have n2_ := Aside0.mk (below_step (by repeat (first | (with_reducible first | exact HB.out | apply below_alloc | apply pw_below_drewN | apply below_drew1 | refine below_set ?_ GE244.out | refine below_set ?_ GE245.out) | exact HB.out)) hb); clear BK244; clear BK245; clear HB; have BK244 := n0_; have BK245 := n1_; have HB := n2_; clear n0_ n1_ n2_; (try clear hb); (try clear hb2); (try clear hk); (try clear hi); have hcz32_0 : w31.cell? ⟨gb244, 0, none⟩ = some (.bool false) := (blk_cell BK244.out 0).trans rfl; have hcz32_1 : w31.cell? ⟨gb244, 1, none⟩ = some (.slice A0_1 l0_1.length c0_1) := (blk_cell BK244.out 1).trans rfl; have hcz32_2 : w31.cell? ⟨gb244, 2, none⟩ = some (.slice A0_2 l0_2.length c0_2) := (blk_cell BK244.out 2).trans rfl; have hfz32_0 := blk_frozen BK244.out 0; have hfz32_1 := blk_frozen BK244.out 1; have hfz32_2 := blk_frozen BK244.out 2))
    go_meet
    case rel => exact ⟨_, (true), (by first | rfl | (simp; done) | (simp [*]; done)), H', ⟨by first | omega | exact Nat.le_refl _⟩, ⟨by (with_reducible repeat (first | refine blk_drewN ?_ _ | refine blk_drew ?_ | refine blk_alloc ?_ _)); exact BK244.out⟩, ⟨by (with_reducible repeat (first | refine blk_drewN ?_ _ | refine blk_drew ?_ | refine blk_alloc ?_ _)); exact BK245.out⟩, ⟨by repeat (first | (with_reducible first | exact HB.out | apply below_alloc | apply pw_below_drewN | apply below_drew1 | refine below_set ?_ GE244.out | refine below_set ?_ GE245.out) | exact HB.out)⟩⟩
  ·replace c8 := Bool.eq_false_iff.mpr c8
   subst c8
   have H1 : (spec_UndirectWeighted.j0 k a1 a2 true a0_0 l0_1 l0_2) = some (r1, r2, r3, r4) := by rw [if_neg (show ¬ (false = true) by decide)] at H; exact H
   clear H
   have H := H1
   clear H1
   have H' := Aside0.mk H
   clear H
   have hnb33 := NB244_245.out
   have hnc33 := NB245_244.out
   have hcz34_0 : w6.cell? ⟨gb244, 0, none⟩ = some (.bool a0_0) := (blk_cell BK244.out 0).trans rfl
   have hcz34_1 : w6.cell? ⟨gb244, 1, none⟩ = some (.slice A0_1 l0_1.length c0_1) := (blk_cell BK244.out 1).trans rfl
   have hcz34_2 : w6.cell? ⟨gb244, 2, none⟩ = some (.slice A0_2 l0_2.length c0_2) := (blk_cell BK244.out 2).trans rfl
   have hfz34_0 := blk_frozen BK244.out 0
   have hfz34_1 := blk_frozen BK244.out 1
   have hfz34_2 := blk_frozen BK244.out 2
   go_wp2_with (first | ((with_reducible refine gate_callee (f := 57) rfl ?_); refine goesL_ (some 19) rfl rfl Tryz.func57 (by kernel_rfl) rfl #[.agg #[.bool a0_0, .slice A0_1 l0_1.length c0_1, .slice A0_2 l0_2.length c0_2]] rfl (by (try simp only [List.map_toArray, List.map_cons, List.map_nil]); first | done | rfl | (simp only [List.length_drop, List.length_take]; rfl)) ?_; (with_reducible refine (spec_Well.calls k a0_0 _ _ l0_1 _ _ l0_2 false _ ?side1 ?side2 ?side3 ?side4 A7.out).mono ?_); (case side1 => repeat (first | exact (Kd.C_below HR0_1.out HB.out) | (with_reducible refine Kd.C_alloc ?_ _) | (with_reducible refine Kd.C_drewN ?_ _) | (with_reducible refine Kd.C_drew ?_))); (case side2 => exact HC0_1.out); (case side3 => repeat (first | exact (Kd.C_below HR0_2.out HB.out) | (with_reducible refine Kd.C_alloc ?_ _) | (with_reducible refine Kd.C_drewN ?_ _) | (with_reducible refine Kd.C_drew ?_))); (case side4 => exact HC0_2.out); rintro e w35 ⟨rfl, hb⟩; refine ⟨_, rfl, ?_⟩; have n0_ := Aside0.mk (blk_below (g := gb244) (o := .cells #[.bool a0_0, .slice A0_1 l0_1.length c0_1, .slice A0_2 l0_2.length c0_2] 25 (0, 0)) (by (with_reducible repeat (first | refine blk_drewN ?_ _ | refine blk_drew ?_ | refine blk_alloc ?_ _)); exact BK244.out) hb); have n1_ := Aside0.mk (blk_below (g := gb245) (o := .cells #[.bool false, .slice none 0 0, .slice none 0 0] 25 (0, 0)) (by (with_reducible repeat (first | refine blk_drewN ?_ _ | refine blk_drew ?_ | refine blk_alloc ?_ _)); exact BK245.out) hb); have n2_ := Aside0.mk (below_step (by repeat (first | (with_reducible first | exact HB.out | apply below_alloc | apply pw_below_drewN | apply below_drew1 | refine below_set ?_ GE244.out | refine below_set ?_ GE245.out) | exact HB.out)) hb); clear BK244; clear BK245; clear HB; have BK244 := n0_; have BK245 := n1_; have HB := n2_; clear n0_ n1_ n2_; (try clear hb); (try clear hb2); (try clear hk); (try clear hi)))
   go_meet
   case rel => exact ⟨_, (true), (by first | rfl | (simp; done) | (simp [*]; done)), H', ⟨by first | omega | exact Nat.le_refl _⟩, ⟨by (with_reducible repeat (first | refine blk_drewN ?_ _ | refine blk_drew ?_ | refine blk_alloc ?_ _)); exact BK244.out⟩, ⟨by (with_reducible repeat (first | refine blk_drewN ?_ _ | refine blk_drew ?_ | refine blk_alloc ?_ _)); exact BK245.out⟩, ⟨by repeat (first | (with_reducible first | exact HB.out | apply below_alloc | apply pw_below_drewN | apply below_drew1 | refine below_set ?_ GE244.out | refine below_set ?_ GE245.out) | exact HB.out)⟩⟩
 case rest =>
  clear HC4
  try clear c1
  try clear c2
  try clear p2
  try clear c3
  try clear c5
  try clear c8
  try clear c9
  try clear c10
  try clear c10b0
  try clear c11
  try clear c15
  try clear c15b0
  try clear c16
  try clear c18
  try clear c20
  try clear c20b0
  try clear c21
  try clear c25
  try clear c29
  try clear c33
  try clear hcz12_0
  try clear hcz12_1
  try clear hcz12_2
  try clear hcz14_0
  try clear hcz14_1
  try clear hcz14_2
  try clear hcz17_0
  try clear hcz17_1
  try clear hcz17_2
  try clear hcz19_0
  try clear hcz19_1
  try clear hcz19_2
  try clear hcz22_0
  try clear hcz22_1
  try clear hcz22_2
  try clear hcz24_0
  try clear hcz24_1
  try clear hcz24_2
  try clear hcz26_0
  try clear hcz26_1
  try clear hcz26_2
  try clear hcz28_0
  try clear hcz28_1
  try clear hcz28_2
  try clear hcz30_0
  try clear hcz30_1
  try clear hcz30_2
  try clear hcz32_0
  try clear hcz32_1
  try clear hcz32_2
  try clear hcz34_0
  try clear hcz34_1
  try clear hcz34_2
  try clear hfz12_0
  try clear hfz12_1
  try clear hfz12_2
  try clear hfz14_0
  try clear hfz14_1
  try clear hfz14_2
  try clear hfz17_0
  try clear hfz17_1
  try clear hfz17_2
  try clear hfz19_0
  try clear hfz19_1
  try clear hfz19_2
  try clear hfz22_0
  try clear hfz22_1
  try clear hfz22_2
  try clear hfz24_0
  try clear hfz24_1
  try clear hfz24_2
  try clear hfz26_0
  try clear hfz26_1
  try clear hfz26_2
  try clear hfz28_0
  try clear hfz28_1
  try clear hfz28_2
  try clear hfz30_0
  try clear hfz30_1
  try clear hfz30_2
  try clear hfz32_0
  try clear hfz32_1
  try clear hfz32_2
  try clear hfz34_0
  try clear hfz34_1
  try clear hfz34_2
  obtain ⟨kq, x41_3, rfl, HA, HJ3, BK244, BK245, HB⟩ := hcut
  cases kq with
  | zero => exact absurd HA.out (by simp [spec_UndirectWeighted.j0])
  | succ kj3 =>
   have H := HA.out
   clear HA
   simp only [spec_UndirectWeighted.j0] at H
   by_cases c36 : x41_3 = true
   ·subst c36
    have H1 : (some (false, ([] : List Int), ([] : List (S38)), true)) = some (r1, r2, r3, r4) := by rw [if_pos rfl] at H; exact H
    clear H
    have H := H1
    clear H1
    simp only [Option.some.injEq, Prod.mk.injEq] at H
    obtain ⟨rfl, rfl, rfl, rfl⟩ := H
    have hnb37 := NB245_244.out
    have hnc37 := NB244_245.out
    have hcz38_0 : wc.cell? ⟨gb245, 0, none⟩ = some (.bool false) := (blk_cell BK245.out 0).trans rfl
    have hcz38_1 : wc.cell? ⟨gb245, 1, none⟩ = some (.slice none 0 0) := (blk_cell BK245.out 1).trans rfl
    have hcz38_2 : wc.cell? ⟨gb245, 2, none⟩ = some (.slice none 0 0) := (blk_cell BK245.out 2).trans rfl
    have hfz38_0 := blk_frozen BK245.out 0
    have hfz38_1 := blk_frozen BK245.out 1
    have hfz38_2 := blk_frozen BK245.out 2
    go_wp2
    refine bodyPost_ret (results_ct rfl _ _ gb245 25 #[.bool false, .slice none 0 0, .slice none 0 0] (0, 0) _ rfl (by (with_reducible repeat (first | refine blk_drewN ?_ _ | refine blk_drew ?_ | refine blk_alloc ?_ _)); refine blk_put (cs := #[.bool false, .slice none 0 0, .slice none 0 0]) ?_ 2 _ rfl; (with_reducible repeat (first | refine blk_drewN ?_ _ | refine blk_drew ?_ | refine blk_alloc ?_ _)); refine blk_put (cs := #[.bool false, .slice none 0 0, .slice none 0 0]) ?_ 1 _ rfl; (with_reducible repeat (first | refine blk_drewN ?_ _ | refine blk_drew ?_ | refine blk_alloc ?_ _)); refine blk_put (cs := #[.bool false, .slice none 0 0, .slice none 0 0]) ?_ 0 _ rfl; (with_reducible repeat (first | refine blk_drewN ?_ _ | refine blk_drew ?_ | refine blk_alloc ?_ _)); exact BK245.out) Tryz.underlying25 rfl (by kernel_rfl)) rfl ?_
    exact ⟨_, _, by first | rfl | (simp [errW_none, errW_some] <;> rfl) | (simp [*, errW_none, errW_some] <;> rfl), by first | exact Kd.R_nil _ _ _ _ _ | exact Kd.N_nil _ _ _ _ _ | exact Kd.V_nil _ _ _ _ _ | exact Kd.Q_nil _ _ _ _ _ | exact Kd.S_nil _ _ _ _ _, by first | exact Kd.R_nil _ _ _ _ _ | exact Kd.N_nil _ _ _ _ _ | exact Kd.V_nil _ _ _ _ _ | exact Kd.Q_nil _ _ _ _ _ | exact Kd.S_nil _ _ _ _ _, by repeat (first | (with_reducible first | exact HB.out | apply below_alloc | apply pw_below_drewN | apply below_drew1 | refine below_set ?_ GE244.out | refine below_set ?_ GE245.out) | exact HB.out)⟩
   ·replace c36 := Bool.eq_false_iff.mpr c36
    subst c36
    have H1 : ((spec_Nodes.f a0_0 l0_1 l0_2).bind fun t247 => (spec_UndirectWeighted.l0 kj3 a1 a2 t247 (t247.length : Int) 0 a0_0 l0_1 l0_2 false t247 ([] : List (S38)))) = some (r1, r2, r3, r4) := by rw [if_neg (show ¬ (false = true) by decide)] at H; exact H
    clear H
    have H := H1
    clear H1
    replace H := Option.bind_eq_some_iff.mp H
    obtain ⟨t247, A390, H⟩ := H
    replace H : (spec_UndirectWeighted.l0 kj3 a1 a2 t247 (t247.length : Int) 0 a0_0 l0_1 l0_2 false t247 ([] : List (S38))) = some (r1, r2, r3, r4) := H
    have A39 := Aside0.mk A390
    clear A390
    have H' := Aside0.mk H
    clear H
    have hnb40 := NB244_245.out
    have hnc40 := NB245_244.out
    have hcz41_0 : wc.cell? ⟨gb244, 0, none⟩ = some (.bool a0_0) := (blk_cell BK244.out 0).trans rfl
    have hcz41_1 : wc.cell? ⟨gb244, 1, none⟩ = some (.slice A0_1 l0_1.length c0_1) := (blk_cell BK244.out 1).trans rfl
    have hcz41_2 : wc.cell? ⟨gb244, 2, none⟩ = some (.slice A0_2 l0_2.length c0_2) := (blk_cell BK244.out 2).trans rfl
    have hfz41_0 := blk_frozen BK244.out 0
    have hfz41_1 := blk_frozen BK244.out 1
    have hfz41_2 := blk_frozen BK244.out 2
    go_wp2_with (first | ((with_reducible refine gate_callee (f := 58) rfl ?_); refine goesL_ (some 44) rfl rfl Tryz.func58 (by kernel_rfl) rfl #[.agg #[.bool a0_0, .slice A0_1 l0_1.length c0_1, .slice A0_2 l0_2.length c0_2]] rfl (by (try simp only [List.map_toArray, List.map_cons, List.map_nil]); first | done | rfl | (simp only [List.length_drop, List.length_take]; rfl)) ?_; (with_reducible refine (spec_Nodes.calls a0_0 _ _ l0_1 _ _ l0_2 t247 _ ?side1 ?side2 ?side3 ?side4 A39.out).mono ?_); (case side1 => repeat (first | exact (Kd.C_below HR0_1.out HB.out) | (with_reducible refine Kd.C_alloc ?_ _) | (with_reducible refine Kd.C_drewN ?_ _) | (with_reducible refine Kd.C_drew ?_))); (case side2 => exact HC0_1.out); (case side3 => repeat (first | exact (Kd.C_below HR0_2.out HB.out) | (with_reducible refine Kd.C_alloc ?_ _) | (with_reducible refine Kd.C_drewN ?_ _) | (with_reducible refine Kd.C_drew ?_))); (case side4 => exact HC0_2.out); rintro e w42 ⟨v248, rfl, ho0, hb⟩; refine ⟨_, rfl, ?_⟩; have n0_ := Aside0.mk (Kd.R_lower ho0 (below_size (by repeat (first | (with_reducible first | exact HB.out | apply below_alloc | apply pw_below_drewN | apply below_drew1 | refine below_set ?_ GE244.out | refine below_set ?_ GE245.out) | exact HB.out)))); have n1_ := Aside0.mk (blk_below (g := gb244) (o := .cells #[.bool a0_0, .slice A0_1 l0_1.length c0_1, .slice A0_2 l0_2.length c0_2] 25 (0, 0)) (by (with_reducible repeat (first | refine blk_drewN ?_ _ | refine blk_drew ?_ | refine blk_alloc ?_ _)); exact BK244.out) hb); have n2_ := Aside0.mk (blk_below (g := gb245) (o := .cells #[.bool false, .slice none 0 0, .slice none 0 0] 25 (0, 0)) (by (with_reducible repeat (first | refine blk_drewN ?_ _ | refine blk_drew ?_ | refine blk_alloc ?_ _)); exact BK245.out) hb); have n3_ := Aside0.mk (below_step (by repeat (first | (with_reducible first | exact HB.out | apply below_alloc | apply pw_below_drewN | apply below_drew1 | refine below_set ?_ GE244.out | refine below_set ?_ GE245.out) | exact HB.out)) hb); clear BK244; clear BK245; clear HB; have HO249 := n0_; have BK244 := n1_; have BK245 := n2_; have HB := n3_; clear n0_ n1_ n2_ n3_; (try clear hb); (try clear hb2); (try clear hk); (try clear hi); (try clear ho0); obtain ⟨Ao43, co43, eo43⟩ := Kd.R_slice HO249.out; subst eo43; have hcz44_0 : w42.cell? ⟨gb245, 0, none⟩ = some (.bool false) := (blk_cell BK245.out 0).trans rfl; have hcz44_1 : w42.cell? ⟨gb245, 1, none⟩ = some (.slice none 0 0) := (blk_cell BK245.out 1).trans rfl; have hcz44_2 : w42.cell? ⟨gb245, 2, none⟩ = some (.slice none 0 0) := (blk_cell BK245.out 2).trans rfl; have hfz44_0 := blk_frozen BK245.out 0; have hfz44_1 := blk_frozen BK245.out 1; have hfz44_2 := blk_frozen BK245.out 2))
    go_loopg [49] kj3 (fun kq v49 w' => ∃ (x49_2 : Int) (x246002_2 : List (S38)) (u246002 : Value), v49 = .int .i64 x49_2 ∧ Aside0 (spec_UndirectWeighted.l0 kq a1 a2 t247 (t247.length : Int) x49_2 a0_0 l0_1 l0_2 false t247 x246002_2 = some (r1, r2, r3, r4)) ∧ Aside0 (kq ≤ kj3) ∧ Aside0 (Kd.R (Kd.int .i64) 3 w' w.heap.size (fun _ => True) (.slice Ao43 t247.length co43) t247) ∧ Aside0 (Kd.R (Kd.int .i64) 3 w' w.heap.size (fun _ => True) (.slice Ao43 t247.length co43) t247) ∧ Aside0 (Kd.R k38 38 w' w.heap.size (fun _ => True) u246002 x246002_2) ∧ Aside0 (w'.heap[gb244]? = some (.cells #[.bool a0_0, (.slice A0_1 l0_1.length c0_1), (.slice A0_2 l0_2.length c0_2)] 25 (0, 0))) ∧ Aside0 (w'.heap[gb245]? = some (.cells #[.bool false, (.slice Ao43 t247.length co43), u246002] 25 (0, 0))) ∧ Aside0 (Below w.heap.size w w'))
    case atStart => exact ⟨(0), (([] : List (S38))), (.slice none 0 0), (by first | rfl | (simp; done) | (simp [*]; done)), H', ⟨Nat.le_refl _⟩, ⟨by (with_reducible repeat (first | apply Kd.R_alloc | apply Kd.R_drewN | apply Kd.R_drew)); exact Kd.R_mono (Kd.R_far (p := ⟨gb245, 2, none⟩) (Kd.R_far (p := ⟨gb245, 1, none⟩) (Kd.R_far (p := ⟨gb245, 0, none⟩) (Kd.R_types HO249.out BK245.out (by decide)) (fun _ hk => hk.2) (.bool false)) (fun _ hk => hk.2) (.slice Ao43 t247.length co43)) (fun _ hk => hk.2) (.slice none 0 0)) (fun _ hk => trivial)⟩, ⟨by (with_reducible repeat (first | apply Kd.R_alloc | apply Kd.R_drewN | apply Kd.R_drew)); exact Kd.R_mono (Kd.R_far (p := ⟨gb245, 2, none⟩) (Kd.R_far (p := ⟨gb245, 1, none⟩) (Kd.R_far (p := ⟨gb245, 0, none⟩) (Kd.R_types HO249.out BK245.out (by decide)) (fun _ hk => hk.2) (.bool false)) (fun _ hk => hk.2) (.slice Ao43 t247.length co43)) (fun _ hk => hk.2) (.slice none 0 0)) (fun _ hk => trivial)⟩, ⟨by first | exact Kd.R_nil _ _ _ _ _ | exact Kd.N_nil _ _ _ _ _ | exact Kd.V_nil _ _ _ _ _ | exact Kd.Q_nil _ _ _ _ _ | exact Kd.S_nil _ _ _ _ _⟩, ⟨by (with_reducible repeat (first | refine blk_drewN ?_ _ | refine blk_drew ?_ | refine blk_alloc ?_ _)); refine blk_far ?_ NB244_245.out _; (with_reducible repeat (first | refine blk_drewN ?_ _ | refine blk_drew ?_ | refine blk_alloc ?_ _)); refine blk_far ?_ NB244_245.out _; (with_reducible repeat (first | refine blk_drewN ?_ _ | refine blk_drew ?_ | refine blk_alloc ?_ _)); refine blk_far ?_ NB244_245.out _; (with_reducible repeat (first | refine blk_drewN ?_ _ | refine blk_drew ?_ | refine blk_alloc ?_ _)); exact BK244.out⟩, ⟨by (with_reducible repeat (first | refine blk_drewN ?_ _ | refine blk_drew ?_ | refine blk_alloc ?_ _)); refine blk_put (cs := #[.bool false, .slice Ao43 t247.length co43, .slice none 0 0]) ?_ 2 _ rfl; (with_reducible repeat (first | refine blk_drewN ?_ _ | refine blk_drew ?_ | refine blk_alloc ?_ _)); refine blk_put (cs := #[.bool false, .slice none 0 0, .slice none 0 0]) ?_ 1 _ rfl; (with_reducible repeat (first | refine blk_drewN ?_ _ | refine blk_drew ?_ | refine blk_alloc ?_ _)); refine blk_put (cs := #[.bool false, .slice none 0 0, .slice none 0 0]) ?_ 0 _ rfl; (with_reducible repeat (first | refine blk_drewN ?_ _ | refine blk_drew ?_ | refine blk_alloc ?_ _)); exact BK245.out⟩, ⟨by repeat (first | (with_reducible first | exact HB.out | apply below_alloc | apply pw_below_drewN | apply below_drew1 | refine below_set ?_ GE244.out | refine below_set ?_ GE245.out) | exact HB.out)⟩⟩
    case round =>
     clear H'
     try clear c1
     try clear c2
     try clear p2
     try clear c3
     try clear c4
     try clear c5
     try clear c8
     try clear c9
     try clear c10
     try clear c10b0
     try clear c11
     try clear c15
     try clear c15b0
     try clear c16
     try clear c18
     try clear c20
     try clear c20b0
     try clear c21
     try clear c25
     try clear c29
     try clear c33
     try clear c36
     try clear c37
     try clear c40
     try clear hcz12_0
     try clear hcz12_1
     try clear hcz12_2
     try clear hcz14_0
     try clear hcz14_1
     try clear hcz14_2
     try clear hcz17_0
     try clear hcz17_1
     try clear hcz17_2
     try clear hcz19_0
     try clear hcz19_1
     try clear hcz19_2
     try clear hcz22_0
     try clear hcz22_1
     try clear hcz22_2
     try clear hcz24_0
     try clear hcz24_1
     try clear hcz24_2
     try clear hcz26_0
     try clear hcz26_1
     try clear hcz26_2
     try clear hcz28_0
     try clear hcz28_1
     try clear hcz28_2
     try clear hcz30_0
     try clear hcz30_1
     try clear hcz30_2
     try clear hcz32_0
     try clear hcz32_1
     try clear hcz32_2
     try clear hcz34_0
     try clear hcz34_1
     try clear hcz34_2
     try clear hcz38_0
     try clear hcz38_1
     try clear hcz38_2
     try clear hcz41_0
     try clear hcz41_1
     try clear hcz41_2
     try clear hcz44_0
     try clear hcz44_1
     try clear hcz44_2
     try clear hfz12_0
     try clear hfz12_1
     try clear hfz12_2
     try clear hfz14_0
     try clear hfz14_1
     try clear hfz14_2
     try clear hfz17_0
     try clear hfz17_1
     try clear hfz17_2
     try clear hfz19_0
     try clear hfz19_1
     try clear hfz19_2
     try clear hfz22_0
     try clear hfz22_1
     try clear hfz22_2
     try clear hfz24_0
     try clear hfz24_1
     try clear hfz24_2
     try clear hfz26_0
     try clear hfz26_1
     try clear hfz26_2
     try clear hfz28_0
     try clear hfz28_1
     try clear hfz28_2
     try clear hfz30_0
     try clear hfz30_1
     try clear hfz30_2
     try clear hfz32_0
     try clear hfz32_1
     try clear hfz32_2
     try clear hfz34_0
     try clear hfz34_1
     try clear hfz34_2
     try clear hfz38_0
     try clear hfz38_1
     try clear hfz38_2
     try clear hfz41_0
     try clear hfz41_1
     try clear hfz41_2
     try clear hfz44_0
     try clear hfz44_1
     try clear hfz44_2
     try clear p2
     obtain ⟨x49_2, x246002_2, u246002, rfl, HA, HK2, HO_47, HO_246001, HO_246002, BK244, BK245, HB⟩ := hrel
     cases gk with
     | zero => exact absurd HA.out (by simp [spec_UndirectWeighted.l0])
     | succ k2 =>
      have H := HA.out
      clear HA
      simp only [spec_UndirectWeighted.l0] at H
      by_cases c45 : x49_2 < (t247.length : Int)
      ·rw [if_pos c45] at H
       have c45b0 : decide (x49_2 < (t247.length : Int)) = true := decide_eq_true c45
       clear c45
       by_cases c46 : 0 ≤ x49_2
       ·rw [if_pos c46] at H
        have c46b0 : decide (0 ≤ x49_2) = true := decide_eq_true c46
        clear c46
        by_cases c47 : x49_2 < (t247.length : Int)
        ·rw [if_pos c47] at H
         have c47b0 : decide (x49_2 < (t247.length : Int)) = true := decide_eq_true c47
         clear c47
         have H' := Aside0.mk H
         clear H
         have p250 : 0 ≤ (x49_2 : Int) := of_decide_eq_true (by first | (with_reducible assumption) | assumption)
         have q250 : x49_2 < (t247.length : Int) := of_decide_eq_true (by first | (with_reducible assumption) | assumption)
         obtain ⟨ad250, e250, hx250_0⟩ := Kd.at_int (Kd.R_reads' HO_47.out).2.2 x49_2 p250 q250
         cases e250
         replace p250 := eq_true p250
         replace q250 := eq_true q250
         have hnb48 := NB245_244.out
         have hnc48 := NB244_245.out
         have hcz49_0 : wr.cell? ⟨gb245, 0, none⟩ = some (.bool false) := (blk_cell BK245.out 0).trans rfl
         have hcz49_1 : wr.cell? ⟨gb245, 1, none⟩ = some (.slice (some ad250) t247.length co43) := (blk_cell BK245.out 1).trans rfl
         have hcz49_2 : wr.cell? ⟨gb245, 2, none⟩ = some (u246002) := (blk_cell BK245.out 2).trans rfl
         have hfz49_0 := blk_frozen BK245.out 0
         have hfz49_1 := blk_frozen BK245.out 1
         have hfz49_2 := blk_frozen BK245.out 2
         go_wp2
         go_loopg [56] k2 (fun kq v56 w' => ∃ (x56_3 : Int) (x246002_3 : List (S38)) (u246002 : Value), v56 = .int .i64 x56_3 ∧ Aside0 (spec_UndirectWeighted.l1 kq a1 a2 (rd t247 x49_2) t247 (t247.length : Int) x49_2 t247 (t247.length : Int) x56_3 a0_0 l0_1 l0_2 false t247 x246002_3 = some (r1, r2, r3, r4)) ∧ Aside0 (kq ≤ k2) ∧ Aside0 (Kd.R (Kd.int .i64) 3 w' w.heap.size (fun _ => True) (.slice (some ad250) t247.length co43) t247) ∧ Aside0 (Kd.R (Kd.int .i64) 3 w' w.heap.size (fun _ => True) (.slice (some ad250) t247.length co43) t247) ∧ Aside0 (Kd.R (Kd.int .i64) 3 w' w.heap.size (fun _ => True) (.slice (some ad250) t247.length co43) t247) ∧ Aside0 (Kd.R k38 38 w' w.heap.size (fun _ => True) u246002 x246002_3) ∧ Aside0 (w'.heap[gb244]? = some (.cells #[.bool a0_0, (.slice A0_1 l0_1.length c0_1), (.slice A0_2 l0_2.length c0_2)] 25 (0, 0))) ∧ Aside0 (w'.heap[gb245]? = some (.cells #[.bool false, (.slice (some ad250) t247.length co43), u246002] 25 (0, 0))) ∧ Aside0 (Below w.heap.size w w'))
         case atStart => exact ⟨(0), (x246002_2), (u246002), (by first | rfl | (simp; done) | (simp [*]; done)), H', ⟨Nat.le_refl _⟩, ⟨by (with_reducible repeat (first | apply Kd.R_alloc | apply Kd.R_drewN | apply Kd.R_drew)); exact HO_47.out⟩, ⟨by (with_reducible repeat (first | apply Kd.R_alloc | apply Kd.R_drewN | apply Kd.R_drew)); exact HO_246001.out⟩, ⟨by (with_reducible repeat (first | apply Kd.R_alloc | apply Kd.R_drewN | apply Kd.R_drew)); exact HO_246001.out⟩, ⟨by (with_reducible repeat (first | apply Kd.R_alloc | apply Kd.R_drewN | apply Kd.R_drew)); exact HO_246002.out⟩, ⟨by (with_reducible repeat (first | refine blk_drewN ?_ _ | refine blk_drew ?_ | refine blk_alloc ?_ _)); exact BK244.out⟩, ⟨by (with_reducible repeat (first | refine blk_drewN ?_ _ | refine blk_drew ?_ | refine blk_alloc ?_ _)); exact BK245.out⟩, ⟨by repeat (first | (with_reducible first | exact HB.out | apply below_alloc | apply pw_below_drewN | apply below_drew1 | refine below_set ?_ GE244.out | refine below_set ?_ GE245.out) | exact HB.out)⟩⟩
         case round =>
          clear H'
          try clear c1
          try clear c2
          try clear p2
          try clear q2
          try clear hx2
          try clear c3
          try clear c4
          try clear c5
          try clear c8
          try clear c9
          try clear c10
          try clear c10b0
          try clear c11
          try clear c15
          try clear c15b0
          try clear c16
          try clear c18
          try clear c20
          try clear c20b0
          try clear c21
          try clear c25
          try clear p25
          try clear q25
          try clear hx25
          try clear c29
          try clear c33
          try clear c36
          try clear c37
          try clear c40
          try clear c45
          try clear c45b0
          try clear c46
          try clear c46b0
          try clear c47
          try clear c47b0
          try clear c48
          try clear hcz12_0
          try clear hcz12_1
          try clear hcz12_2
          try clear hcz14_0
          try clear hcz14_1
          try clear hcz14_2
          try clear hcz17_0
          try clear hcz17_1
          try clear hcz17_2
          try clear hcz19_0
          try clear hcz19_1
          try clear hcz19_2
          try clear hcz22_0
          try clear hcz22_1
          try clear hcz22_2
          try clear hcz24_0
          try clear hcz24_1
          try clear hcz24_2
          try clear hcz26_0
          try clear hcz26_1
          try clear hcz26_2
          try clear hcz28_0
          try clear hcz28_1
          try clear hcz28_2
          try clear hcz30_0
          try clear hcz30_1
          try clear hcz30_2
          try clear hcz32_0
          try clear hcz32_1
          try clear hcz32_2
          try clear hcz34_0
          try clear hcz34_1
          try clear hcz34_2
          try clear hcz38_0
          try clear hcz38_1
          try clear hcz38_2
          try clear hcz41_0
          try clear hcz41_1
          try clear hcz41_2
          try clear hcz44_0
          try clear hcz44_1
          try clear hcz44_2
          try clear hcz49_0
          try clear hcz49_1
          try clear hcz49_2
          try clear hfz12_0
          try clear hfz12_1
          try clear hfz12_2
          try clear hfz14_0
          try clear hfz14_1
          try clear hfz14_2
          try clear hfz17_0
          try clear hfz17_1
          try clear hfz17_2
          try clear hfz19_0
          try clear hfz19_1
          try clear hfz19_2
          try clear hfz22_0
          try clear hfz22_1
          try clear hfz22_2
          try clear hfz24_0
          try clear hfz24_1
          try clear hfz24_2
          try clear hfz26_0
          try clear hfz26_1
          try clear hfz26_2
          try clear hfz28_0
          try clear hfz28_1
          try clear hfz28_2
          try clear hfz30_0
          try clear hfz30_1
          try clear hfz30_2
          try clear hfz32_0
          try clear hfz32_1
          try clear hfz32_2
          try clear hfz34_0
          try clear hfz34_1
          try clear hfz34_2
          try clear hfz38_0
          try clear hfz38_1
          try clear hfz38_2
          try clear hfz41_0
          try clear hfz41_1
          try clear hfz41_2
          try clear hfz44_0
          try clear hfz44_1
          try clear hfz44_2
          try clear hfz49_0
          try clear hfz49_1
          try clear hfz49_2
          try clear hx250_0
          try clear p2
          try clear p250
          try clear q250
          obtain ⟨x56_3, x246002_3, u246002, rfl, HA, HK3, HO_47, HO_54, HO_246001, HO_246002, BK244, BK245, HB⟩ := hrel
          cases gk with
          | zero => exact absurd HA.out (by simp [spec_UndirectWeighted.l1])
          | succ k3 =>
           have H := HA.out
           clear HA
           simp only [spec_UndirectWeighted.l1] at H
           by_cases c50 : x56_3 < (t247.length : Int)
           ·rw [if_pos c50] at H
            have c50b0 : decide (x56_3 < (t247.length : Int)) = true := decide_eq_true c50
            clear c50
            by_cases c51 : 0 ≤ x56_3
            ·rw [if_pos c51] at H
             have c51b0 : decide (0 ≤ x56_3) = true := decide_eq_true c51
             clear c51
             by_cases c52 : x56_3 < (t247.length : Int)
             ·rw [if_pos c52] at H
              have c52b0 : decide (x56_3 < (t247.length : Int)) = true := decide_eq_true c52
              clear c52
              have HC53 := Aside0.mk H
              clear H
              have p251 : 0 ≤ (x56_3 : Int) := of_decide_eq_true (by first | (with_reducible assumption) | assumption)
              have q251 : x56_3 < (t247.length : Int) := of_decide_eq_true (by first | (with_reducible assumption) | assumption)
              obtain ⟨ad251, e251, hx251_0⟩ := Kd.at_int (Kd.R_reads' HO_54.out).2.2 x56_3 p251 q251
              obtain rfl : ad250 = ad251 := (by injection e251)
              replace p251 := eq_true p251
              replace q251 := eq_true q251
              go_upto_region 10 with (fail)
              go_cut [69] (fun v69 wc => ∃ (kq : Nat) (x69_52 : Bool), v69 = .bool x69_52 ∧ Aside0 (spec_UndirectWeighted.j3 kq a1 a2 (rd t247 x49_2) (rd t247 x56_3) t247 (t247.length : Int) x49_2 t247 (t247.length : Int) x56_3 x69_52 a0_0 l0_1 l0_2 false t247 x246002_3 = some (r1, r2, r3, r4)) ∧ Aside0 (kq ≤ k3) ∧ Aside0 (Kd.R (Kd.int .i64) 3 wc w.heap.size (fun _ => True) (.slice (some ad250) t247.length co43) t247) ∧ Aside0 (Kd.R (Kd.int .i64) 3 wc w.heap.size (fun _ => True) (.slice (some ad250) t247.length co43) t247) ∧ Aside0 (Kd.R (Kd.int .i64) 3 wc w.heap.size (fun _ => True) (.slice (some ad250) t247.length co43) t247) ∧ Aside0 (Kd.R k38 38 wc w.heap.size (fun _ => True) u246002 x246002_3) ∧ Aside0 (wc.heap[gb244]? = some (.cells #[.bool a0_0, (.slice A0_1 l0_1.length c0_1), (.slice A0_2 l0_2.length c0_2)] 25 (0, 0))) ∧ Aside0 (wc.heap[gb245]? = some (.cells #[.bool false, (.slice (some ad250) t247.length co43), u246002] 25 (0, 0))) ∧ Aside0 (Below w.heap.size w wc))
              case first =>
               have H := HC53.out
               clear HC53
               by_cases c54 : (rd t247 x49_2) ≥ (rd t247 x56_3)
               ·rw [if_pos c54] at H
                have c54b0 : decide ((rd t247 x56_3) ≤ (rd t247 x49_2)) = true := decide_eq_true c54
                clear c54
                (first | rw [c54b0] | (simp only [i64_w, i32_w]; rw [c54b0]) | skip)
                have H' := Aside0.mk H
                clear H
                go_wp2
                go_meet
                case rel => exact ⟨_, (true), (by first | rfl | (simp; done) | (simp [*]; done)), H', ⟨by have := HJ3.out; have := HK2.out; have := HK3.out; first | omega | exact Nat.le_refl _⟩, ⟨by (with_reducible repeat (first | apply Kd.R_alloc | apply Kd.R_drewN | apply Kd.R_drew)); exact HO_47.out⟩, ⟨by (with_reducible repeat (first | apply Kd.R_alloc | apply Kd.R_drewN | apply Kd.R_drew)); exact HO_54.out⟩, ⟨by (with_reducible repeat (first | apply Kd.R_alloc | apply Kd.R_drewN | apply Kd.R_drew)); exact HO_246001.out⟩, ⟨by (with_reducible repeat (first | apply Kd.R_alloc | apply Kd.R_drewN | apply Kd.R_drew)); exact HO_246002.out⟩, ⟨by (with_reducible repeat (first | refine blk_drewN ?_ _ | refine blk_drew ?_ | refine blk_alloc ?_ _)); exact BK244.out⟩, ⟨by (with_reducible repeat (first | refine blk_drewN ?_ _ | refine blk_drew ?_ | refine blk_alloc ?_ _)); exact BK245.out⟩, ⟨by repeat (first | (with_reducible first | exact HB.out | apply below_alloc | apply pw_below_drewN | apply below_drew1 | refine below_set ?_ GE244.out | refine below_set ?_ GE245.out) | exact HB.out)⟩⟩
               ·rw [if_neg c54] at H
                have c54b0 : decide ((rd t247 x56_3) ≤ (rd t247 x49_2)) = false := decide_eq_false c54
                clear c54
                (first | rw [c54b0] | (simp only [i64_w, i32_w]; rw [c54b0]) | skip)
                replace H := Option.bind_eq_some_iff.mp H
                obtain ⟨t252, A550, H⟩ := H
                replace H : (spec_UndirectWeighted.j3 k3 a1 a2 (rd t247 x49_2) (rd t247 x56_3) t247 (t247.length : Int) x49_2 t247 (t247.length : Int) x56_3 (!t252) a0_0 l0_1 l0_2 false t247 x246002_3) = some (r1, r2, r3, r4) := H
                have A55 := Aside0.mk A550
                clear A550
                have H' := Aside0.mk H
                clear H
                have hnb56 := NB244_245.out
                have hnc56 := NB245_244.out
                have hcz57_0 : wr.cell? ⟨gb244, 0, none⟩ = some (.bool a0_0) := (blk_cell BK244.out 0).trans rfl
                have hcz57_1 : wr.cell? ⟨gb244, 1, none⟩ = some (.slice A0_1 l0_1.length c0_1) := (blk_cell BK244.out 1).trans rfl
                have hcz57_2 : wr.cell? ⟨gb244, 2, none⟩ = some (.slice A0_2 l0_2.length c0_2) := (blk_cell BK244.out 2).trans rfl
                have hfz57_0 := blk_frozen BK244.out 0
                have hfz57_1 := blk_frozen BK244.out 1
                have hfz57_2 := blk_frozen BK244.out 2
                go_wp2_with (first | (go_at_call 59; (with_reducible refine (spec_Touch.calls k3 a0_0 _ _ l0_1 _ _ l0_2 (rd t247 x49_2) (rd t247 x56_3) t252 _ ?side1 ?side2 ?side3 ?side4 A55.out).mono ?_); (case side1 => repeat (first | exact (Kd.C_below HR0_1.out HB.out) | (with_reducible refine Kd.C_alloc ?_ _) | (with_reducible refine Kd.C_drewN ?_ _) | (with_reducible refine Kd.C_drew ?_))); (case side2 => exact HC0_1.out); (case side3 => repeat (first | exact (Kd.C_below HR0_2.out HB.out) | (with_reducible refine Kd.C_alloc ?_ _) | (with_reducible refine Kd.C_drewN ?_ _) | (with_reducible refine Kd.C_drew ?_))); (case side4 => exact HC0_2.out); rintro e w58 ⟨rfl, hb⟩; have n0_ := Aside0.mk (Kd.R_below (by (with_reducible repeat (first | apply Kd.R_alloc | apply Kd.R_drewN | apply Kd.R_drew)); exact HO_47.out) hb); have n1_ := Aside0.mk (Kd.R_below (by (with_reducible repeat (first | apply Kd.R_alloc | apply Kd.R_drewN | apply Kd.R_drew)); exact HO_54.out) hb); have n2_ := Aside0.mk (Kd.R_below (by (with_reducible repeat (first | apply Kd.R_alloc | apply Kd.R_drewN | apply Kd.R_drew)); exact HO_246001.out) hb); have n3_ := Aside0.mk (Kd.R_below (by (with_reducible repeat (first | apply Kd.R_alloc | apply Kd.R_drewN | apply Kd.R_drew)); exact HO_246002.out) hb); have n4_ := Aside0.mk (blk_below (g := gb244) (o := .cells #[.bool a0_0, .slice A0_1 l0_1.length c0_1, .slice A0_2 l0_2.length c0_2] 25 (0, 0)) (by (with_reducible repeat (first | refine blk_drewN ?_ _ | refine blk_drew ?_ | refine blk_alloc ?_ _)); exact BK244.out) hb); have n5_ := Aside0.mk (blk_below (g := gb245) (o := .cells #[.bool false, .slice (some ad250) t247.length co43, u246002] 25 (0, 0)) (by (with_reducible repeat (first | refine blk_drewN ?_ _ | refine blk_drew ?_ | refine blk_alloc ?_ _)); exact BK245.out) hb); have n6_ := Aside0.mk (below_step (by repeat (first | (with_reducible first | exact HB.out | apply below_alloc | apply pw_below_drewN | apply below_drew1 | refine below_set ?_ GE244.out | refine below_set ?_ GE245.out) | exact HB.out)) hb); clear HO_47; clear HO_54; clear HO_246001; clear HO_246002; clear BK244; clear BK245; clear HB; have HO_47 := n0_; have HO_54 := n1_; have HO_246001 := n2_; have HO_246002 := n3_; have BK244 := n4_; have BK245 := n5_; have HB := n6_; clear n0_ n1_ n2_ n3_ n4_ n5_ n6_; (try clear hb); (try clear hb2); (try clear hk); (try clear hi)))
                go_meet
                case rel => exact ⟨_, (!t252), (by first | rfl | (simp; done) | (simp [*]; done)), H', ⟨by have := HJ3.out; have := HK2.out; have := HK3.out; first | omega | exact Nat.le_refl _⟩, ⟨by (with_reducible repeat (first | apply Kd.R_alloc | apply Kd.R_drewN | apply Kd.R_drew)); exact HO_47.out⟩, ⟨by (with_reducible repeat (first | apply Kd.R_alloc | apply Kd.R_drewN | apply Kd.R_drew)); exact HO_54.out⟩, ⟨by (with_reducible repeat (first | apply Kd.R_alloc | apply Kd.R_drewN | apply Kd.R_drew)); exact HO_246001.out⟩, ⟨by (with_reducible repeat (first | apply Kd.R_alloc | apply Kd.R_drewN | apply Kd.R_drew)); exact HO_246002.out⟩, ⟨by (with_reducible repeat (first | refine blk_drewN ?_ _ | refine blk_drew ?_ | refine blk_alloc ?_ _)); exact BK244.out⟩, ⟨by (with_reducible repeat (first | refine blk_drewN ?_ _ | refine blk_drew ?_ | refine blk_alloc ?_ _)); exact BK245.out⟩, ⟨by repeat (first | (with_reducible first | exact HB.out | apply below_alloc | apply pw_below_drewN | apply below_drew1 | refine below_set ?_ GE244.out | refine below_set ?_ GE245.out) | exact HB.out)⟩⟩
              case rest =>
               clear HC53
               try clear c1
               try clear c2
               try clear p2
               try clear q2
               try clear hx2
               try clear c3
               try clear c4
               try clear c5
               try clear c8
               try clear c9
               try clear c10
               try clear c10b0
               try clear c11
               try clear c15
               try clear c15b0
               try clear c16
               try clear c18
               try clear c20
               try clear c20b0
               try clear c21
               try clear c25
               try clear p25
               try clear q25
               try clear hx25
               try clear c29
               try clear c33
               try clear c36
               try clear c37
               try clear c40
               try clear c45
               try clear c45b0
               try clear c46
               try clear c46b0
               try clear c47
               try clear c47b0
               try clear c48
               try clear c50
               try clear c50b0
               try clear c51
               try clear c51b0
               try clear c52
               try clear c52b0
               try clear c54
               try clear c54b0
               try clear c56
               try clear c57
               try clear c58
               try clear hcz12_0
               try clear hcz12_1
               try clear hcz12_2
               try clear hcz14_0
               try clear hcz14_1
               try clear hcz14_2
               try clear hcz17_0
               try clear hcz17_1
               try clear hcz17_2
               try clear hcz19_0
               try clear hcz19_1
               try clear hcz19_2
               try clear hcz22_0
               try clear hcz22_1
               try clear hcz22_2
               try clear hcz24_0
               try clear hcz24_1
               try clear hcz24_2
               try clear hcz26_0
               try clear hcz26_1
               try clear hcz26_2
               try clear hcz28_0
               try clear hcz28_1
               try clear hcz28_2
               try clear hcz30_0
               try clear hcz30_1
               try clear hcz30_2
               try clear hcz32_0
               try clear hcz32_1
               try clear hcz32_2
               try clear hcz34_0
               try clear hcz34_1
               try clear hcz34_2
               try clear hcz38_0
               try clear hcz38_1
               try clear hcz38_2
               try clear hcz41_0
               try clear hcz41_1
               try clear hcz41_2
               try clear hcz44_0
               try clear hcz44_1
               try clear hcz44_2
               try clear hcz49_0
               try clear hcz49_1
               try clear hcz49_2
               try clear hcz57_0
               try clear hcz57_1
               try clear hcz57_2
               try clear hfz12_0
               try clear hfz12_1
               try clear hfz12_2
               try clear hfz14_0
               try clear hfz14_1
               try clear hfz14_2
               try clear hfz17_0
               try clear hfz17_1
               try clear hfz17_2
               try clear hfz19_0
               try clear hfz19_1
               try clear hfz19_2
               try clear hfz22_0
               try clear hfz22_1
               try clear hfz22_2
               try clear hfz24_0
               try clear hfz24_1
               try clear hfz24_2
               try clear hfz26_0
               try clear hfz26_1
               try clear hfz26_2
               try clear hfz28_0
               try clear hfz28_1
               try clear hfz28_2
               try clear hfz30_0
               try clear hfz30_1
               try clear hfz30_2
               try clear hfz32_0
               try clear hfz32_1
               try clear hfz32_2
               try clear hfz34_0
               try clear hfz34_1
               try clear hfz34_2
               try clear hfz38_0
               try clear hfz38_1
               try clear hfz38_2
               try clear hfz41_0
               try clear hfz41_1
               try clear hfz41_2
               try clear hfz44_0
               try clear hfz44_1
               try clear hfz44_2
               try clear hfz49_0
               try clear hfz49_1
               try clear hfz49_2
               try clear hfz57_0
               try clear hfz57_1
               try clear hfz57_2
               try clear hx250_0
               try clear hx251_0
               try clear p2
               try clear p25
               try clear p250
               try clear p251
               try clear q2
               try clear q25
               try clear q250
               try clear q251
               obtain ⟨kq, x69_52, rfl, HA, HJ52, HO_47, HO_54, HO_246001, HO_246002, BK244, BK245, HB⟩ := hcut
               cases kq with
               | zero => exact absurd HA.out (by simp [spec_UndirectWeighted.j3])
               | succ kj52 =>
                have H := HA.out
                clear HA
                simp only [spec_UndirectWeighted.j3] at H
                by_cases c59 : x69_52 = true
                ·subst c59
                 have H1 : (spec_UndirectWeighted.l1 kj52 a1 a2 (rd t247 x49_2) t247 (t247.length : Int) x49_2 t247 (t247.length : Int) (wrap64 (x56_3 + 1)) a0_0 l0_1 l0_2 false t247 x246002_3) = some (r1, r2, r3, r4) := by rw [if_pos rfl] at H; exact H
                 clear H
                 have H := H1
                 clear H1
                 have H' := Aside0.mk H
                 clear H
                 go_wp2
                 go_roundg kj52
                 case measure => have := HJ3.out; have := HK2.out; have := HK3.out; have := HJ52.out; omega
                 case rel => exact ⟨(wrap64 (x56_3 + 1)), (x246002_3), (u246002), (by first | rfl | (simp; done) | (simp [*]; done)), H', ⟨by have := HJ3.out; have := HK2.out; have := HK3.out; have := HJ52.out; omega⟩, ⟨by (with_reducible repeat (first | apply Kd.R_alloc | apply Kd.R_drewN | apply Kd.R_drew)); exact HO_47.out⟩, ⟨by (with_reducible repeat (first | apply Kd.R_alloc | apply Kd.R_drewN | apply Kd.R_drew)); exact HO_54.out⟩, ⟨by (with_reducible repeat (first | apply Kd.R_alloc | apply Kd.R_drewN | apply Kd.R_drew)); exact HO_246001.out⟩, ⟨by (with_reducible repeat (first | apply Kd.R_alloc | apply Kd.R_drewN | apply Kd.R_drew)); exact HO_246002.out⟩, ⟨by (with_reducible repeat (first | refine blk_drewN ?_ _ | refine blk_drew ?_ | refine blk_alloc ?_ _)); exact BK244.out⟩, ⟨by (with_reducible repeat (first | refine blk_drewN ?_ _ | refine blk_drew ?_ | refine blk_alloc ?_ _)); exact BK245.out⟩, ⟨by repeat (first | (with_reducible first | exact HB.out | apply below_alloc | apply pw_below_drewN | apply below_drew1 | refine below_set ?_ GE244.out | refine below_set ?_ GE245.out) | exact HB.out)⟩⟩
                ·replace c59 := Bool.eq_false_iff.mpr c59
                 subst c59
                 have H1 : ((spec_Weight.f kj52 a0_0 l0_1 l0_2 (rd t247 x49_2) (rd t247 x56_3)).bind fun bt253 => (if bt253.2 = true then (spec_UndirectWeighted.j4 kj52 a1 a2 (rd t247 x49_2) (rd t247 x56_3) bt253.1 a1 t247 (t247.length : Int) x49_2 t247 (t247.length : Int) x56_3 a0_0 l0_1 l0_2 false t247 x246002_3) else (spec_UndirectWeighted.j4 kj52 a1 a2 (rd t247 x49_2) (rd t247 x56_3) a1 a1 t247 (t247.length : Int) x49_2 t247 (t247.length : Int) x56_3 a0_0 l0_1 l0_2 false t247 x246002_3))) = some (r1, r2, r3, r4) := by rw [if_neg (show ¬ (false = true) by decide)] at H; exact H
                 clear H
                 have H := H1
                 clear H1
                 replace H := Option.bind_eq_some_iff.mp H
                 obtain ⟨⟨t253, t254⟩, A600, H⟩ := H
                 replace H : (if t254 = true then (spec_UndirectWeighted.j4 kj52 a1 a2 (rd t247 x49_2) (rd t247 x56_3) t253 a1 t247 (t247.length : Int) x49_2 t247 (t247.length : Int) x56_3 a0_0 l0_1 l0_2 false t247 x246002_3) else (spec_UndirectWeighted.j4 kj52 a1 a2 (rd t247 x49_2) (rd t247 x56_3) a1 a1 t247 (t247.length : Int) x49_2 t247 (t247.length : Int) x56_3 a0_0 l0_1 l0_2 false t247 x246002_3)) = some (r1, r2, r3, r4) := H
                 have A60 := Aside0.mk A600
                 clear A600
                 have HC61 := Aside0.mk H
                 clear H
                 have hnb62 := NB244_245.out
                 have hnc62 := NB245_244.out
                 have hcz63_0 : wc.cell? ⟨gb244, 0, none⟩ = some (.bool a0_0) := (blk_cell BK244.out 0).trans rfl
                 have hcz63_1 : wc.cell? ⟨gb244, 1, none⟩ = some (.slice A0_1 l0_1.length c0_1) := (blk_cell BK244.out 1).trans rfl
                 have hcz63_2 : wc.cell? ⟨gb244, 2, none⟩ = some (.slice A0_2 l0_2.length c0_2) := (blk_cell BK244.out 2).trans rfl
                 have hfz63_0 := blk_frozen BK244.out 0
                 have hfz63_1 := blk_frozen BK244.out 1
                 have hfz63_2 := blk_frozen BK244.out 2
                 go_upto_if 79 with (first | ((with_reducible refine gate_callee (f := 60) rfl ?_); refine goesL_ (some 76) rfl rfl Tryz.func60 (by kernel_rfl) rfl #[.agg #[.bool a0_0, .slice A0_1 l0_1.length c0_1, .slice A0_2 l0_2.length c0_2], .int .i64 (rd t247 x49_2), .int .i64 (rd t247 x56_3)] rfl (by (try simp only [List.map_toArray, List.map_cons, List.map_nil]); first | done | rfl | (simp only [List.length_drop, List.length_take]; rfl)) ?_; (with_reducible refine (spec_Weight.calls kj52 a0_0 _ _ l0_1 _ _ l0_2 (rd t247 x49_2) (rd t247 x56_3) t253 t254 _ ?side1 ?side2 ?side3 ?side4 A60.out).mono ?_); (case side1 => repeat (first | exact (Kd.C_below HR0_1.out HB.out) | (with_reducible refine Kd.C_alloc ?_ _) | (with_reducible refine Kd.C_drewN ?_ _) | (with_reducible refine Kd.C_drew ?_))); (case side2 => exact HC0_1.out); (case side3 => repeat (first | exact (Kd.C_below HR0_2.out HB.out) | (with_reducible refine Kd.C_alloc ?_ _) | (with_reducible refine Kd.C_drewN ?_ _) | (with_reducible refine Kd.C_drew ?_))); (case side4 => exact HC0_2.out); rintro e w64 ⟨rfl, hb⟩; refine ⟨_, rfl, ?_⟩; have n0_ := Aside0.mk (Kd.R_below (by (with_reducible repeat (first | apply Kd.R_alloc | apply Kd.R_drewN | apply Kd.R_drew)); exact HO_47.out) hb); have n1_ := Aside0.mk (Kd.R_below (by (with_reducible repeat (first | apply Kd.R_alloc | apply Kd.R_drewN | apply Kd.R_drew)); exact HO_54.out) hb); have n2_ := Aside0.mk (Kd.R_below (by (with_reducible repeat (first | apply Kd.R_alloc | apply Kd.R_drewN | apply Kd.R_drew)); exact HO_246001.out) hb); have n3_ := Aside0.mk (Kd.R_below (by (with_reducible repeat (first | apply Kd.R_alloc | apply Kd.R_drewN | apply Kd.R_drew)); exact HO_246002.out) hb); have n4_ := Aside0.mk (blk_below (g := gb244) (o := .cells #[.bool a0_0, .slice A0_1 l0_1.length c0_1, .slice A0_2 l0_2.length c0_2] 25 (0, 0)) (by (with_reducible repeat (first | refine blk_drewN ?_ _ | refine blk_drew ?_ | refine blk_alloc ?_ _)); exact BK244.out) hb); have n5_ := Aside0.mk (blk_below (g := gb245) (o := .cells #[.bool false, .slice (some ad250) t247.length co43, u246002] 25 (0, 0)) (by (with_reducible repeat (first | refine blk_drewN ?_ _ | refine blk_drew ?_ | refine blk_alloc ?_ _)); exact BK245.out) hb); have n6_ := Aside0.mk (below_step (by repeat (first | (with_reducible first | exact HB.out | apply below_alloc | apply pw_below_drewN | apply below_drew1 | refine below_set ?_ GE244.out | refine below_set ?_ GE245.out) | exact HB.out)) hb); clear HO_47; clear HO_54; clear HO_246001; clear HO_246002; clear BK244; clear BK245; clear HB; have HO_47 := n0_; have HO_54 := n1_; have HO_246001 := n2_; have HO_246002 := n3_; have BK244 := n4_; have BK245 := n5_; have HB := n6_; clear n0_ n1_ n2_ n3_ n4_ n5_ n6_; (try clear hb); (try clear hb2); (try clear hk); (try clear hi)))
                 (try simp only [Act.put, List.setIfInBounds_toArray, List.set_cons_zero, List.set_cons_succ])
                 go_cut [12] (fun v12 wc => ∃ (kq : Nat) (x12_60 : Int), v12 = .int .i64 x12_60 ∧ Aside0 (spec_UndirectWeighted.j4 kq a1 a2 (rd t247 x49_2) (rd t247 x56_3) x12_60 a1 t247 (t247.length : Int) x49_2 t247 (t247.length : Int) x56_3 a0_0 l0_1 l0_2 false t247 x246002_3 = some (r1, r2, r3, r4)) ∧ Aside0 (kq ≤ kj52) ∧ Aside0 (Kd.R (Kd.int .i64) 3 wc w.heap.size (fun _ => True) (.slice (some ad250) t247.length co43) t247) ∧ Aside0 (Kd.R (Kd.int .i64) 3 wc w.heap.size (fun _ => True) (.slice (some ad250) t247.length co43) t247) ∧ Aside0 (Kd.R (Kd.int .i64) 3 wc w.heap.size (fun _ => True) (.slice (some ad250) t247.length co43) t247) ∧ Aside0 (Kd.R k38 38 wc w.heap.size (fun _ => True) u246002 x246002_3) ∧ Aside0 (wc.heap[gb244]? = some (.cells #[.bool a0_0, (.slice A0_1 l0_1.length c0_1), (.slice A0_2 l0_2.length c0_2)] 25 (0, 0))) ∧ Aside0 (wc.heap[gb245]? = some (.cells #[.bool false, (.slice (some ad250) t247.length co43), u246002] 25 (0, 0))) ∧ Aside0 (Below w.heap.size w wc))
                 case first =>
                  have H := HC61.out
                  clear HC61
                  by_cases c65 : t254 = true
                  ·subst c65
                   have H1 : (spec_UndirectWeighted.j4 kj52 a1 a2 (rd t247 x49_2) (rd t247 x56_3) t253 a1 t247 (t247.length : Int) x49_2 t247 (t247.length : Int) x56_3 a0_0 l0_1 l0_2 false t247 x246002_3) = some (r1, r2, r3, r4) := by rw [if_pos rfl] at H; exact H
                   clear H
                   have H := H1
                   clear H1
                   have H' := Aside0.mk H
                   clear H
                   go_wp2
                   go_meet
                   case rel => exact ⟨_, (t253), (by first | rfl | (simp; done) | (simp [*]; done)), H', ⟨by have := HJ3.out; have := HK2.out; have := HK3.out; have := HJ52.out; first | omega | exact Nat.le_refl _⟩, ⟨by (with_reducible repeat (first | apply Kd.R_alloc | apply Kd.R_drewN | apply Kd.R_drew)); exact HO_47.out⟩, ⟨by (with_reducible repeat (first | apply Kd.R_alloc | apply Kd.R_drewN | apply Kd.R_drew)); exact HO_54.out⟩, ⟨by (with_reducible repeat (first | apply Kd.R_alloc | apply Kd.R_drewN | apply Kd.R_drew)); exact HO_246001.out⟩, ⟨by (with_reducible repeat (first | apply Kd.R_alloc | apply Kd.R_drewN | apply Kd.R_drew)); exact HO_246002.out⟩, ⟨by (with_reducible repeat (first | refine blk_drewN ?_ _ | refine blk_drew ?_ | refine blk_alloc ?_ _)); exact BK244.out⟩, ⟨by (with_reducible repeat (first | refine blk_drewN ?_ _ | refine blk_drew ?_ | refine blk_alloc ?_ _)); exact BK245.out⟩, ⟨by repeat (first | (with_reducible first | exact HB.out | apply below_alloc | apply pw_below_drewN | apply below_drew1 | refine below_set ?_ GE244.out | refine below_set ?_ GE245.out) | exact HB.out)⟩⟩
                  ·replace c65 := Bool.eq_false_iff.mpr c65
                   subst c65
                   have H1 : (spec_UndirectWeighted.j4 kj52 a1 a2 (rd t247 x49_2) (rd t247 x56_3) a1 a1 t247 (t247.length : Int) x49_2 t247 (t247.length : Int) x56_3 a0_0 l0_1 l0_2 false t247 x246002_3) = some (r1, r2, r3, r4) := by rw [if_neg (show ¬ (false = true) by decide)] at H; exact H
                   clear H
                   have H := H1
                   clear H1
                   have H' := Aside0.mk H
                   clear H
                   go_wp2
                   go_meet
                   case rel => exact ⟨_, (a1), (by first | rfl | (simp; done) | (simp [*]; done)), H', ⟨by have := HJ3.out; have := HK2.out; have := HK3.out; have := HJ52.out; first | omega | exact Nat.le_refl _⟩, ⟨by (with_reducible repeat (first | apply Kd.R_alloc | apply Kd.R_drewN | apply Kd.R_drew)); exact HO_47.out⟩, ⟨by (with_reducible repeat (first | apply Kd.R_alloc | apply Kd.R_drewN | apply Kd.R_drew)); exact HO_54.out⟩, ⟨by (with_reducible repeat (first | apply Kd.R_alloc | apply Kd.R_drewN | apply Kd.R_drew)); exact HO_246001.out⟩, ⟨by (with_reducible repeat (first | apply Kd.R_alloc | apply Kd.R_drewN | apply Kd.R_drew)); exact HO_246002.out⟩, ⟨by (with_reducible repeat (first | refine blk_drewN ?_ _ | refine blk_drew ?_ | refine blk_alloc ?_ _)); exact BK244.out⟩, ⟨by (with_reducible repeat (first | refine blk_drewN ?_ _ | refine blk_drew ?_ | refine blk_alloc ?_ _)); exact BK245.out⟩, ⟨by repeat (first | (with_reducible first | exact HB.out | apply below_alloc | apply pw_below_drewN | apply below_drew1 | refine below_set ?_ GE244.out | refine below_set ?_ GE245.out) | exact HB.out)⟩⟩
                 case rest =>
                  clear HC61
                  try clear c1
                  try clear c2
                  try clear p2
                  try clear q2
                  try clear hx2
                  try clear c3
                  try clear c4
                  try clear c5
                  try clear c6
                  try clear p6
                  try clear c8
                  try clear c9
                  try clear c10
                  try clear c10b0
                  try clear c11
                  try clear c15
                  try clear c15b0
                  try clear c16
                  try clear c18
                  try clear c20
                  try clear c20b0
                  try clear c21
                  try clear c25
                  try clear p25
                  try clear q25
                  try clear hx25
                  try clear c29
                  try clear c33
                  try clear c36
                  try clear c37
                  try clear c40
                  try clear c45
                  try clear c45b0
                  try clear c46
                  try clear c46b0
                  try clear c47
                  try clear c47b0
                  try clear c48
                  try clear c50
                  try clear c50b0
                  try clear c51
                  try clear c51b0
                  try clear c52
                  try clear c52b0
                  try clear c54
                  try clear c54b0
                  try clear c56
                  try clear c57
                  try clear c58
                  try clear c59
                  try clear c60
                  try clear c62
                  try clear p64
                  try clear c65
                  try clear hcz12_0
                  try clear hcz12_1
                  try clear hcz12_2
                  try clear hcz14_0
                  try clear hcz14_1
                  try clear hcz14_2
                  try clear hcz17_0
                  try clear hcz17_1
                  try clear hcz17_2
                  try clear hcz19_0
                  try clear hcz19_1
                  try clear hcz19_2
                  try clear hcz22_0
                  try clear hcz22_1
                  try clear hcz22_2
                  try clear hcz24_0
                  try clear hcz24_1
                  try clear hcz24_2
                  try clear hcz26_0
                  try clear hcz26_1
                  try clear hcz26_2
                  try clear hcz28_0
                  try clear hcz28_1
                  try clear hcz28_2
                  try clear hcz30_0
                  try clear hcz30_1
                  try clear hcz30_2
                  try clear hcz32_0
                  try clear hcz32_1
                  try clear hcz32_2
                  try clear hcz34_0
                  try clear hcz34_1
                  try clear hcz34_2
                  try clear hcz38_0
                  try clear hcz38_1
                  try clear hcz38_2
                  try clear hcz41_0
                  try clear hcz41_1
                  try clear hcz41_2
                  try clear hcz44_0
                  try clear hcz44_1
                  try clear hcz44_2
                  try clear hcz49_0
                  try clear hcz49_1
                  try clear hcz49_2
                  try clear hcz57_0
                  try clear hcz57_1
                  try clear hcz57_2
                  try clear hcz63_0
                  try clear hcz63_1
                  try clear hcz63_2
                  try clear hfz12_0
                  try clear hfz12_1
                  try clear hfz12_2
                  try clear hfz14_0
                  try clear hfz14_1
                  try clear hfz14_2
                  try clear hfz17_0
                  try clear hfz17_1
                  try clear hfz17_2
                  try clear hfz19_0
                  try clear hfz19_1
                  try clear hfz19_2
                  try clear hfz22_0
                  try clear hfz22_1
                  try clear hfz22_2
                  try clear hfz24_0
                  try clear hfz24_1
                  try clear hfz24_2
                  try clear hfz26_0
                  try clear hfz26_1
                  try clear hfz26_2
                  try clear hfz28_0
                  try clear hfz28_1
                  try clear hfz28_2
                  try clear hfz30_0
                  try clear hfz30_1
                  try clear hfz30_2
                  try clear hfz32_0
                  try clear hfz32_1
                  try clear hfz32_2
                  try clear hfz34_0
                  try clear hfz34_1
                  try clear hfz34_2
                  try clear hfz38_0
                  try clear hfz38_1
                  try clear hfz38_2
                  try clear hfz41_0
                  try clear hfz41_1
                  try clear hfz41_2
                  try clear hfz44_0
                  try clear hfz44_1
                  try clear hfz44_2
                  try clear hfz49_0
                  try clear hfz49_1
                  try clear hfz49_2
                  try clear hfz57_0
                  try clear hfz57_1
                  try clear hfz57_2
                  try clear hfz63_0
                  try clear hfz63_1
                  try clear hfz63_2
                  try clear hx250_0
                  try clear hx251_0
                  try clear p2
                  try clear p25
                  try clear p250
                  try clear p251
                  try clear q2
                  try clear q25
                  try clear q250
                  try clear q251
                  obtain ⟨kq, x12_60, rfl, HA, HJ60, HO_47, HO_54, HO_246001, HO_246002, BK244, BK245, HB⟩ := hcut
                  cases kq with
                  | zero => exact absurd HA.out (by simp [spec_UndirectWeighted.j4])
                  | succ kj60 =>
                   have H := HA.out
                   clear HA
                   simp only [spec_UndirectWeighted.j4] at H
                   replace H := Option.bind_eq_some_iff.mp H
                   obtain ⟨⟨t255, t256⟩, A660, H⟩ := H
                   replace H : (if t256 = true then ((spec_merged.f x12_60 t255 a2).bind fun t257 => (if x246002_3.length < 5864062014805 then (spec_UndirectWeighted.l1 kj60 a1 a2 (rd t247 x49_2) t247 (t247.length : Int) x49_2 t247 (t247.length : Int) (wrap64 (x56_3 + 1)) a0_0 l0_1 l0_2 false t247 (x246002_3 ++ [(⟨(rd t247 x49_2), (rd t247 x56_3), t257⟩ : S38)])) else (none))) else ((spec_merged.f x12_60 a1 a2).bind fun t261 => (if x246002_3.length < 5864062014805 then (spec_UndirectWeighted.l1 kj60 a1 a2 (rd t247 x49_2) t247 (t247.length : Int) x49_2 t247 (t247.length : Int) (wrap64 (x56_3 + 1)) a0_0 l0_1 l0_2 false t247 (x246002_3 ++ [(⟨(rd t247 x49_2), (rd t247 x56_3), t261⟩ : S38)])) else (none)))) = some (r1, r2, r3, r4) := H
                   have A66 := Aside0.mk A660
                   clear A660
                   by_cases c67 : t256 = true
                   ·subst c67
                    have H1 : ((spec_merged.f x12_60 t255 a2).bind fun t257 => (if x246002_3.length < 5864062014805 then (spec_UndirectWeighted.l1 kj60 a1 a2 (rd t247 x49_2) t247 (t247.length : Int) x49_2 t247 (t247.length : Int) (wrap64 (x56_3 + 1)) a0_0 l0_1 l0_2 false t247 (x246002_3 ++ [(⟨(rd t247 x49_2), (rd t247 x56_3), t257⟩ : S38)])) else (none))) = some (r1, r2, r3, r4) := by rw [if_pos rfl] at H; exact H
                    clear H
                    have H := H1
                    clear H1
                    replace H := Option.bind_eq_some_iff.mp H
                    obtain ⟨t257, A680, H⟩ := H
                    replace H : (if x246002_3.length < 5864062014805 then (spec_UndirectWeighted.l1 kj60 a1 a2 (rd t247 x49_2) t247 (t247.length : Int) x49_2 t247 (t247.length : Int) (wrap64 (x56_3 + 1)) a0_0 l0_1 l0_2 false t247 (x246002_3 ++ [(⟨(rd t247 x49_2), (rd t247 x56_3), t257⟩ : S38)])) else (none)) = some (r1, r2, r3, r4) := H
                    have A68 := Aside0.mk A680
                    clear A680
                    by_cases c69 : x246002_3.length < 5864062014805
                    ·rw [if_pos c69] at H
                     have LMc69 := Aside0.mk c69
                     clear c69
                     obtain ⟨y258, hy258⟩ : ∃ y_ : List (S38), y_ = (x246002_3 ++ [(⟨(rd t247 x49_2), (rd t247 x56_3), t257⟩ : S38)]) := ⟨_, rfl⟩
                     replace H : (spec_UndirectWeighted.l1 kj60 a1 a2 (rd t247 x49_2) t247 (t247.length : Int) x49_2 t247 (t247.length : Int) (wrap64 (x56_3 + 1)) a0_0 l0_1 l0_2 false t247 y258) = some (r1, r2, r3, r4) := by first | (rw [hy258]; with_reducible exact H) | (have H2_ := (Option.bind_some _ _).symm.trans H; rw [hy258]; with_reducible exact H2_) | (have H2_ := (Option.bind_some _ _).symm.trans H; with_reducible exact H2_) | with_reducible exact H | (rw [hy258]; exact H) | exact H
                     have Ny258 := Aside0.mk hy258
                     clear hy258
                     have H' := Aside0.mk H
                     clear H
                     have hnb70 := NB244_245.out
                     have hnc70 := NB245_244.out
                     have hcz71_0 : wc.cell? ⟨gb244, 0, none⟩ = some (.bool a0_0) := (blk_cell BK244.out 0).trans rfl
                     have hcz71_1 : wc.cell? ⟨gb244, 1, none⟩ = some (.slice A0_1 l0_1.length c0_1) := (blk_cell BK244.out 1).trans rfl
                     have hcz71_2 : wc.cell? ⟨gb244, 2, none⟩ = some (.slice A0_2 l0_2.length c0_2) := (blk_cell BK244.out 2).trans rfl
                     have hfz71_0 := blk_frozen BK244.out 0
                     have hfz71_1 := blk_frozen BK244.out 1
                     have hfz71_2 := blk_frozen BK244.out 2
                     try go_wp2_with (first | ((with_reducible refine gate_callee (f := 60) rfl ?_); refine goesL_ (some 85) rfl rfl Tryz.func60 (by kernel_rfl) rfl #[.agg #[.bool a0_0, .slice A0_1 l0_1.length c0_1, .slice A0_2 l0_2.length c0_2], .int .i64 (rd t247 x56_3), .int .i64 (rd t247 x49_2)] rfl (by (try simp only [List.map_toArray, List.map_cons, List.map_nil]); first | done | rfl | (simp only [List.length_drop, List.length_take]; rfl)) ?_; (with_reducible refine (spec_Weight.calls kj60 a0_0 _ _ l0_1 _ _ l0_2 (rd t247 x56_3) (rd t247 x49_2) t255 true _ ?side1 ?side2 ?side3 ?side4 A66.out).mono ?_); (case side1 => repeat (first | exact (Kd.C_below HR0_1.out HB.out) | (with_reducible refine Kd.C_alloc ?_ _) | (with_reducible refine Kd.C_drewN ?_ _) | (with_reducible refine Kd.C_drew ?_))); (case side2 => exact HC0_1.out); (case side3 => repeat (first | exact (Kd.C_below HR0_2.out HB.out) | (with_reducible refine Kd.C_alloc ?_ _) | (with_reducible refine Kd.C_drewN ?_ _) | (with_reducible refine Kd.C_drew ?_))); (case side4 => exact HC0_2.out); rintro e w72 ⟨rfl, hb⟩; refine ⟨_, rfl, ?_⟩; have n0_ := Aside0.mk (Kd.R_below (by (with_reducible repeat (first | apply Kd.R_alloc | apply Kd.R_drewN | apply Kd.R_drew)); exact HO_47.out) hb); have n1_ := Aside0.mk (Kd.R_below (by (with_reducible repeat (first | apply Kd.R_alloc | apply Kd.R_drewN | apply Kd.R_drew)); exact HO_54.out) hb); have n2_ := Aside0.mk (Kd.R_below (by (with_reducible repeat (first | apply Kd.R_alloc | apply Kd.R_drewN | apply Kd.R_drew)); exact HO_246001.out) hb); have n3_ := Aside0.mk (Kd.R_below (by (with_reducible repeat (first | apply Kd.R_alloc | apply Kd.R_drewN | apply Kd.R_drew)); exact HO_246002.out) hb); have n4_ := Aside0.mk (blk_below (g := gb244) (o := .cells #[.bool a0_0, .slice A0_1 l0_1.length c0_1, .slice A0_2 l0_2.length c0_2] 25 (0, 0)) (by (with_reducible repeat (first | refine blk_drewN ?_ _ | refine blk_drew ?_ | refine blk_alloc ?_ _)); exact BK244.out) hb); have n5_ := Aside0.mk (blk_below (g := gb245) (o := .cells #[.bool false, .slice (some ad250) t247.length co43, u246002] 25 (0, 0)) (by (with_reducible repeat (first | refine blk_drewN ?_ _ | refine blk_drew ?_ | refine blk_alloc ?_ _)); exact BK245.out) hb); have n6_ := Aside0.mk (below_step (by repeat (first | (with_reducible first | exact HB.out | apply below_alloc | apply pw_below_drewN | apply below_drew1 | refine below_set ?_ GE244.out | refine below_set ?_ GE245.out) | exact HB.out)) hb); clear HO_47; clear HO_54; clear HO_246001; clear HO_246002; clear BK244; clear BK245; clear HB; have HO_47 := n0_; have HO_54 := n1_; have HO_246001 := n2_; have HO_246002 := n3_; have BK244 := n4_; have BK245 := n5_; have HB := n6_; clear n0_ n1_ n2_ n3_ n4_ n5_ n6_; (try clear hb); (try clear hb2); (try clear hk); (try clear hi)))
                     have n0_ := Aside0.mk (Kd.R_drew HO_47.out)
                     have n1_ := Aside0.mk (Kd.R_drew HO_54.out)
                     have n2_ := Aside0.mk (Kd.R_drew HO_246001.out)
                     have n3_ := Aside0.mk (Kd.R_drew HO_246002.out)
                     have n4_ := Aside0.mk (blk_drew BK244.out)
                     have n5_ := Aside0.mk (blk_drew BK245.out)
                     have n6_ := Aside0.mk (below_drew1 HB.out)
                     clear HO_47
                     clear HO_54
                     clear HO_246001
                     clear HO_246002
                     clear BK244
                     clear BK245
                     clear HB
                     have HO_47 := n0_
                     have HO_54 := n1_
                     have HO_246001 := n2_
                     have HO_246002 := n3_
                     have BK244 := n4_
                     have BK245 := n5_
                     have HB := n6_
                     clear n0_ n1_ n2_ n3_ n4_ n5_ n6_
                     refine start_ (n := 13) (S := fun w' => w'.cell? ⟨gb245, 0, none⟩ = some (.bool false) ∧ w'.cell? ⟨gb245, 1, none⟩ = some (.slice (some ad250) t247.length co43) ∧ w'.cell? ⟨gb245, 2, none⟩ = some (u246002)) (ds := [12]) #[false, false, false, false, false, false, false, false, false, false, false, false, false] (by kernel_rfl) rfl rfl ⟨(blk_cell BK245.out 0).trans rfl, (blk_cell BK245.out 1).trans rfl, (blk_cell BK245.out 2).trans rfl⟩ (fun hHeld => ?_); refine with_tabW spec_UndirectWeighted.tab18 spec_UndirectWeighted.bits18 (fun HT_ HW_ => ?_)
                     generalize w72.drew = w73 at HO_47 HO_54 HO_246001 HO_246002 BK244 BK245 HB hHeld ⊢
                     refine pure_ (i := 0) (N := some 90) (v := ?_) (a' := ?_) #[true, false, false, false, false, false, false, false, false, false, false, false, false] rfl rfl (any_of HT_.out (by kernel_rfl)) (fun _ _ _ h => h) (Or.inl ⟨by rfl, ?_⟩) ?_ ?_
                     rotate_left
                     ·intro w'
                      go_simp
                      with_reducible rfl
                     rotate_left
                     ·simp only [Act.put, List.setIfInBounds_toArray, List.set_cons_zero, List.set_cons_succ, i64_w, i32_w]
                      rfl
                     refine pure_ (i := 2) (N := some 92) (v := ?_) (a' := ?_) #[true, false, true, false, false, false, false, false, false, false, false, false, false] rfl rfl (any_of HT_.out (by kernel_rfl)) (fun _ _ _ h => h) (Or.inl ⟨by rfl, ?_⟩) ?_ ?_
                     rotate_left
                     ·intro w'
                      go_simp
                      with_reducible rfl
                     rotate_left
                     ·simp only [Act.put, List.setIfInBounds_toArray, List.set_cons_zero, List.set_cons_succ, i64_w, i32_w]
                      rfl
                     refine pure_ (i := 3) (N := some 93) (v := ?_) (a' := ?_) #[true, false, true, true, false, false, false, false, false, false, false, false, false] rfl rfl (any_of HT_.out (by kernel_rfl)) (fun _ _ _ h => h) (Or.inl ⟨by rfl, ?_⟩) ?_ ?_
                     rotate_left
                     ·intro w'
                      go_simp
                      with_reducible rfl
                     rotate_left
                     ·simp only [Act.put, List.setIfInBounds_toArray, List.set_cons_zero, List.set_cons_succ, i64_w, i32_w]
                      rfl
                     refine pure_ (i := 4) (N := some 94) (v := ?_) (a' := ?_) #[true, false, true, true, true, false, false, false, false, false, false, false, false] rfl rfl (any_of HT_.out (by kernel_rfl)) (fun _ _ _ h => h) (Or.inl ⟨by rfl, ?_⟩) ?_ ?_
                     rotate_left
                     ·intro w'
                      go_simp
                      with_reducible rfl
                     rotate_left
                     ·simp only [Act.put, List.setIfInBounds_toArray, List.set_cons_zero, List.set_cons_succ, i64_w, i32_w]
                      rfl
                     refine pure_ (i := 5) (N := some 95) (v := ?_) (a' := ?_) #[true, false, true, true, true, true, false, false, false, false, false, false, false] rfl rfl (any_of HT_.out (by kernel_rfl)) (fun _ _ _ h => h) (Or.inl ⟨by rfl, ?_⟩) ?_ ?_
                     rotate_left
                     ·intro w'
                      go_simp
                      with_reducible rfl
                     rotate_left
                     ·simp only [Act.put, List.setIfInBounds_toArray, List.set_cons_zero, List.set_cons_succ, i64_w, i32_w]
                      rfl
                     refine pure_ (i := 6) (N := some 96) (v := ?_) (a' := ?_) #[true, false, true, true, true, true, true, false, false, false, false, false, false] rfl rfl (any_of HT_.out (by kernel_rfl)) (fun _ _ _ h => h) (Or.inl ⟨by rfl, ?_⟩) ?_ ?_
                     rotate_left
                     ·intro w'
                      go_simp
                      with_reducible rfl
                     rotate_left
                     ·simp only [Act.put, List.setIfInBounds_toArray, List.set_cons_zero, List.set_cons_succ, i64_w, i32_w]
                      rfl
                     refine take_ (i := 1) (N := some 91) (v := ?_) (a' := ?_) #[true, true, true, true, true, true, true, false, false, false, false, false, false] rfl rfl (take_ofW HT_.out HW_.out (by kernel_rfl)) (fun _ _ _ h => h) (Or.inl ⟨by rfl, ?_⟩) hHeld ?_ ?_
                     rotate_left
                     ·rintro w' ⟨s0, s1, s2⟩
                      go_simp
                      with_reducible rfl
                     rotate_left
                     ·simp only [Act.put, List.setIfInBounds_toArray, List.set_cons_zero, List.set_cons_succ, i64_w, i32_w]
                      rfl
                     refine one_ (i := 7) (N := some 97) #[true, true, true, true, true, true, true, true, false, false, false, false, false] rfl rfl (one_of HT_.out (by kernel_rfl)) (by decide) (fun K hK => ?_)
                     refine goes_ Tryz.func61 (by kernel_rfl) rfl #[.int .i64 x12_60, .int .i64 t255, .int .i64 a2] (by rfl) rfl rfl (by (try simp only [List.map_toArray, List.map_cons, List.map_nil]); first | done | rfl | (simp only [List.length_drop, List.length_take]; rfl)) ?_
                     with_reducible refine (spec_merged.calls x12_60 t255 a2 t257 _ A68.out).mono ?_
                     rintro e w74 ⟨rfl, hb⟩
                     refine ⟨_, rfl, ?_⟩
                     have n0_ := Aside0.mk (Kd.R_below (by (with_reducible repeat (first | apply Kd.R_alloc | apply Kd.R_drewN | apply Kd.R_drew)); exact HO_47.out) hb)
                     have n1_ := Aside0.mk (Kd.R_below (by (with_reducible repeat (first | apply Kd.R_alloc | apply Kd.R_drewN | apply Kd.R_drew)); exact HO_54.out) hb)
                     have n2_ := Aside0.mk (Kd.R_below (by (with_reducible repeat (first | apply Kd.R_alloc | apply Kd.R_drewN | apply Kd.R_drew)); exact HO_246001.out) hb)
                     have n3_ := Aside0.mk (Kd.R_below (by (with_reducible repeat (first | apply Kd.R_alloc | apply Kd.R_drewN | apply Kd.R_drew)); exact HO_246002.out) hb)
                     have n4_ := Aside0.mk (blk_below (g := gb244) (o := .cells #[.bool a0_0, .slice A0_1 l0_1.length c0_1, .slice A0_2 l0_2.length c0_2] 25 (0, 0)) (by (with_reducible repeat (first | refine blk_drewN ?_ _ | refine blk_drew ?_ | refine blk_alloc ?_ _)); exact BK244.out) hb)
                     have n5_ := Aside0.mk (blk_below (g := gb245) (o := .cells #[.bool false, .slice (some ad250) t247.length co43, u246002] 25 (0, 0)) (by (with_reducible repeat (first | refine blk_drewN ?_ _ | refine blk_drew ?_ | refine blk_alloc ?_ _)); exact BK245.out) hb)
                     have n6_ := Aside0.mk (below_step (by repeat (first | (with_reducible first | exact HB.out | apply below_alloc | apply pw_below_drewN | apply below_drew1 | refine below_set ?_ GE244.out | refine below_set ?_ GE245.out) | exact HB.out)) hb)
                     clear HO_47
                     clear HO_54
                     clear HO_246001
                     clear HO_246002
                     clear BK244
                     clear BK245
                     clear HB
                     have HO_47 := n0_
                     have HO_54 := n1_
                     have HO_246001 := n2_
                     have HO_246002 := n3_
                     have BK244 := n4_
                     have BK245 := n5_
                     have HB := n6_
                     clear n0_ n1_ n2_ n3_ n4_ n5_ n6_
                     (try clear hb)
                     (try clear hb2)
                     (try clear hk)
                     (try clear hi)
                     refine hK.out _ _ ⟨(blk_cell BK245.out 0).trans rfl, (blk_cell BK245.out 1).trans rfl, (blk_cell BK245.out 2).trans rfl⟩ (fun hHeld => ?_)
                     clear hK K
                     refine norm_ (a' := ?_) ?_ ?_
                     rotate_left
                     ·show Act.put _ (some 97) _ = _
                      simp only [Act.put, List.setIfInBounds_toArray, List.set_cons_zero, List.set_cons_succ, i64_w, i32_w]
                      rfl
                     refine pure_ (i := 8) (N := some 98) (v := ?_) (a' := ?_) #[true, true, true, true, true, true, true, true, true, false, false, false, false] rfl rfl (any_of HT_.out (by kernel_rfl)) (fun _ _ _ h => h) (Or.inl ⟨by rfl, ?_⟩) ?_ ?_
                     rotate_left
                     ·intro w'
                      go_simp
                      with_reducible rfl
                     rotate_left
                     ·simp only [Act.put, List.setIfInBounds_toArray, List.set_cons_zero, List.set_cons_succ, i64_w, i32_w]
                      rfl
                     refine one_ (i := 9) (N := some 99) #[true, true, true, true, true, true, true, true, true, true, false, false, false] rfl rfl (one_of HT_.out (by kernel_rfl)) (by decide) (fun K hK => ?_)
                     refine value_ (w1 := ?_) (v := ?_) (by rfl) rfl ?_ ?_
                     rotate_left 2
                     ·go_simp
                      constructor
                      ·rfl
                      ·rfl
                     refine hK.out _ _ ⟨(blk_cell (blk_alloc BK245.out _) 0).trans rfl, (blk_cell (blk_alloc BK245.out _) 1).trans rfl, (blk_cell (blk_alloc BK245.out _) 2).trans rfl⟩ (fun hHeld => ?_)
                     clear hK K
                     refine norm_ (a' := ?_) ?_ ?_
                     rotate_left
                     ·show Act.put _ (some 99) _ = _
                      simp only [Act.put, List.setIfInBounds_toArray, List.set_cons_zero, List.set_cons_succ, i64_w, i32_w]
                      rfl
                     refine one_ (i := 10) (N := some 100) #[true, true, true, true, true, true, true, true, true, true, true, false, false] rfl rfl (one_of HT_.out (by kernel_rfl)) (by decide) (fun K hK => ?_)
                     refine Kd.R_append_step k38 (w0 := w) w.heap.size (by rfl) (.tmp 91) (.tmp 99) 23 38 (.agg #[(.int .i64 0), (.int .i64 0), (.int .i64 0)]) 24 rfl Tryz.underlying23 info38 rfl (by decide) (by omega) u246002 x246002_3 (⟨(rd t247 x49_2), (rd t247 x56_3), t257⟩ : S38) [.int .i64 (rd t247 x49_2), .int .i64 (rd t247 x56_3), .int .i64 t257] (fun _ => True) (fun _ => False) rfl rfl ?aP (fun _ hk => hk.elim) ?aF ?aO ?aB ?aS ?aL ?_
                     (case aP => exact k38_mkM _ _ _ (⟨(rd t247 x49_2), (rd t247 x56_3), t257⟩ : S38))
                     (case aB => exact (by repeat (first | (with_reducible first | exact HB.out | apply below_alloc | apply pw_below_drewN | apply below_drew1 | refine below_set ?_ GE244.out | refine below_set ?_ GE245.out) | exact HB.out)))
                     (case aF => exact (fun _ _ => trivial))
                     (case aO => exact (by (with_reducible repeat (first | apply Kd.R_alloc | apply Kd.R_drewN | apply Kd.R_drew)); exact HO_246002.out))
                     (case aS => exact (below_size (by repeat (first | (with_reducible first | exact HB.out | apply below_alloc | apply pw_below_drewN | apply below_drew1 | refine below_set ?_ GE244.out | refine below_set ?_ GE245.out) | exact HB.out))))
                     (case aL => have := LMc69.out; omega)
                     intro v259 w75 ho hb hg hat
                     rw [← Ny258.out] at ho
                     have n0_ := Aside0.mk (Kd.R_over' (by (with_reducible repeat (first | apply Kd.R_alloc | apply Kd.R_drewN | apply Kd.R_drew)); exact HO_47.out) (Kd.R_typed (by (with_reducible repeat (first | apply Kd.R_alloc | apply Kd.R_drewN | apply Kd.R_drew)); exact HO_246002.out)) (by decide) hg)
                     have n1_ := Aside0.mk (Kd.R_over' (by (with_reducible repeat (first | apply Kd.R_alloc | apply Kd.R_drewN | apply Kd.R_drew)); exact HO_54.out) (Kd.R_typed (by (with_reducible repeat (first | apply Kd.R_alloc | apply Kd.R_drewN | apply Kd.R_drew)); exact HO_246002.out)) (by decide) hg)
                     have n2_ := Aside0.mk (Kd.R_over' (by (with_reducible repeat (first | apply Kd.R_alloc | apply Kd.R_drewN | apply Kd.R_drew)); exact HO_246001.out) (Kd.R_typed (by (with_reducible repeat (first | apply Kd.R_alloc | apply Kd.R_drewN | apply Kd.R_drew)); exact HO_246002.out)) (by decide) hg)
                     have n3_ := Aside0.mk (blk_grown (g := gb244) (o := .cells #[.bool a0_0, .slice A0_1 l0_1.length c0_1, .slice A0_2 l0_2.length c0_2] 25 (0, 0)) (by (with_reducible repeat (first | refine blk_drewN ?_ _ | refine blk_drew ?_ | refine blk_alloc ?_ _)); exact BK244.out) hg (Kd.R_ne HO_246002.out BK244.out (by decide)))
                     have n4_ := Aside0.mk (blk_grown (g := gb245) (o := .cells #[.bool false, .slice (some ad250) t247.length co43, u246002] 25 (0, 0)) (by (with_reducible repeat (first | refine blk_drewN ?_ _ | refine blk_drew ?_ | refine blk_alloc ?_ _)); exact BK245.out) hg (Kd.R_ne HO_246002.out BK245.out (by decide)))
                     have n5_ := Aside0.mk (hb)
                     have n6_ := Aside0.mk (ho)
                     clear HO_47
                     clear HO_54
                     clear HO_246001
                     clear BK244
                     clear BK245
                     clear HB
                     clear HO_246002
                     have HO_47 := n0_
                     have HO_54 := n1_
                     have HO_246001 := n2_
                     have BK244 := n3_
                     have BK245 := n4_
                     have HB := n5_
                     have HO260 := n6_
                     clear n0_ n1_ n2_ n3_ n4_ n5_ n6_
                     clear ho hb hg hat
                     obtain ⟨Ao76, co76, eo76⟩ := Kd.R_slice HO260.out
                     (first | subst eo76 | (injection eo76 with f1_ f2_ f3_; have f4_ := f1_.symm; have f5_ := f3_.symm; clear f1_ f2_ f3_; subst f4_; subst f5_))
                     refine hK.out _ _ ⟨(blk_cell BK245.out 0).trans rfl, (blk_cell BK245.out 1).trans rfl, (blk_cell BK245.out 2).trans rfl⟩ (fun hHeld => ?_)
                     clear hK K
                     refine norm_ (a' := ?_) ?_ ?_
                     rotate_left
                     ·show Act.put _ (some 100) _ = _
                      simp only [Act.put, List.setIfInBounds_toArray, List.set_cons_zero, List.set_cons_succ, i64_w, i32_w]
                      rfl
                     refine pure_ (i := 11) (N := some 101) (v := ?_) (a' := ?_) #[true, true, true, true, true, true, true, true, true, true, true, true, false] rfl rfl (any_of HT_.out (by kernel_rfl)) (fun _ _ _ h => h) (Or.inl ⟨by rfl, ?_⟩) ?_ ?_
                     rotate_left
                     ·intro w'
                      go_simp
                      with_reducible rfl
                     rotate_left
                     ·simp only [Act.put, List.setIfInBounds_toArray, List.set_cons_zero, List.set_cons_succ, i64_w, i32_w]
                      rfl
                     refine last_ (i := 12) (N := none) #[true, true, true, true, true, true, true, true, true, true, true, true, true] rfl rfl (one_of HT_.out (by kernel_rfl)) (by decide) (fun K hK => ?_)
                     have hs77 : w75.cell? ⟨gb245, 2, none⟩ = some (u246002) := (blk_cell BK245.out 2).trans rfl
                     have hfs77 := blk_frozen BK245.out 2
                     have hns77_0 := NB244_245.out
                     have hms77_0 := NB245_244.out
                     refine skip_ (w1 := ?_) (by rfl) rfl ?_ ?_
                     rotate_left
                     ·go_simp
                      rfl
                     refine hK.out _ _ ?_
                     clear hK K
                     refine done_ (done_of HT_.out (by kernel_rfl)) ?_
                     try go_wp2
                     go_roundg kj60
                     case measure => have := HJ3.out; have := HK2.out; have := HK3.out; have := HJ52.out; have := HJ60.out; omega
                     case rel => exact ⟨(wrap64 (x56_3 + 1)), (y258), (.slice Ao76 y258.length co76), (by first | rfl | (simp; done) | (simp [*]; done)), H', ⟨by have := HJ3.out; have := HK2.out; have := HK3.out; have := HJ52.out; have := HJ60.out; omega⟩, ⟨by (with_reducible repeat (first | apply Kd.R_alloc | apply Kd.R_drewN | apply Kd.R_drew)); exact Kd.R_mono (Kd.R_far (p := ⟨gb245, 2, none⟩) (Kd.R_types HO_47.out BK245.out (by decide)) (fun _ hk => hk.2) (.slice Ao76 y258.length co76)) (fun _ hk => trivial)⟩, ⟨by (with_reducible repeat (first | apply Kd.R_alloc | apply Kd.R_drewN | apply Kd.R_drew)); exact Kd.R_mono (Kd.R_far (p := ⟨gb245, 2, none⟩) (Kd.R_types HO_54.out BK245.out (by decide)) (fun _ hk => hk.2) (.slice Ao76 y258.length co76)) (fun _ hk => trivial)⟩, ⟨by (with_reducible repeat (first | apply Kd.R_alloc | apply Kd.R_drewN | apply Kd.R_drew)); exact Kd.R_mono (Kd.R_far (p := ⟨gb245, 2, none⟩) (Kd.R_types HO_246001.out BK245.out (by decide)) (fun _ hk => hk.2) (.slice Ao76 y258.length co76)) (fun _ hk => trivial)⟩, ⟨by (with_reducible repeat (first | apply Kd.R_alloc | apply Kd.R_drewN | apply Kd.R_drew)); exact Kd.R_mono (Kd.R_far (p := ⟨gb245, 2, none⟩) (Kd.R_types HO260.out BK245.out (by decide)) (fun _ hk => hk.2) (.slice Ao76 y258.length co76)) (fun _ hk => trivial)⟩, ⟨by (with_reducible repeat (first | refine blk_drewN ?_ _ | refine blk_drew ?_ | refine blk_alloc ?_ _)); refine blk_far ?_ NB244_245.out _; (with_reducible repeat (first | refine blk_drewN ?_ _ | refine blk_drew ?_ | refine blk_alloc ?_ _)); exact BK244.out⟩, ⟨by (with_reducible repeat (first | refine blk_drewN ?_ _ | refine blk_drew ?_ | refine blk_alloc ?_ _)); refine blk_put (cs := #[.bool false, .slice (some ad250) t247.length co43, u246002]) ?_ 2 _ rfl; (with_reducible repeat (first | refine blk_drewN ?_ _ | refine blk_drew ?_ | refine blk_alloc ?_ _)); exact BK245.out⟩, ⟨by repeat (first | (with_reducible first | exact HB.out | apply below_alloc | apply pw_below_drewN | apply below_drew1 | refine below_set ?_ GE244.out | refine below_set ?_ GE245.out) | exact HB.out)⟩⟩
                    ·rw [if_neg c69] at H
                     exact absurd H (by simp)
                   ·replace c67 := Bool.eq_false_iff.mpr c67
                    subst c67
                    have H1 : ((spec_merged.f x12_60 a1 a2).bind fun t261 => (if x246002_3.length < 5864062014805 then (spec_UndirectWeighted.l1 kj60 a1 a2 (rd t247 x49_2) t247 (t247.length : Int) x49_2 t247 (t247.length : Int) (wrap64 (x56_3 + 1)) a0_0 l0_1 l0_2 false t247 (x246002_3 ++ [(⟨(rd t247 x49_2), (rd t247 x56_3), t261⟩ : S38)])) else (none))) = some (r1, r2, r3, r4) := by rw [if_neg (show ¬ (false = true) by decide)] at H; exact H
                    clear H
                    have H := H1
                    clear H1
                    replace H := Option.bind_eq_some_iff.mp H
                    obtain ⟨t261, A780, H⟩ := H
                    replace H : (if x246002_3.length < 5864062014805 then (spec_UndirectWeighted.l1 kj60 a1 a2 (rd t247 x49_2) t247 (t247.length : Int) x49_2 t247 (t247.length : Int) (wrap64 (x56_3 + 1)) a0_0 l0_1 l0_2 false t247 (x246002_3 ++ [(⟨(rd t247 x49_2), (rd t247 x56_3), t261⟩ : S38)])) else (none)) = some (r1, r2, r3, r4) := H
                    have A78 := Aside0.mk A780
                    clear A780
                    by_cases c79 : x246002_3.length < 5864062014805
                    ·rw [if_pos c79] at H
                     have LMc79 := Aside0.mk c79
                     clear c79
                     obtain ⟨y262, hy262⟩ : ∃ y_ : List (S38), y_ = (x246002_3 ++ [(⟨(rd t247 x49_2), (rd t247 x56_3), t261⟩ : S38)]) := ⟨_, rfl⟩
                     replace H : (spec_UndirectWeighted.l1 kj60 a1 a2 (rd t247 x49_2) t247 (t247.length : Int) x49_2 t247 (t247.length : Int) (wrap64 (x56_3 + 1)) a0_0 l0_1 l0_2 false t247 y262) = some (r1, r2, r3, r4) := by first | (rw [hy262]; with_reducible exact H) | (have H2_ := (Option.bind_some _ _).symm.trans H; rw [hy262]; with_reducible exact H2_) | (have H2_ := (Option.bind_some _ _).symm.trans H; with_reducible exact H2_) | with_reducible exact H | (rw [hy262]; exact H) | exact H
                     have Ny262 := Aside0.mk hy262
                     clear hy262
                     have H' := Aside0.mk H
                     clear H
                     have hnb80 := NB244_245.out
                     have hnc80 := NB245_244.out
                     have hcz81_0 : wc.cell? ⟨gb244, 0, none⟩ = some (.bool a0_0) := (blk_cell BK244.out 0).trans rfl
                     have hcz81_1 : wc.cell? ⟨gb244, 1, none⟩ = some (.slice A0_1 l0_1.length c0_1) := (blk_cell BK244.out 1).trans rfl
                     have hcz81_2 : wc.cell? ⟨gb244, 2, none⟩ = some (.slice A0_2 l0_2.length c0_2) := (blk_cell BK244.out 2).trans rfl
                     have hfz81_0 := blk_frozen BK244.out 0
                     have hfz81_1 := blk_frozen BK244.out 1
                     have hfz81_2 := blk_frozen BK244.out 2
                     try go_wp2_with (first | ((with_reducible refine gate_callee (f := 60) rfl ?_); refine goesL_ (some 85) rfl rfl Tryz.func60 (by kernel_rfl) rfl #[.agg #[.bool a0_0, .slice A0_1 l0_1.length c0_1, .slice A0_2 l0_2.length c0_2], .int .i64 (rd t247 x56_3), .int .i64 (rd t247 x49_2)] rfl (by (try simp only [List.map_toArray, List.map_cons, List.map_nil]); first | done | rfl | (simp only [List.length_drop, List.length_take]; rfl)) ?_; (with_reducible refine (spec_Weight.calls kj60 a0_0 _ _ l0_1 _ _ l0_2 (rd t247 x56_3) (rd t247 x49_2) t255 false _ ?side1 ?side2 ?side3 ?side4 A66.out).mono ?_); (case side1 => repeat (first | exact (Kd.C_below HR0_1.out HB.out) | (with_reducible refine Kd.C_alloc ?_ _) | (with_reducible refine Kd.C_drewN ?_ _) | (with_reducible refine Kd.C_drew ?_))); (case side2 => exact HC0_1.out); (case side3 => repeat (first | exact (Kd.C_below HR0_2.out HB.out) | (with_reducible refine Kd.C_alloc ?_ _) | (with_reducible refine Kd.C_drewN ?_ _) | (with_reducible refine Kd.C_drew ?_))); (case side4 => exact HC0_2.out); rintro e w82 ⟨rfl, hb⟩; refine ⟨_, rfl, ?_⟩; have n0_ := Aside0.mk (Kd.R_below (by (with_reducible repeat (first | apply Kd.R_alloc | apply Kd.R_drewN | apply Kd.R_drew)); exact HO_47.out) hb); have n1_ := Aside0.mk (Kd.R_below (by (with_reducible repeat (first | apply Kd.R_alloc | apply Kd.R_drewN | apply Kd.R_drew)); exact HO_54.out) hb); have n2_ := Aside0.mk (Kd.R_below (by (with_reducible repeat (first | apply Kd.R_alloc | apply Kd.R_drewN | apply Kd.R_drew)); exact HO_246001.out) hb); have n3_ := Aside0.mk (Kd.R_below (by (with_reducible repeat (first | apply Kd.R_alloc | apply Kd.R_drewN | apply Kd.R_drew)); exact HO_246002.out) hb); have n4_ := Aside0.mk (blk_below (g := gb244) (o := .cells #[.bool a0_0, .slice A0_1 l0_1.length c0_1, .slice A0_2 l0_2.length c0_2] 25 (0, 0)) (by (with_reducible repeat (first | refine blk_drewN ?_ _ | refine blk_drew ?_ | refine blk_alloc ?_ _)); exact BK244.out) hb); have n5_ := Aside0.mk (blk_below (g := gb245) (o := .cells #[.bool false, .slice (some ad250) t247.length co43, u246002] 25 (0, 0)) (by (with_reducible repeat (first | refine blk_drewN ?_ _ | refine blk_drew ?_ | refine blk_alloc ?_ _)); exact BK245.out) hb); have n6_ := Aside0.mk (below_step (by repeat (first | (with_reducible first | exact HB.out | apply below_alloc | apply pw_below_drewN | apply below_drew1 | refine below_set ?_ GE244.out | refine below_set ?_ GE245.out) | exact HB.out)) hb); clear HO_47; clear HO_54; clear HO_246001; clear HO_246002; clear BK244; clear BK245; clear HB; have HO_47 := n0_; have HO_54 := n1_; have HO_246001 := n2_; have HO_246002 := n3_; have BK244 := n4_; have BK245 := n5_; have HB := n6_; clear n0_ n1_ n2_ n3_ n4_ n5_ n6_; (try clear hb); (try clear hb2); (try clear hk); (try clear hi)))
                     have n0_ := Aside0.mk (Kd.R_drew HO_47.out)
                     have n1_ := Aside0.mk (Kd.R_drew HO_54.out)
                     have n2_ := Aside0.mk (Kd.R_drew HO_246001.out)
                     have n3_ := Aside0.mk (Kd.R_drew HO_246002.out)
                     have n4_ := Aside0.mk (blk_drew BK244.out)
                     have n5_ := Aside0.mk (blk_drew BK245.out)
                     have n6_ := Aside0.mk (below_drew1 HB.out)
                     clear HO_47
                     clear HO_54
                     clear HO_246001
                     clear HO_246002
                     clear BK244
                     clear BK245
                     clear HB
                     have HO_47 := n0_
                     have HO_54 := n1_
                     have HO_246001 := n2_
                     have HO_246002 := n3_
                     have BK244 := n4_
                     have BK245 := n5_
                     have HB := n6_
                     clear n0_ n1_ n2_ n3_ n4_ n5_ n6_
                     refine start_ (n := 13) (S := fun w' => w'.cell? ⟨gb245, 0, none⟩ = some (.bool false) ∧ w'.cell? ⟨gb245, 1, none⟩ = some (.slice (some ad250) t247.length co43) ∧ w'.cell? ⟨gb245, 2, none⟩ = some (u246002)) (ds := [12]) #[false, false, false, false, false, false, false, false, false, false, false, false, false] (by kernel_rfl) rfl rfl ⟨(blk_cell BK245.out 0).trans rfl, (blk_cell BK245.out 1).trans rfl, (blk_cell BK245.out 2).trans rfl⟩ (fun hHeld => ?_); refine with_tabW spec_UndirectWeighted.tab18 spec_UndirectWeighted.bits18 (fun HT_ HW_ => ?_)
                     generalize w82.drew = w83 at HO_47 HO_54 HO_246001 HO_246002 BK244 BK245 HB hHeld ⊢
                     refine pure_ (i := 0) (N := some 90) (v := ?_) (a' := ?_) #[true, false, false, false, false, false, false, false, false, false, false, false, false] rfl rfl (any_of HT_.out (by kernel_rfl)) (fun _ _ _ h => h) (Or.inl ⟨by rfl, ?_⟩) ?_ ?_
                     rotate_left
                     ·intro w'
                      go_simp
                      with_reducible rfl
                     rotate_left
                     ·simp only [Act.put, List.setIfInBounds_toArray, List.set_cons_zero, List.set_cons_succ, i64_w, i32_w]
                      rfl
                     refine pure_ (i := 2) (N := some 92) (v := ?_) (a' := ?_) #[true, false, true, false, false, false, false, false, false, false, false, false, false] rfl rfl (any_of HT_.out (by kernel_rfl)) (fun _ _ _ h => h) (Or.inl ⟨by rfl, ?_⟩) ?_ ?_
                     rotate_left
                     ·intro w'
                      go_simp
                      with_reducible rfl
                     rotate_left
                     ·simp only [Act.put, List.setIfInBounds_toArray, List.set_cons_zero, List.set_cons_succ, i64_w, i32_w]
                      rfl
                     refine pure_ (i := 3) (N := some 93) (v := ?_) (a' := ?_) #[true, false, true, true, false, false, false, false, false, false, false, false, false] rfl rfl (any_of HT_.out (by kernel_rfl)) (fun _ _ _ h => h) (Or.inl ⟨by rfl, ?_⟩) ?_ ?_
                     rotate_left
                     ·intro w'
                      go_simp
                      with_reducible rfl
                     rotate_left
                     ·simp only [Act.put, List.setIfInBounds_toArray, List.set_cons_zero, List.set_cons_succ, i64_w, i32_w]
                      rfl
                     refine pure_ (i := 4) (N := some 94) (v := ?_) (a' := ?_) #[true, false, true, true, true, false, false, false, false, false, false, false, false] rfl rfl (any_of HT_.out (by kernel_rfl)) (fun _ _ _ h => h) (Or.inl ⟨by rfl, ?_⟩) ?_ ?_
                     rotate_left
                     ·intro w'
                      go_simp
                      with_reducible rfl
                     rotate_left
                     ·simp only [Act.put, List.setIfInBounds_toArray, List.set_cons_zero, List.set_cons_succ, i64_w, i32_w]
                      rfl
                     refine pure_ (i := 5) (N := some 95) (v := ?_) (a' := ?_) #[true, false, true, true, true, true, false, false, false, false, false, false, false] rfl rfl (any_of HT_.out (by kernel_rfl)) (fun _ _ _ h => h) (Or.inl ⟨by rfl, ?_⟩) ?_ ?_
                     rotate_left
                     ·intro w'
                      go_simp
                      with_reducible rfl
                     rotate_left
                     ·simp only [Act.put, List.setIfInBounds_toArray, List.set_cons_zero, List.set_cons_succ, i64_w, i32_w]
                      rfl
                     refine pure_ (i := 6) (N := some 96) (v := ?_) (a' := ?_) #[true, false, true, true, true, true, true, false, false, false, false, false, false] rfl rfl (any_of HT_.out (by kernel_rfl)) (fun _ _ _ h => h) (Or.inl ⟨by rfl, ?_⟩) ?_ ?_
                     rotate_left
                     ·intro w'
                      go_simp
                      with_reducible rfl
                     rotate_left
                     ·simp only [Act.put, List.setIfInBounds_toArray, List.set_cons_zero, List.set_cons_succ, i64_w, i32_w]
                      rfl
                     refine take_ (i := 1) (N := some 91) (v := ?_) (a' := ?_) #[true, true, true, true, true, true, true, false, false, false, false, false, false] rfl rfl (take_ofW HT_.out HW_.out (by kernel_rfl)) (fun _ _ _ h => h) (Or.inl ⟨by rfl, ?_⟩) hHeld ?_ ?_
                     rotate_left
                     ·rintro w' ⟨s0, s1, s2⟩
                      go_simp
                      with_reducible rfl
                     rotate_left
                     ·simp only [Act.put, List.setIfInBounds_toArray, List.set_cons_zero, List.set_cons_succ, i64_w, i32_w]
                      rfl
                     refine one_ (i := 7) (N := some 97) #[true, true, true, true, true, true, true, true, false, false, false, false, false] rfl rfl (one_of HT_.out (by kernel_rfl)) (by decide) (fun K hK => ?_)
                     refine goes_ Tryz.func61 (by kernel_rfl) rfl #[.int .i64 x12_60, .int .i64 a1, .int .i64 a2] (by rfl) rfl rfl (by (try simp only [List.map_toArray, List.map_cons, List.map_nil]); first | done | rfl | (simp only [List.length_drop, List.length_take]; rfl)) ?_
                     with_reducible refine (spec_merged.calls x12_60 a1 a2 t261 _ A78.out).mono ?_
                     rintro e w84 ⟨rfl, hb⟩
                     refine ⟨_, rfl, ?_⟩
                     have n0_ := Aside0.mk (Kd.R_below (by (with_reducible repeat (first | apply Kd.R_alloc | apply Kd.R_drewN | apply Kd.R_drew)); exact HO_47.out) hb)
                     have n1_ := Aside0.mk (Kd.R_below (by (with_reducible repeat (first | apply Kd.R_alloc | apply Kd.R_drewN | apply Kd.R_drew)); exact HO_54.out) hb)
                     have n2_ := Aside0.mk (Kd.R_below (by (with_reducible repeat (first | apply Kd.R_alloc | apply Kd.R_drewN | apply Kd.R_drew)); exact HO_246001.out) hb)
                     have n3_ := Aside0.mk (Kd.R_below (by (with_reducible repeat (first | apply Kd.R_alloc | apply Kd.R_drewN | apply Kd.R_drew)); exact HO_246002.out) hb)
                     have n4_ := Aside0.mk (blk_below (g := gb244) (o := .cells #[.bool a0_0, .slice A0_1 l0_1.length c0_1, .slice A0_2 l0_2.length c0_2] 25 (0, 0)) (by (with_reducible repeat (first | refine blk_drewN ?_ _ | refine blk_drew ?_ | refine blk_alloc ?_ _)); exact BK244.out) hb)
                     have n5_ := Aside0.mk (blk_below (g := gb245) (o := .cells #[.bool false, .slice (some ad250) t247.length co43, u246002] 25 (0, 0)) (by (with_reducible repeat (first | refine blk_drewN ?_ _ | refine blk_drew ?_ | refine blk_alloc ?_ _)); exact BK245.out) hb)
                     have n6_ := Aside0.mk (below_step (by repeat (first | (with_reducible first | exact HB.out | apply below_alloc | apply pw_below_drewN | apply below_drew1 | refine below_set ?_ GE244.out | refine below_set ?_ GE245.out) | exact HB.out)) hb)
                     clear HO_47
                     clear HO_54
                     clear HO_246001
                     clear HO_246002
                     clear BK244
                     clear BK245
                     clear HB
                     have HO_47 := n0_
                     have HO_54 := n1_
                     have HO_246001 := n2_
                     have HO_246002 := n3_
                     have BK244 := n4_
                     have BK245 := n5_
                     have HB := n6_
                     clear n0_ n1_ n2_ n3_ n4_ n5_ n6_
                     (try clear hb)
                     (try clear hb2)
                     (try clear hk)
                     (try clear hi)
                     refine hK.out _ _ ⟨(blk_cell BK245.out 0).trans rfl, (blk_cell BK245.out 1).trans rfl, (blk_cell BK245.out 2).trans rfl⟩ (fun hHeld => ?_)
                     clear hK K
                     refine norm_ (a' := ?_) ?_ ?_
                     rotate_left
                     ·show Act.put _ (some 97) _ = _
                      simp only [Act.put, List.setIfInBounds_toArray, List.set_cons_zero, List.set_cons_succ, i64_w, i32_w]
                      rfl
                     refine pure_ (i := 8) (N := some 98) (v := ?_) (a' := ?_) #[true, true, true, true, true, true, true, true, true, false, false, false, false] rfl rfl (any_of HT_.out (by kernel_rfl)) (fun _ _ _ h => h) (Or.inl ⟨by rfl, ?_⟩) ?_ ?_
                     rotate_left
                     ·intro w'
                      go_simp
                      with_reducible rfl
                     rotate_left
                     ·simp only [Act.put, List.setIfInBounds_toArray, List.set_cons_zero, List.set_cons_succ, i64_w, i32_w]
                      rfl
                     refine one_ (i := 9) (N := some 99) #[true, true, true, true, true, true, true, true, true, true, false, false, false] rfl rfl (one_of HT_.out (by kernel_rfl)) (by decide) (fun K hK => ?_)
                     refine value_ (w1 := ?_) (v := ?_) (by rfl) rfl ?_ ?_
                     rotate_left 2
                     ·go_simp
                      constructor
                      ·rfl
                      ·rfl
                     refine hK.out _ _ ⟨(blk_cell (blk_alloc BK245.out _) 0).trans rfl, (blk_cell (blk_alloc BK245.out _) 1).trans rfl, (blk_cell (blk_alloc BK245.out _) 2).trans rfl⟩ (fun hHeld => ?_)
                     clear hK K
                     refine norm_ (a' := ?_) ?_ ?_
                     rotate_left
                     ·show Act.put _ (some 99) _ = _
                      simp only [Act.put, List.setIfInBounds_toArray, List.set_cons_zero, List.set_cons_succ, i64_w, i32_w]
                      rfl
                     refine one_ (i := 10) (N := some 100) #[true, true, true, true, true, true, true, true, true, true, true, false, false] rfl rfl (one_of HT_.out (by kernel_rfl)) (by decide) (fun K hK => ?_)
                     refine Kd.R_append_step k38 (w0 := w) w.heap.size (by rfl) (.tmp 91) (.tmp 99) 23 38 (.agg #[(.int .i64 0), (.int .i64 0), (.int .i64 0)]) 24 rfl Tryz.underlying23 info38 rfl (by decide) (by omega) u246002 x246002_3 (⟨(rd t247 x49_2), (rd t247 x56_3), t261⟩ : S38) [.int .i64 (rd t247 x49_2), .int .i64 (rd t247 x56_3), .int .i64 t261] (fun _ => True) (fun _ => False) rfl rfl ?aP (fun _ hk => hk.elim) ?aF ?aO ?aB ?aS ?aL ?_
                     (case aP => exact k38_mkM _ _ _ (⟨(rd t247 x49_2), (rd t247 x56_3), t261⟩ : S38))
                     (case aB => exact (by repeat (first | (with_reducible first | exact HB.out | apply below_alloc | apply pw_below_drewN | apply below_drew1 | refine below_set ?_ GE244.out | refine below_set ?_ GE245.out) | exact HB.out)))
                     (case aF => exact (fun _ _ => trivial))
                     (case aO => exact (by (with_reducible repeat (first | apply Kd.R_alloc | apply Kd.R_drewN | apply Kd.R_drew)); exact HO_246002.out))
                     (case aS => exact (below_size (by repeat (first | (with_reducible first | exact HB.out | apply below_alloc | apply pw_below_drewN | apply below_drew1 | refine below_set ?_ GE244.out | refine below_set ?_ GE245.out) | exact HB.out))))
                     (case aL => have := LMc79.out; omega)
                     intro v263 w85 ho hb hg hat
                     rw [← Ny262.out] at ho
                     have n0_ := Aside0.mk (Kd.R_over' (by (with_reducible repeat (first | apply Kd.R_alloc | apply Kd.R_drewN | apply Kd.R_drew)); exact HO_47.out) (Kd.R_typed (by (with_reducible repeat (first | apply Kd.R_alloc | apply Kd.R_drewN | apply Kd.R_drew)); exact HO_246002.out)) (by decide) hg)
                     have n1_ := Aside0.mk (Kd.R_over' (by (with_reducible repeat (first | apply Kd.R_alloc | apply Kd.R_drewN | apply Kd.R_drew)); exact HO_54.out) (Kd.R_typed (by (with_reducible repeat (first | apply Kd.R_alloc | apply Kd.R_drewN | apply Kd.R_drew)); exact HO_246002.out)) (by decide) hg)
                     have n2_ := Aside0.mk (Kd.R_over' (by (with_reducible repeat (first | apply Kd.R_alloc | apply Kd.R_drewN | apply Kd.R_drew)); exact HO_246001.out) (Kd.R_typed (by (with_reducible repeat (first | apply Kd.R_alloc | apply Kd.R_drewN | apply Kd.R_drew)); exact HO_246002.out)) (by decide) hg)
                     have n3_ := Aside0.mk (blk_grown (g := gb244) (o := .cells #[.bool a0_0, .slice A0_1 l0_1.length c0_1, .slice A0_2 l0_2.length c0_2] 25 (0, 0)) (by (with_reducible repeat (first | refine blk_drewN ?_ _ | refine blk_drew ?_ | refine blk_alloc ?_ _)); exact BK244.out) hg (Kd.R_ne HO_246002.out BK244.out (by decide)))
                     have n4_ := Aside0.mk (blk_grown (g := gb245) (o := .cells #[.bool false, .slice (some ad250) t247.length co43, u246002] 25 (0, 0)) (by (with_reducible repeat (first | refine blk_drewN ?_ _ | refine blk_drew ?_ | refine blk_alloc ?_ _)); exact BK245.out) hg (Kd.R_ne HO_246002.out BK245.out (by decide)))
                     have n5_ := Aside0.mk (hb)
                     have n6_ := Aside0.mk (ho)
                     clear HO_47
                     clear HO_54
                     clear HO_246001
                     clear BK244
                     clear BK245
                     clear HB
                     clear HO_246002
                     have HO_47 := n0_
                     have HO_54 := n1_
                     have HO_246001 := n2_
                     have BK244 := n3_
                     have BK245 := n4_
                     have HB := n5_
                     have HO264 := n6_
                     clear n0_ n1_ n2_ n3_ n4_ n5_ n6_
                     clear ho hb hg hat
                     obtain ⟨Ao86, co86, eo86⟩ := Kd.R_slice HO264.out
                     (first | subst eo86 | (injection eo86 with f1_ f2_ f3_; have f4_ := f1_.symm; have f5_ := f3_.symm; clear f1_ f2_ f3_; subst f4_; subst f5_))
                     refine hK.out _ _ ⟨(blk_cell BK245.out 0).trans rfl, (blk_cell BK245.out 1).trans rfl, (blk_cell BK245.out 2).trans rfl⟩ (fun hHeld => ?_)
                     clear hK K
                     refine norm_ (a' := ?_) ?_ ?_
                     rotate_left
                     ·show Act.put _ (some 100) _ = _
                      simp only [Act.put, List.setIfInBounds_toArray, List.set_cons_zero, List.set_cons_succ, i64_w, i32_w]
                      rfl
                     refine pure_ (i := 11) (N := some 101) (v := ?_) (a' := ?_) #[true, true, true, true, true, true, true, true, true, true, true, true, false] rfl rfl (any_of HT_.out (by kernel_rfl)) (fun _ _ _ h => h) (Or.inl ⟨by rfl, ?_⟩) ?_ ?_
                     rotate_left
                     ·intro w'
                      go_simp
                      with_reducible rfl
                     rotate_left
                     ·simp only [Act.put, List.setIfInBounds_toArray, List.set_cons_zero, List.set_cons_succ, i64_w, i32_w]
                      rfl
                     refine last_ (i := 12) (N := none) #[true, true, true, true, true, true, true, true, true, true, true, true, true] rfl rfl (one_of HT_.out (by kernel_rfl)) (by decide) (fun K hK => ?_)
                     have hs87 : w85.cell? ⟨gb245, 2, none⟩ = some (u246002) := (blk_cell BK245.out 2).trans rfl
                     have hfs87 := blk_frozen BK245.out 2
                     have hns87_0 := NB244_245.out
                     have hms87_0 := NB245_244.out
                     refine skip_ (w1 := ?_) (by rfl) rfl ?_ ?_
                     rotate_left
                     ·go_simp
                      rfl
                     refine hK.out _ _ ?_
                     clear hK K
                     refine done_ (done_of HT_.out (by kernel_rfl)) ?_
                     try go_wp2
                     go_roundg kj60
                     case measure => have := HJ3.out; have := HK2.out; have := HK3.out; have := HJ52.out; have := HJ60.out; omega
                     case rel => exact ⟨(wrap64 (x56_3 + 1)), (y262), (.slice Ao86 y262.length co86), (by first | rfl | (simp; done) | (simp [*]; done)), H', ⟨by have := HJ3.out; have := HK2.out; have := HK3.out; have := HJ52.out; have := HJ60.out; omega⟩, ⟨by (with_reducible repeat (first | apply Kd.R_alloc | apply Kd.R_drewN | apply Kd.R_drew)); exact Kd.R_mono (Kd.R_far (p := ⟨gb245, 2, none⟩) (Kd.R_types HO_47.out BK245.out (by decide)) (fun _ hk => hk.2) (.slice Ao86 y262.length co86)) (fun _ hk => trivial)⟩, ⟨by (with_reducible repeat (first | apply Kd.R_alloc | apply Kd.R_drewN | apply Kd.R_drew)); exact Kd.R_mono (Kd.R_far (p := ⟨gb245, 2, none⟩) (Kd.R_types HO_54.out BK245.out (by decide)) (fun _ hk => hk.2) (.slice Ao86 y262.length co86)) (fun _ hk => trivial)⟩, ⟨by (with_reducible repeat (first | apply Kd.R_alloc | apply Kd.R_drewN | apply Kd.R_drew)); exact Kd.R_mono (Kd.R_far (p := ⟨gb245, 2, none⟩) (Kd.R_types HO_246001.out BK245.out (by decide)) (fun _ hk => hk.2) (.slice Ao86 y262.length co86)) (fun _ hk => trivial)⟩, ⟨by (with_reducible repeat (first | apply Kd.R_alloc | apply Kd.R_drewN | apply Kd.R_drew)); exact Kd.R_mono (Kd.R_far (p := ⟨gb245, 2, none⟩) (Kd.R_types HO264.out BK245.out (by decide)) (fun _ hk => hk.2) (.slice Ao86 y262.length co86)) (fun _ hk => trivial)⟩, ⟨by (with_reducible repeat (first | refine blk_drewN ?_ _ | refine blk_drew ?_ | refine blk_alloc ?_ _)); refine blk_far ?_ NB244_245.out _; (with_reducible repeat (first | refine blk_drewN ?_ _ | refine blk_drew ?_ | refine blk_alloc ?_ _)); exact BK244.out⟩, ⟨by (with_reducible repeat (first | refine blk_drewN ?_ _ | refine blk_drew ?_ | refine blk_alloc ?_ _)); refine blk_put (cs := #[.bool false, .slice (some ad250) t247.length co43, u246002]) ?_ 2 _ rfl; (with_reducible repeat (first | refine blk_drewN ?_ _ | refine blk_drew ?_ | refine blk_alloc ?_ _)); exact BK245.out⟩, ⟨by repeat (first | (with_reducible first | exact HB.out | apply below_alloc | apply pw_below_drewN | apply below_drew1 | refine below_set ?_ GE244.out | refine below_set ?_ GE245.out) | exact HB.out)⟩⟩
                    ·rw [if_neg c79] at H
                     exact absurd H (by simp)
             ·rw [if_neg c52] at H
              exact absurd H (by simp)
            ·rw [if_neg c51] at H
             exact absurd H (by simp)
           ·rw [if_neg c50] at H
            have c50b0 : decide (x56_3 < (t247.length : Int)) = false := decide_eq_false c50
            clear c50
            have H' := Aside0.mk H
            clear H
            go_wp2
            go_roundg k3
            case measure => have := HJ3.out; have := HK2.out; have := HK3.out; omega
            case rel => exact ⟨(wrap64 (x49_2 + 1)), (x246002_3), (u246002), (by first | rfl | (simp; done) | (simp [*]; done)), H', ⟨by have := HJ3.out; have := HK2.out; have := HK3.out; omega⟩, ⟨by (with_reducible repeat (first | apply Kd.R_alloc | apply Kd.R_drewN | apply Kd.R_drew)); exact HO_47.out⟩, ⟨by (with_reducible repeat (first | apply Kd.R_alloc | apply Kd.R_drewN | apply Kd.R_drew)); exact HO_246001.out⟩, ⟨by (with_reducible repeat (first | apply Kd.R_alloc | apply Kd.R_drewN | apply Kd.R_drew)); exact HO_246002.out⟩, ⟨by (with_reducible repeat (first | refine blk_drewN ?_ _ | refine blk_drew ?_ | refine blk_alloc ?_ _)); exact BK244.out⟩, ⟨by (with_reducible repeat (first | refine blk_drewN ?_ _ | refine blk_drew ?_ | refine blk_alloc ?_ _)); exact BK245.out⟩, ⟨by repeat (first | (with_reducible first | exact HB.out | apply below_alloc | apply pw_below_drewN | apply below_drew1 | refine below_set ?_ GE244.out | refine below_set ?_ GE245.out) | exact HB.out)⟩⟩
        ·rw [if_neg c47] at H
         exact absurd H (by simp)
       ·rw [if_neg c46] at H
        exact absurd H (by simp)
      ·rw [if_neg c45] at H
       have c45b0 : decide (x49_2 < (t247.length : Int)) = false := decide_eq_false c45
       clear c45
       simp only [Option.some.injEq, Prod.mk.injEq] at H
       obtain ⟨rfl, rfl, rfl, rfl⟩ := H
       have hnb88 := NB245_244.out
       have hnc88 := NB244_245.out
       have hcz89_0 : wr.cell? ⟨gb245, 0, none⟩ = some (.bool false) := (blk_cell BK245.out 0).trans rfl
       have hcz89_1 : wr.cell? ⟨gb245, 1, none⟩ = some (.slice Ao43 t247.length co43) := (blk_cell BK245.out 1).trans rfl
       have hcz89_2 : wr.cell? ⟨gb245, 2, none⟩ = some (u246002) := (blk_cell BK245.out 2).trans rfl
       have hfz89_0 := blk_frozen BK245.out 0
       have hfz89_1 := blk_frozen BK245.out 1
       have hfz89_2 := blk_frozen BK245.out 2
       obtain ⟨Ao90, co90, eo90⟩ := Kd.R_slice HO_246002.out
       subst eo90
       go_wp2
       refine bodyPost_ret (results_ct rfl _ _ gb245 25 #[.bool false, .slice Ao43 t247.length co43, .slice Ao90 x246002_2.length co90] (0, 0) _ rfl (by (with_reducible repeat (first | refine blk_drewN ?_ _ | refine blk_drew ?_ | refine blk_alloc ?_ _)); refine blk_put (cs := #[.bool false, .slice Ao43 t247.length co43, .slice Ao90 x246002_2.length co90]) ?_ 2 _ rfl; (with_reducible repeat (first | refine blk_drewN ?_ _ | refine blk_drew ?_ | refine blk_alloc ?_ _)); refine blk_put (cs := #[.bool false, .slice Ao43 t247.length co43, .slice Ao90 x246002_2.length co90]) ?_ 1 _ rfl; (with_reducible repeat (first | refine blk_drewN ?_ _ | refine blk_drew ?_ | refine blk_alloc ?_ _)); refine blk_put (cs := #[.bool false, .slice Ao43 t247.length co43, .slice Ao90 x246002_2.length co90]) ?_ 0 _ rfl; (with_reducible repeat (first | refine blk_drewN ?_ _ | refine blk_drew ?_ | refine blk_alloc ?_ _)); exact BK245.out) Tryz.underlying25 rfl (by kernel_rfl)) rfl ?_
       exact ⟨_, _, by first | rfl | (simp [errW_none, errW_some] <;> rfl) | (simp [*, errW_none, errW_some] <;> rfl), by (with_reducible repeat (first | apply Kd.R_alloc | apply Kd.R_drewN | apply Kd.R_drew)); exact Kd.R_mono (Kd.R_far (p := ⟨gb245, 2, none⟩) (Kd.R_far (p := ⟨gb245, 1, none⟩) (Kd.R_far (p := ⟨gb245, 0, none⟩) (Kd.R_types HO_246001.out BK245.out (by decide)) (fun _ hk => hk.2) (.bool false)) (fun _ hk => hk.2) (.slice Ao43 t247.length co43)) (fun _ hk => hk.2) (.slice Ao90 x246002_2.length co90)) (fun _ hk => trivial), by (with_reducible repeat (first | apply Kd.R_alloc | apply Kd.R_drewN | apply Kd.R_drew)); exact Kd.R_mono (Kd.R_far (p := ⟨gb245, 2, none⟩) (Kd.R_far (p := ⟨gb245, 1, none⟩) (Kd.R_far (p := ⟨gb245, 0, none⟩) (Kd.R_types HO_246002.out BK245.out (by decide)) (fun _ hk => hk.2) (.bool false)) (fun _ hk => hk.2) (.slice Ao43 t247.length co43)) (fun _ hk => hk.2) (.slice Ao90 x246002_2.length co90)) (fun _ hk => trivial), by repeat (first | (with_reducible first | exact HB.out | apply below_alloc | apply pw_below_drewN | apply below_drew1 | refine below_set ?_ GE244.out | refine below_set ?_ GE245.out) | exact HB.out)⟩

end Go.Proofs.YtfkmpnpliadohaaGreat.PL
