import Derived.Test.YthkmblgehdofmaaGreatProg
import Derived.Below
import Derived.Deep.Draws
import Derived.Deep.AppendLies
import Derived.Maps.AppendAt
import Derived.OwnWalk
import Derived.Laws.BytesArg
import Derived.Laws.MakeOwn
import Derived.Laws.OwnMore
import Derived.Deep.OwnRows
import Derived.Tactics
import Derived.Lib.ConvBytes
import Derived.Laws.Slices
import Derived.WalkKit
import Derived.KernelRfl
import Derived.RowKit3
import Derived.Deep.LoopGhost
import Derived.Deep.QuietTactic
import Derived.BigQuiet
import Derived.WideLaws
import Derived.Deep.DeepCutAuto
import Derived.Deep.CutBlock
import Derived.Deep.RegionHeld3
import Derived.Laws.Rows
import Derived.Lib.AppendStr
import Derived.ArgAppend
import Derived.Laws.IdiomCopy
import Derived.OrdersHeld
import Derived.Laws.BitsLemmas
import Derived.RowKit
import Derived.Test.YthkmblgehdofmaaGreatAWWords
import Derived.Test.YthkmblgehdofmaaGreatAWLast
import Derived.Test.YthkmblgehdofmaaGreatAWTab
import Derived.Test.YthkmblgehdofmaaGreatAWFour
import Derived.Test.YthkmblgehdofmaaGreatAWQPut
import Derived.Test.YthkmblgehdofmaaGreatAWApart
import Derived.Test.YthkmblgehdofmaaGreatAWArr
import Derived.Test.YthkmblgehdofmaaGreatAWZeros
import Derived.Test.YthkmblgehdofmaaGreatAWFoot
import Derived.Test.YthkmblgehdofmaaGreatAWKept
import Derived.Test.YthkmblgehdofmaaGreatAWShare
import Derived.Test.YthkmblgehdofmaaGreatAWN
import Derived.Test.YthkmblgehdofmaaGreatAWFootNe
import Derived.Test.YthkmblgehdofmaaGreatAWAt
import Derived.Test.YthkmblgehdofmaaGreatAWEqStruct
import Derived.Test.YthkmblgehdofmaaGreatAWRepsOne
import Derived.Test.YthkmblgehdofmaaGreatAWInv
import Derived.Test.YthkmblgehdofmaaGreatAWInvWords
import Derived.Test.YthkmblgehdofmaaGreatAWGuard
import Derived.Test.YthkmblgehdofmaaGreatAWNEv
import Derived.Test.YthkmblgehdofmaaGreatAWMore
import Derived.ProofKit
import Derived.Lib.SmallJoins
import Derived.Deep.Slices
import Derived.Laws.FloatArith
import Derived.Laws.Cover2
import Derived.WalkSpells
import Derived.WalkLawsBesides
import Derived.Lib.Hide
import Derived.Lib.SliceRun
import Derived.Laws.CopyOwn
import Derived.Lib.AppendZerosOnto
import Derived.Lib.Overlaps
import Derived.Deep.RegionLaw
set_option linter.unusedVariables false
set_option linter.unusedSimpArgs false
/- Printed by a program (the kit's printer, run over contracts that were proved by hand). -/
namespace Go.Proofs.YthkmblgehdofmaaGreat.PL
open Go.RowKit Go.Proofs.YthkmblgehdofmaaGreatW.PrintWords Go.Proofs.YthkmblgehdofmaaGreatW.PrintLast Go.Proofs.YthkmblgehdofmaaGreatW.PrintMore
attribute [local go_sem] max2_int min2_int max_two min_two max_three min_three max_four min_four   -- for this text's walks alone



theorem info3 : (Tryz.prog.info? 3).map (fun i => (i.zero, i.size, i.bytes)) = some (some (.int .i64 0), 1, 8) := by kernel_rfl
-- the values' own types
/-! #### struct type 29 -/
structure S29 where
  f0 : Int
  f1 : Int
  f2 : Int
def z29 : S29 := ⟨(0 : Int), (0 : Int), (0 : Int)⟩
def k29 : Kd S29 := Kd.iso (Kd.pair (Kd.int .i64) (Kd.pair (Kd.int .i64) (Kd.int .i64))) (fun x : S29 => (x.f0, x.f1, x.f2))
theorem k29_open {w : World} {x : S29} {cs : List Value} (h : k29.K w x cs) : cs = [.int .i64 x.f0, .int .i64 x.f1, .int .i64 x.f2] := by
  obtain ⟨_, _, rfl, rfl, ⟨_, _, rfl, rfl, rfl⟩⟩ := h
  exact rfl
def rd_T38 (xs : List S29) (i : Int) : S29 := xs.getD i.toNat z29
theorem at_T38 {w : World} {A : Option Addr} {n : Nat} {xs : List S29} (h : Kd.C k29 w A n xs) (i : Int) (h0 : 0 ≤ i) (h1 : i < n) : ∃ ad , A = some ad ∧ w.cell? (ad.add (i.toNat * 3)) = some (.int .i64 (rd_T38 xs i).f0) ∧ w.cell? ⟨(ad.add (i.toNat * 3)).block, (ad.add (i.toNat * 3)).off + 1, none⟩ = some (.int .i64 (rd_T38 xs i).f1) ∧ w.cell? ⟨(ad.add (i.toNat * 3)).block, (ad.add (i.toNat * 3)).off + 2, none⟩ = some (.int .i64 (rd_T38 xs i).f2) := by
  obtain ⟨ad, c, e, _, hK, hc0⟩ := Kd.C_get h z29 i h0 h1
  have hc : ∀ j u, c[j]? = some u → w.cell? (ad.add (i.toNat * 3 + j)) = some u := hc0
  obtain rfl := k29_open hK
  exact ⟨ad, e, hc 0 _ rfl, by rw [← add_field _ _ 1 (by omega)]; exact hc 1 _ rfl, by rw [← add_field _ _ 2 (by omega)]; exact hc 2 _ rfl⟩

end Go.Proofs.YthkmblgehdofmaaGreat.PL


/- Printed by a program (the kit's printer, run over contracts that were proved by hand). -/
namespace Go.Proofs.YthkmblgehdofmaaGreat.PL
open Go.RowKit Go.Proofs.YthkmblgehdofmaaGreatW.PrintWords Go.Proofs.YthkmblgehdofmaaGreatW.PrintLast Go.Proofs.YthkmblgehdofmaaGreatW.PrintMore
attribute [local go_sem] max2_int min2_int max_two min_two max_three min_three max_four min_four   -- for this text's walks alone




def errW : Option Int → Value
 | none => .nilIface
 | some c => .iface 0 (.int .i64 c)
theorem errW_none : errW none = .nilIface := rfl
theorem errW_some (c : Int) : errW (some c) = .iface 0 (.int .i64 c) := rfl

theorem info29 : (Tryz.prog.info? 29).map (fun i => (i.zero, i.size, i.bytes)) = some (some (.agg #[(.int .i64 0), (.int .i64 0), (.int .i64 0)]), 3, 24) := by kernel_rfl
theorem info54 : (Tryz.prog.info? 54).map (fun i => (i.zero, i.size, i.bytes)) = some (some (.agg #[(.int .i64 0), (.int .i64 0), (.int .i64 0)]), 3, 24) := by kernel_rfl
-- the values' own types
/-! #### struct type 29 -/
theorem k29_mk (w : World) (x : S29)  : k29.K w x [.int .i64 x.f0, .int .i64 x.f1, .int .i64 x.f2] := ⟨[.int .i64 x.f0], [.int .i64 x.f1, .int .i64 x.f2], rfl, rfl, ⟨[.int .i64 x.f1], [.int .i64 x.f2], rfl, rfl, rfl⟩⟩
theorem k29_mkM (w : World) (base : Nat) (ok : Nat → Prop) (x : S29)  : k29.M w base ok x [.int .i64 x.f0, .int .i64 x.f1, .int .i64 x.f2] := ⟨[.int .i64 x.f0], [.int .i64 x.f1, .int .i64 x.f2], rfl, rfl, ⟨[.int .i64 x.f1], [.int .i64 x.f2], rfl, rfl, rfl⟩⟩
def rd_T29 (xs : List S29) (i : Int) : S29 := xs.getD i.toNat z29
theorem at_T29 {w : World} {A : Option Addr} {n : Nat} {xs : List S29} (h : Kd.C k29 w A n xs) (i : Int) (h0 : 0 ≤ i) (h1 : i < n) : ∃ ad , A = some ad ∧ w.cell? (ad.add (i.toNat * 3)) = some (.int .i64 (rd_T29 xs i).f0) ∧ w.cell? ⟨(ad.add (i.toNat * 3)).block, (ad.add (i.toNat * 3)).off + 1, none⟩ = some (.int .i64 (rd_T29 xs i).f1) ∧ w.cell? ⟨(ad.add (i.toNat * 3)).block, (ad.add (i.toNat * 3)).off + 2, none⟩ = some (.int .i64 (rd_T29 xs i).f2) := by
 obtain ⟨ad, c, e, _, hK, hc0⟩ := Kd.C_get h z29 i h0 h1
 have hc : ∀ j u, c[j]? = some u → w.cell? (ad.add (i.toNat * 3 + j)) = some u := hc0
 obtain rfl := k29_open hK
 exact ⟨ad, e, hc 0 _ rfl, by rw [← add_field _ _ 1 (by omega)]; exact hc 1 _ rfl, by rw [← add_field _ _ 2 (by omega)]; exact hc 2 _ rfl⟩

/-! #### struct type 54 -/
structure S54 where
 f0 : Int
 f1 : Int
 f2 : Int
def z54 : S54 := ⟨(0 : Int), (0 : Int), (0 : Int)⟩
def k54 : Kd S54 := Kd.iso (Kd.pair (Kd.int .i64) (Kd.pair (Kd.int .i64) (Kd.int .i64))) (fun x : S54 => (x.f0, x.f1, x.f2))
theorem k54_open {w : World} {x : S54} {cs : List Value} (h : k54.K w x cs) : cs = [.int .i64 x.f0, .int .i64 x.f1, .int .i64 x.f2] := by
 obtain ⟨_, _, rfl, rfl, ⟨_, _, rfl, rfl, rfl⟩⟩ := h
 exact rfl
theorem k54_mkM (w : World) (base : Nat) (ok : Nat → Prop) (x : S54)  : k54.M w base ok x [.int .i64 x.f0, .int .i64 x.f1, .int .i64 x.f2] := ⟨[.int .i64 x.f0], [.int .i64 x.f1, .int .i64 x.f2], rfl, rfl, ⟨[.int .i64 x.f1], [.int .i64 x.f2], rfl, rfl, rfl⟩⟩
def rd_T54 (xs : List S54) (i : Int) : S54 := xs.getD i.toNat z54
theorem at_T54 {w : World} {A : Option Addr} {n : Nat} {xs : List S54} (h : Kd.C k54 w A n xs) (i : Int) (h0 : 0 ≤ i) (h1 : i < n) : ∃ ad , A = some ad ∧ w.cell? (ad.add (i.toNat * 3)) = some (.int .i64 (rd_T54 xs i).f0) ∧ w.cell? ⟨(ad.add (i.toNat * 3)).block, (ad.add (i.toNat * 3)).off + 1, none⟩ = some (.int .i64 (rd_T54 xs i).f1) ∧ w.cell? ⟨(ad.add (i.toNat * 3)).block, (ad.add (i.toNat * 3)).off + 2, none⟩ = some (.int .i64 (rd_T54 xs i).f2) := by
 obtain ⟨ad, c, e, _, hK, hc0⟩ := Kd.C_get h z54 i h0 h1
 have hc : ∀ j u, c[j]? = some u → w.cell? (ad.add (i.toNat * 3 + j)) = some u := hc0
 obtain rfl := k54_open hK
 exact ⟨ad, e, hc 0 _ rfl, by rw [← add_field _ _ 1 (by omega)]; exact hc 1 _ rfl, by rw [← add_field _ _ 2 (by omega)]; exact hc 2 _ rfl⟩


end Go.Proofs.YthkmblgehdofmaaGreat.PL

/- A graph as a law's argument, read. -/
namespace Go.Proofs.YthkmblgehdofmaaGreat.Rd
open Go.ChangeShapes Go.WideShapes Go.ChangeAt Go.RowKit Go.Deep Go.Proofs.YthkmblgehdofmaaGreatW.PrintWords PL

theorem Tryz.own : ownKnob Tryz.prog.godebug = none := by kernel_rfl
theorem Tryz.laidOut : laidOutB Tryz.prog = true := by kernel_rfl

section
variable {H : Type} {enc : TypeId × Value → H} {W : World}

set_option maxRecDepth 100000 in
theorem read_ints {fuel : Nat} {cs : List Value} {x : DataW H × List MemPlace} (h : DataW.trod enc Tryz.prog W 0 (fun _ => true) true fuel 23 cs = some x) :
    ∃ (a : Option Addr) (cap : Nat) (xs : List Int), cs = [.slice a xs.length cap] ∧ xs.length ≤ cap ∧ Kd.C (Kd.int .i64) W a xs.length xs ∧ ∀ x ∈ xs, (Lit.int .i64 x).wf = true := by
  rcases open_ints Tryz.underlying23 Tryz.underlying3 (by kernel_rfl) h with ⟨rfl, _⟩ | ⟨ad, l, c, zs, rfl, _, hl, hm, hz, _, hcell, hwz⟩
  · exact ⟨none, 0, [], rfl, Nat.le_refl _, ⟨rfl, Nat.zero_le _, fun h => absurd h (by simp)⟩, fun _ h => by cases h⟩
  · obtain ⟨xs, rfl, hr, _, hwf, hc⟩ := ReadsInt.ofRowC (k := .i64) (w := W) (a := some ad) (len := l) (cap := c) (zs := zs) (.inr ⟨_, rfl, hl, hm, by simpa using hz, hcell, hwz⟩)
    exact ⟨some ad, c, xs, rfl, hc, Kd.C_of_reads (d := (0 : Int)) (h1 := fun _ => rfl) hr, hwf⟩

instance : Inhabited S29 := ⟨z29⟩

set_option maxRecDepth 100000 in
theorem read_edges {fuel : Nat} {cs : List Value} {x : DataW H × List MemPlace} (h : DataW.trod enc Tryz.prog W 0 (fun _ => true) true fuel 24 cs = some x) :
    ∃ (a : Option Addr) (cap : Nat) (es : List S29), cs = [.slice a es.length cap] ∧ es.length ≤ cap ∧ Kd.C k29 W a es.length es := by
  have hC : Tryz.prog.cellsOf 29 = 3 := by kernel_rfl
  have hC3 : Tryz.prog.cellsOf 3 = 1 := by kernel_rfl
  rcases open_slice Tryz.underlying24 h with ⟨rfl, _⟩ | ⟨ad, l, c, m, n, D, Pl, rfl, _, hl, hm, hmm, _, hx⟩
  · exact ⟨none, 0, [], rfl, Nat.le_refl _, rfl, Nat.zero_le _, fun h => absurd h (by simp)⟩
  · rw [hC] at hx
    obtain ⟨V, hV⟩ := choose_lt (α := S29) (n := l) (p := fun i s => W.cells? 0 (ad.add (i * 3)) 3 = some [.int .i64 s.f0, .int .i64 s.f1, .int .i64 s.f2]) (fun i hi => by
      obtain ⟨cs', h1, h2⟩ := hx i (by simp at hmm; omega)
      obtain ⟨y0, y1, y2, n', _, hlen, t0, t1, t2⟩ := trod_struct3 Tryz.underlying29 h2
      rw [hC] at hlen
      match cs', hlen with
      | [u0, u1, u2], _ =>
        simp only [hC3] at t0 t1 t2
        obtain ⟨n0, e0, _⟩ := DataW.trod_int Tryz.underlying3 t0
        obtain ⟨n1, e1, _⟩ := DataW.trod_int Tryz.underlying3 t1
        obtain ⟨n2, e2, _⟩ := DataW.trod_int Tryz.underlying3 t2
        simp at e0 e1 e2
        subst e0 e1 e2
        exact ⟨⟨n0, n1, n2⟩, h1⟩)
    have hlen : ((List.range l).map V).length = l := by simp
    refine ⟨some ad, c, (List.range l).map V, by rw [hlen], by rw [hlen]; exact hl, rfl, by rw [hlen]; unfold maxLen at hm; omega, fun _ => ⟨ad, rfl, fun j p hp => ?_⟩⟩
    have hj : j < l := by
      have := (List.getElem?_eq_some_iff.1 hp).1
      rw [hlen] at this
      exact this
    obtain rfl : V j = p := by simpa [hj] using hp
    have hc := hV j hj
    obtain ⟨_, _, hcc⟩ := World.cells?_some hc
    refine ⟨_, rfl, k29_mk W (V j), fun i u hu => ?_⟩
    have hi : i < 3 := by
      have := (List.getElem?_eq_some_iff.1 hu).1
      simpa using this
    have := hcc i hi
    rw [YthkmblgehdofmaaGreatW.PrintWords.add_add] at this
    exact this.trans hu

set_option maxRecDepth 100000 in
theorem read_graph {base : Nat} {v : Value} {d : DataW H} {p : List MemPlace} (hv : Value.okWide Tryz.prog W .any base 26 v) (h : DataW.Trod enc Tryz.prog W 0 (fun _ => true) true 26 v d p) :
    ∃ (b : Bool) (A1 A2 : Option Addr) (c1 c2 : Nat) (zs : List Int) (es : List S29), v = .agg #[.bool b, .slice A1 zs.length c1, .slice A2 es.length c2] ∧ zs.length ≤ c1 ∧ es.length ≤ c2 ∧ Kd.C (Kd.int .i64) W A1 zs.length zs ∧ Kd.C k29 W A2 es.length es ∧ ∀ x ∈ zs, (Lit.int .i64 x).wf = true := by
  obtain ⟨v0, v1, v2, y0, y1, y2, n, rfl, _, _, t0, t1, t2⟩ := Go.Joins.open_agg3 Tryz.underlying26 (by kernel_rfl) (by kernel_rfl) hv h
  obtain ⟨b, hb, _⟩ := DataW.trod_bool Tryz.underlying4 t0
  obtain ⟨A1, c1, zs, h1, l1, C1, wf1⟩ := read_ints t1
  obtain ⟨A2, c2, es, h2, l2, C2⟩ := read_edges t2
  simp only [List.cons.injEq, and_true] at hb h1 h2
  subst hb h1 h2
  exact ⟨b, A1, A2, c1, c2, zs, es, rfl, l1, l2, C1, C2, wf1⟩

end
end Go.Proofs.YthkmblgehdofmaaGreat.Rd

/- Flows, plainly: residuals, cuts, one path's augmentation. -/
namespace Go.Flow
/-- one place of a function of two numbers put anew -/
def upd2 (r : Int → Int → Int) (p c x : Int) : Int → Int → Int := fun u v => if u = p ∧ v = c then x else r u v
theorem upd2_eq (r : Int → Int → Int) (p c x : Int) : upd2 r p c x p c = x := by simp [upd2]
theorem upd2_ne {r : Int → Int → Int} {p c x u v : Int} (h : ¬ (u = p ∧ v = c)) : upd2 r p c x u v = r u v := by simp [upd2, h]
def sumL (l : List Int) (f : Int → Int) : Int := (l.map f).sum
theorem sumL_nil (f : Int → Int) : sumL [] f = 0 := rfl
theorem sumL_cons (a : Int) (l : List Int) (f : Int → Int) : sumL (a :: l) f = f a + sumL l f := by simp [sumL]
theorem sumL_congr {l : List Int} {f g : Int → Int} (h : ∀ x ∈ l, f x = g x) : sumL l f = sumL l g := by
  unfold sumL
  rw [List.map_congr_left h]
theorem sumL_zero {l : List Int} {f : Int → Int} (h : ∀ x ∈ l, f x = 0) : sumL l f = 0 := by
  induction l with
  | nil => rfl
  | cons a l ih => rw [sumL_cons, h a (by simp), ih (fun x hx => h x (by simp [hx]))]; rfl
theorem sumL_nonneg {l : List Int} {f : Int → Int} (h : ∀ x ∈ l, 0 ≤ f x) : 0 ≤ sumL l f := by
  induction l with
  | nil => exact Int.le_refl _
  | cons a l ih => rw [sumL_cons]; have := h a (by simp); have := ih (fun x hx => h x (by simp [hx])); omega
/-- one summand is d more -/
theorem sumL_one {l : List Int} (hn : l.Nodup) {a : Int} (ha : a ∈ l) {f g : Int → Int} {d : Int} (h1 : g a = f a + d) (h2 : ∀ x ∈ l, x ≠ a → g x = f x) : sumL l g = sumL l f + d := by
  induction l with
  | nil => cases ha
  | cons b l ih =>
    rw [sumL_cons, sumL_cons]
    obtain ⟨hb, hn'⟩ := List.nodup_cons.1 hn
    by_cases e : b = a
    · subst e
      rw [h1, sumL_congr (g := f) (fun x hx => h2 x (by simp [hx]) (fun e => hb (e ▸ hx)))]
      omega
    · rw [h2 b (by simp) e, ih hn' (by rcases List.mem_cons.1 ha with h | h; exact absurd h.symm e; exact h) (fun x hx hne => h2 x (by simp [hx]) hne)]
      omega
/-- what leads out of S -/
def cutR (ids : List Int) (S : Int → Bool) (r : Int → Int → Int) : Int := sumL ids fun u => sumL ids fun v => if (S u && !S v) = true then r u v else 0
theorem cutR_nonneg {ids : List Int} {S : Int → Bool} {r : Int → Int → Int} (h : ∀ u ∈ ids, ∀ v ∈ ids, 0 ≤ r u v) : 0 ≤ cutR ids S r :=
  sumL_nonneg fun u hu => sumL_nonneg fun v hv => by
    by_cases hc : (S u && !S v) = true
    · rw [if_pos hc]; exact h u hu v hv
    · rw [if_neg hc]; exact Int.le_refl _
theorem cutR_zero {ids : List Int} {S : Int → Bool} {r : Int → Int → Int} (h : ∀ u ∈ ids, ∀ v ∈ ids, S u = true → S v = false → r u v = 0) : cutR ids S r = 0 :=
  sumL_zero fun u hu => sumL_zero fun v hv => by
    by_cases hc : (S u && !S v) = true
    · rw [if_pos hc]
      rw [Bool.and_eq_true, Bool.not_eq_true'] at hc
      exact h u hu v hv hc.1 hc.2
    · rw [if_neg hc]
theorem cutR_upd {ids : List Int} (hn : ids.Nodup) (S : Int → Bool) (r : Int → Int → Int) {p c : Int} (hp : p ∈ ids) (hc : c ∈ ids) (d : Int) : cutR ids S (upd2 r p c (r p c + d)) = cutR ids S r + if (S p && !S c) = true then d else 0 := by
  unfold cutR
  refine sumL_one hn hp ?_ ?_
  · by_cases hs : (S p && !S c) = true
    · rw [if_pos hs]
      refine sumL_one hn hc ?_ ?_
      · rw [if_pos hs, if_pos hs, upd2_eq]
      · intro x hx hne
        rw [upd2_ne (fun h => hne h.2)]
    · rw [if_neg hs, Int.add_zero]
      refine sumL_congr fun v hv => ?_
      by_cases e : v = c
      · subst e; rw [if_neg hs, if_neg hs]
      · rw [upd2_ne (fun h => e h.2)]
  · intro u hu hne
    refine sumL_congr fun v hv => ?_
    rw [upd2_ne (fun h => hne h.1)]
def ind (b : Bool) : Int := if b = true then 1 else 0
/-- b more over the edge from p to c -/
def push (b : Int) (p c : Int) (r : Int → Int → Int) : Int → Int → Int :=
  let r1 := upd2 r p c (r p c - b)
  upd2 r1 c p (r1 c p + b)
theorem cutR_push {ids : List Int} (hn : ids.Nodup) (S : Int → Bool) (r : Int → Int → Int) {p c : Int} (hp : p ∈ ids) (hc : c ∈ ids) (b : Int) : cutR ids S (push b p c r) = cutR ids S r - b * (ind (S p) - ind (S c)) := by
  unfold push
  rw [cutR_upd hn S _ hc hp b, show r p c - b = r p c + (-b) by omega, cutR_upd hn S r hp hc (-b)]
  unfold ind
  cases S p <;> cases S c <;> simp <;> omega
theorem push_fwd {b p c : Int} {r : Int → Int → Int} (h : p ≠ c) : push b p c r p c = r p c - b := by
  unfold push
  rw [upd2_ne (fun e => h e.1), upd2_eq]
theorem push_bwd {b p c : Int} {r : Int → Int → Int} (h : p ≠ c) : push b p c r c p = r c p + b := by
  unfold push
  rw [upd2_eq, upd2_ne (fun e => h e.1.symm)]
theorem push_ne {b p c u v : Int} {r : Int → Int → Int} (h1 : ¬ (u = p ∧ v = c)) (h2 : ¬ (u = c ∧ v = p)) : push b p c r u v = r u v := by
  unfold push
  rw [upd2_ne h2, upd2_ne h1]
/-- along a path from its end back to its beginning -/
def pushAll (b : Int) : List Int → (Int → Int → Int) → Int → Int → Int
  | c :: p :: l, r => pushAll b (p :: l) (push b p c r)
  | _, r => r
theorem cutR_pushAll {ids : List Int} (hn : ids.Nodup) (S : Int → Bool) (b : Int) : ∀ (l : List Int) (c : Int) (r : Int → Int → Int), (∀ x ∈ c :: l, x ∈ ids) → cutR ids S (pushAll b (c :: l) r) = cutR ids S r - b * (ind (S ((c :: l).getLast (by simp))) - ind (S c))
  | [], c, r, _ => by simp [pushAll]
  | p :: l, c, r, h => by
    rw [pushAll, cutR_pushAll hn S b l p (push b p c r) (fun x hx => h x (by simp [List.mem_cons] at hx ⊢; exact .inr hx)), cutR_push hn S r (h p (by simp)) (h c (by simp)) b]
    rw [show (c :: p :: l).getLast (by simp) = (p :: l).getLast (by simp) from List.getLast_cons (by simp)]
    generalize ind (S ((p :: l).getLast _)) = x
    rw [Int.mul_sub, Int.mul_sub, Int.mul_sub]
    omega
/-- the sums of both directions stay -/
theorem push_sum {b p c : Int} (h : p ≠ c) (r : Int → Int → Int) (u v : Int) : push b p c r u v + push b p c r v u = r u v + r v u := by
  by_cases h1 : u = p ∧ v = c
  · obtain ⟨rfl, rfl⟩ := h1
    rw [push_fwd h, push_bwd h]; omega
  · by_cases h2 : u = c ∧ v = p
    · obtain ⟨rfl, rfl⟩ := h2
      rw [push_fwd h, push_bwd h]; omega
    · rw [push_ne h1 h2, push_ne (fun e => h2 ⟨e.2, e.1⟩) (fun e => h1 ⟨e.2, e.1⟩)]
theorem pushAll_sum (b : Int) : ∀ (l : List Int) (r : Int → Int → Int), l.Nodup → ∀ u v, pushAll b l r u v + pushAll b l r v u = r u v + r v u
  | [], r, _, u, v => rfl
  | [c], r, _, u, v => rfl
  | c :: p :: l, r, h, u, v => by
    obtain ⟨h1, h2⟩ := List.nodup_cons.1 h
    rw [pushAll, pushAll_sum b (p :: l) (push b p c r) h2 u v, push_sum (fun e => h1 (by simp [e])) r u v]
/-- what the path does not touch stays -/
theorem pushAll_ne (b : Int) : ∀ (l : List Int) (r : Int → Int → Int) (u v : Int), (u ∉ l ∨ v ∉ l) → pushAll b l r u v = r u v
  | [], r, u, v, _ => rfl
  | [c], r, u, v, _ => rfl
  | c :: p :: l, r, u, v, h => by
    have h' : u ∉ p :: l ∨ v ∉ p :: l := h.imp (fun h hx => h (List.mem_cons_of_mem _ hx)) (fun h hx => h (List.mem_cons_of_mem _ hx))
    rw [pushAll, pushAll_ne b (p :: l) (push b p c r) u v h', push_ne]
    · rintro ⟨rfl, rfl⟩; rcases h with h | h <;> exact h (by simp)
    · rintro ⟨rfl, rfl⟩; rcases h with h | h <;> exact h (by simp)
/-- what each edge of the path has -/
def Along (r : Int → Int → Int) (b : Int) : List Int → Prop
  | c :: p :: l => b ≤ r p c ∧ Along r b (p :: l)
  | _ => True
theorem Along.congr {r r' : Int → Int → Int} {b : Int} : ∀ {l : List Int}, (∀ u ∈ l, ∀ v ∈ l, r u v = r' u v) → Along r b l → Along r' b l
  | [], _, _ => trivial
  | [c], _, _ => trivial
  | c :: p :: l, h, ha => ⟨by rw [← h p (by simp) c (by simp)]; exact ha.1, Along.congr (fun u hu v hv => h u (List.mem_cons_of_mem _ hu) v (List.mem_cons_of_mem _ hv)) ha.2⟩
theorem pushAll_nonneg (b : Int) (hb : 0 ≤ b) : ∀ (l : List Int) (r : Int → Int → Int), l.Nodup → (∀ u v, 0 ≤ r u v) → Along r b l → ∀ u v, 0 ≤ pushAll b l r u v
  | [], r, _, h, _, u, v => h u v
  | [c], r, _, h, _, u, v => h u v
  | c :: p :: l, r, hn, h, ha, u, v => by
    obtain ⟨h1, h2⟩ := List.nodup_cons.1 hn
    have hpc : p ≠ c := fun e => h1 (by simp [e])
    rw [pushAll]
    refine pushAll_nonneg b hb (p :: l) (push b p c r) h2 (fun x y => ?_) (Along.congr (fun x hx y hy => ?_) ha.2) u v
    · by_cases e1 : x = p ∧ y = c
      · obtain ⟨rfl, rfl⟩ := e1
        rw [push_fwd hpc]; have := ha.1; omega
      · by_cases e2 : x = c ∧ y = p
        · obtain ⟨rfl, rfl⟩ := e2
          rw [push_bwd hpc]; have := h x y; omega
        · rw [push_ne e1 e2]; exact h x y
    · rw [push_ne]
      · rintro ⟨rfl, rfl⟩; exact h1 hy
      · rintro ⟨rfl, rfl⟩; exact h1 hx

/-- residuals: r, of what the edges can carry (cap), with F flowing from s to t -/
structure Res (ids : List Int) (cap : Int → Int → Int) (s t : Int) (r : Int → Int → Int) (F : Int) : Prop where
  pos : ∀ u v, 0 ≤ r u v
  sum : ∀ u v, r u v + r v u = cap u v + cap v u
  cut : ∀ S : Int → Bool, S s = true → S t = false → cutR ids S r = cutR ids S cap - F
  fpos : 0 ≤ F
theorem Res.start (ids : List Int) {cap : Int → Int → Int} (hc : ∀ u v, 0 ≤ cap u v) (s t : Int) : Res ids cap s t cap 0 := ⟨hc, fun _ _ => rfl, fun _ _ _ => (Int.sub_zero _).symm, Int.le_refl _⟩
theorem Res.push {ids : List Int} {cap r : Int → Int → Int} {s t F : Int} (h : Res ids cap s t r F) (hn : ids.Nodup) {b : Int} (hb : 0 ≤ b) (l : List Int) (hl : (t :: l).Nodup) (hin : ∀ x ∈ t :: l, x ∈ ids) (hlast : (t :: l).getLast (by simp) = s) (ha : Along r b (t :: l)) : Res ids cap s t (pushAll b (t :: l) r) (F + b) :=
  ⟨pushAll_nonneg b hb _ r hl h.pos ha, fun u v => by rw [pushAll_sum b _ r hl, h.sum], fun S h1 h2 => by
    rw [cutR_pushAll hn S b l t r hin, hlast, h.cut S h1 h2, h1, h2]
    unfold ind
    simp
    omega, by have := h.fpos; omega⟩
/-- the greatest flow is a least cut -/
structure MinCut (ids : List Int) (cap : Int → Int → Int) (s t : Int) (F : Int) : Prop where
  le : ∀ S : Int → Bool, S s = true → S t = false → F ≤ cutR ids S cap
  is : ∃ S : Int → Bool, S s = true ∧ S t = false ∧ F = cutR ids S cap
theorem Res.bound {ids : List Int} {cap r : Int → Int → Int} {s t F : Int} (h : Res ids cap s t r F) (S : Int → Bool) (h1 : S s = true) (h2 : S t = false) : F ≤ cutR ids S cap := by
  have := h.cut S h1 h2
  have := cutR_nonneg (ids := ids) (S := S) (r := r) (fun u _ v _ => h.pos u v)
  omega
theorem Res.done {ids : List Int} {cap r : Int → Int → Int} {s t F : Int} (h : Res ids cap s t r F) (S : Int → Bool) (h1 : S s = true) (h2 : S t = false) (h0 : ∀ u ∈ ids, ∀ v ∈ ids, S u = true → S v = false → r u v = 0) : MinCut ids cap s t F :=
  ⟨fun S' a b => h.bound S' a b, S, h1, h2, by
    have e1 := h.cut S h1 h2
    rw [cutR_zero h0] at e1
    omega⟩
theorem MinCut.unique {ids : List Int} {cap : Int → Int → Int} {s t F G : Int} (h1 : MinCut ids cap s t F) (h2 : MinCut ids cap s t G) : F = G := by
  obtain ⟨S, a, b, e⟩ := h1.is
  obtain ⟨S', a', b', e'⟩ := h2.is
  have := h1.le S' a' b'
  have := h2.le S a b
  omega
end Go.Flow

/- Levels of a graph, breadth first, and the way of first parents: plain lists, no program in it. -/
namespace Go.Proofs.YthkmblgehdofmaaGreat.R

def seenN (lev : List Int) : Nat := (lev.filter (fun x => decide (0 ≤ x))).length
theorem seenN_le (lev : List Int) : seenN lev ≤ lev.length := List.length_filter_le _ _
theorem seenN_set : ∀ (lev : List Int) (c : Nat) (y : Int), lev[c]? = some (-1) → 0 ≤ y → seenN (lev.set c y) = seenN lev + 1
  | [], c, y, h, _ => by simp at h
  | a :: l, 0, y, h, hy => by
    have : a = -1 := by simpa using h
    subst this
    simp [seenN, hy]
  | a :: l, c + 1, y, h, hy => by
    have ih := seenN_set l c y (by simpa using h) hy
    unfold seenN at ih ⊢
    rw [List.set_cons_succ, List.filter_cons, List.filter_cons]
    split
    · rw [List.length_cons, List.length_cons, ih]
    · exact ih
/-- nodes with a level: each but the start has a first parent one level up -/
structure BS (n s : Nat) (R : Nat → Nat → Prop) (lev : List Int) (par : List (List Nat)) : Prop where
  ll : lev.length = n
  pl : par.length = n
  ls : lev[s]? = some 0
  ps : par[s]? = some []
  lo : ∀ (v : Nat) (x : Int), lev[v]? = some x → x = -1 ∨ (0 ≤ x ∧ x < seenN lev)
  un : ∀ v : Nat, lev[v]? = some (-1) → par[v]? = some []
  up : ∀ (v : Nat) (x : Int), v ≠ s → lev[v]? = some x → 0 ≤ x → 0 < x ∧ ∃ p rest, par[v]? = some (p :: rest) ∧ p < n ∧ R p v ∧ lev[p]? = some (x - 1)
theorem BS.found {n s : Nat} {R : Nat → Nat → Prop} {lev : List Int} {par : List (List Nat)} (h : BS n s R lev par) {q c : Nat} {x : Int} (hq : lev[q]? = some x) (hx : 0 ≤ x) (hc : lev[c]? = some (-1)) (hr : R q c) :
    BS n s R (lev.set c (x + 1)) (par.set c [q]) := by
  have hcn : c < lev.length := (List.getElem?_eq_some_iff.1 hc).1
  have hqn : q < lev.length := (List.getElem?_eq_some_iff.1 hq).1
  have hcs : c ≠ s := fun e => by rw [e, h.ls] at hc; simp at hc
  have hsn := seenN_set lev c (x + 1) hc (by omega)
  have hxs : x < seenN lev := by
    rcases h.lo q x hq with e | e
    · omega
    · exact e.2
  have hcp : c < par.length := by rw [h.pl, ← h.ll]; exact hcn
  refine ⟨by rw [List.length_set, h.ll], by rw [List.length_set, h.pl], ?_, ?_, ?_, ?_, ?_⟩
  · rw [List.getElem?_set_ne hcs]; exact h.ls
  · rw [List.getElem?_set_ne hcs]; exact h.ps
  · intro v y hv
    rw [hsn]
    by_cases e : c = v
    · subst e
      rw [List.getElem?_set_self hcn] at hv
      have : x + 1 = y := by simpa using hv
      omega
    · rw [List.getElem?_set_ne e] at hv
      rcases h.lo v y hv with e | e
      · exact .inl e
      · exact .inr ⟨e.1, by omega⟩
  · intro v hv
    by_cases e : c = v
    · subst e
      rw [List.getElem?_set_self hcn] at hv
      have : x + 1 = -1 := by simpa using hv
      omega
    · rw [List.getElem?_set_ne e] at hv ⊢
      exact h.un v hv
  · intro v y hvs hv hy
    by_cases e : c = v
    · subst e
      rw [List.getElem?_set_self hcn] at hv
      have hxy : x + 1 = y := by simpa using hv
      have hcq : c ≠ q := fun e => by rw [e, hq] at hc; simp at hc; omega
      refine ⟨by omega, q, [], by rw [List.getElem?_set_self hcp], by rw [← h.ll]; exact hqn, hr, ?_⟩
      rw [List.getElem?_set_ne hcq, hq, ← hxy]
      simp
    · rw [List.getElem?_set_ne e] at hv
      obtain ⟨h0, p, rest, h1, h2, h3, h4⟩ := h.up v y hvs hv hy
      have hcp2 : c ≠ p := fun e2 => by
        rw [← e2, hc] at h4
        have e3 : (-1 : Int) = y - 1 := by simpa using h4
        omega
      exact ⟨h0, p, rest, by rw [List.getElem?_set_ne e]; exact h1, h2, h3, by rw [List.getElem?_set_ne hcp2]; exact h4⟩
theorem BS.more {n s : Nat} {R : Nat → Nat → Prop} {lev : List Int} {par : List (List Nat)} (h : BS n s R lev par) {q c : Nat} {x : Int} {ps : List Nat} (hq : lev[q]? = some x) (hx : 0 ≤ x) (hc : lev[c]? = some (x + 1)) (hp : par[c]? = some ps) :
    BS n s R lev (par.set c (ps ++ [q])) := by
  have hcp : c < par.length := (List.getElem?_eq_some_iff.1 hp).1
  have hcs : c ≠ s := fun e => by
    rw [e, h.ls] at hc
    have : (0 : Int) = x + 1 := by simpa using hc
    omega
  refine ⟨h.ll, by rw [List.length_set, h.pl], h.ls, ?_, h.lo, ?_, ?_⟩
  · rw [List.getElem?_set_ne hcs]; exact h.ps
  · intro v hv
    by_cases e : c = v
    · subst e
      rw [hc] at hv
      have : x + 1 = -1 := by simpa using hv
      omega
    · rw [List.getElem?_set_ne e]; exact h.un v hv
  · intro v y hvs hv hy
    obtain ⟨h0, p, rest, h1, h2, h3, h4⟩ := h.up v y hvs hv hy
    by_cases e : c = v
    · subst e
      rw [hp] at h1
      have e2 : ps = p :: rest := by simpa using h1
      exact ⟨h0, p, rest ++ [q], by rw [List.getElem?_set_self hcp, e2]; rfl, h2, h3, h4⟩
    · exact ⟨h0, p, rest, by rw [List.getElem?_set_ne e]; exact h1, h2, h3, h4⟩
theorem BS.start {n s : Nat} {R : Nat → Nat → Prop} (hs : s < n) : BS n s R ((List.replicate n (-1)).set s 0) (List.replicate n []) := by
  have hsl : s < (List.replicate n (-1 : Int)).length := by rw [List.length_replicate]; exact hs
  have hget : ∀ v x, s ≠ v → ((List.replicate n (-1 : Int)).set s 0)[v]? = some x → x = -1 := fun v x e h => by
    rw [List.getElem?_set_ne e] at h
    obtain ⟨h1, h2⟩ := List.getElem?_eq_some_iff.1 h
    rw [List.getElem_replicate] at h2
    exact h2.symm
  have h1 : seenN ((List.replicate n (-1 : Int)).set s 0) = seenN (List.replicate n (-1)) + 1 := seenN_set _ s 0 (by rw [List.getElem?_eq_getElem hsl, List.getElem_replicate]) (by omega)
  refine ⟨by simp, by simp, List.getElem?_set_self hsl, by rw [List.getElem?_eq_getElem (by simpa using hs), List.getElem_replicate], ?_, ?_, ?_⟩
  · intro v x hv
    by_cases e : s = v
    · subst e
      rw [List.getElem?_set_self hsl] at hv
      have : (0 : Int) = x := by simpa using hv
      omega
    · exact .inl (hget v x e hv)
  · intro v hv
    by_cases e : s = v
    · subst e
      rw [List.getElem?_set_self hsl] at hv
      simp at hv
    · rw [List.getElem?_set_ne e] at hv
      have hvn : v < n := by have := (List.getElem?_eq_some_iff.1 hv).1; rwa [List.length_replicate] at this
      rw [List.getElem?_eq_getElem (by rw [List.length_replicate]; exact hvn), List.getElem_replicate]
  · intro v x hvs hv hx
    have := hget v x (Ne.symm hvs) hv
    omega
/-- the way of first parents from v up to the start, s and v in it -/
def upWay (par : List (List Nat)) : Nat → Nat → List Nat
  | 0, v => [v]
  | k + 1, v => match par[v]? with | some (p :: _) => v :: upWay par k p | _ => [v]
/-- each step of a way goes from a first parent -/
def stepsUp (R : Nat → Nat → Prop) (par : List (List Nat)) : List Nat → Prop
  | a :: b :: l => R b a ∧ (∃ rest, par[a]? = some (b :: rest)) ∧ stepsUp R par (b :: l)
  | _ => True
theorem upWay_head (par : List (List Nat)) (k v : Nat) : ∃ l, upWay par k v = v :: l := by
  cases k with
  | zero => exact ⟨[], rfl⟩
  | succ k =>
    unfold upWay
    split
    · exact ⟨_, rfl⟩
    · exact ⟨[], rfl⟩
theorem BS.way {n s : Nat} {R : Nat → Nat → Prop} {lev : List Int} {par : List (List Nat)} (h : BS n s R lev par) : ∀ (k v : Nat), lev[v]? = some (k : Int) → (∀ u : Nat, lev[u]? = some 0 → u = s) →
    (upWay par k v).length = k + 1 ∧ (upWay par k v).getLast? = some s ∧ stepsUp R par (upWay par k v) ∧ (∀ u ∈ upWay par k v, ∃ j : Nat, j ≤ k ∧ lev[u]? = some (j : Int)) ∧ (upWay par k v).Nodup
  | 0, v, hv, h0 => by
    have e := h0 v (by simpa using hv)
    subst e
    refine ⟨rfl, rfl, trivial, ?_, ?_⟩
    · intro u hu
      have : u = v := by simpa [upWay] using hu
      subst this
      exact ⟨0, Nat.le_refl _, hv⟩
    · simp [upWay]
  | k + 1, v, hv, h0 => by
    have hvs : v ≠ s := fun e => by
      rw [e, h.ls] at hv
      simp at hv
      omega
    obtain ⟨_, p, rest, h1, h2, h3, h4⟩ := h.up v _ hvs hv (by omega)
    have h4' : lev[p]? = some (k : Int) := by rw [h4]; congr 1; omega
    obtain ⟨a1, a2, a3, a4, a5⟩ := BS.way h k p h4' h0
    have he : upWay par (k + 1) v = v :: upWay par k p := by
      conv => lhs; unfold upWay
      rw [h1]
    obtain ⟨l, hl⟩ := upWay_head par k p
    rw [he]
    refine ⟨by rw [List.length_cons, a1], ?_, ?_, ?_, ?_⟩
    · rw [hl] at a2 ⊢
      rw [List.getLast?_cons_cons]
      exact a2
    · rw [hl] at a3 ⊢
      exact ⟨h3, ⟨rest, h1⟩, a3⟩
    · intro u hu
      rcases List.mem_cons.1 hu with e | e
      · subst e; exact ⟨k + 1, Nat.le_refl _, hv⟩
      · obtain ⟨j, hj, e2⟩ := a4 u e
        exact ⟨j, by omega, e2⟩
    · refine List.nodup_cons.2 ⟨fun hm => ?_, a5⟩
      obtain ⟨j, hj, e2⟩ := a4 v hm
      rw [hv] at e2
      have : ((k + 1 : Nat) : Int) = (j : Int) := by simpa using e2
      omega
theorem BS.zero {n s : Nat} {R : Nat → Nat → Prop} {lev : List Int} {par : List (List Nat)} (h : BS n s R lev par) (u : Nat) (hu : lev[u]? = some 0) : u = s := by
  apply Classical.byContradiction
  intro e
  have := (h.up u 0 e hu (by omega)).1
  omega
/-- a level stands -/
def lit (lev : List Int) (v : Nat) : Prop := ∃ x, lev[v]? = some x ∧ 0 ≤ x
theorem lit_set {lev : List Int} {c v : Nat} {y : Int} (hc : c < lev.length) (hy : 0 ≤ y) (h : lit lev v) : lit (lev.set c y) v := by
  obtain ⟨x, h1, h2⟩ := h
  by_cases e : c = v
  · subst e; exact ⟨y, List.getElem?_set_self hc, hy⟩
  · exact ⟨x, by rw [List.getElem?_set_ne e]; exact h1, h2⟩
theorem lit_back {lev : List Int} {c v : Nat} {y : Int} (e : c ≠ v) (h : lit (lev.set c y) v) : lit lev v := by
  obtain ⟨x, h1, h2⟩ := h
  exact ⟨x, by rw [List.getElem?_set_ne e] at h1; exact h1, h2⟩
/-- between two rounds: who has a level and waits no more has all its ends levelled -/
structure BQ (n s : Nat) (R : Nat → Nat → Prop) (lev : List Int) (par : List (List Nat)) (q : List Nat) : Prop where
  b : BS n s R lev par
  qin : ∀ v ∈ q, lit lev v
  cl : ∀ v : Nat, lit lev v → v ∉ q → ∀ c, R v c → lit lev c
/-- within the round of one node: its first ends are done -/
structure BK (n s : Nat) (R : Nat → Nat → Prop) (lev : List Int) (par : List (List Nat)) (q : List Nat) (u : Nat) (kids : List Nat) : Prop where
  b : BS n s R lev par
  qin : ∀ v ∈ q, lit lev v
  uin : lit lev u
  cl : ∀ v : Nat, lit lev v → v ∉ q → v ≠ u → ∀ c, R v c → lit lev c
  kd : ∀ c ∈ kids, R u c → lit lev c
section
variable {n s : Nat} {R : Nat → Nat → Prop} {lev : List Int} {par : List (List Nat)} {q : List Nat} {u c : Nat} {kids : List Nat}
theorem BQ.start (hs : s < n) : BQ n s R ((List.replicate n (-1)).set s 0) (List.replicate n []) [s] := by
  have hsl : s < (List.replicate n (-1 : Int)).length := by rw [List.length_replicate]; exact hs
  refine ⟨BS.start hs, ?_, ?_⟩
  · intro v hv
    have : v = s := by simpa using hv
    subst this
    exact ⟨0, List.getElem?_set_self hsl, by omega⟩
  · intro v ⟨x, h1, h2⟩ hq
    exfalso
    have e : s ≠ v := fun e => hq (by simp [e])
    rw [List.getElem?_set_ne e] at h1
    obtain ⟨h3, h4⟩ := List.getElem?_eq_some_iff.1 h1
    rw [List.getElem_replicate] at h4
    omega
theorem BQ.pop (h : BQ n s R lev par (u :: q)) : BK n s R lev par q u [] :=
  ⟨h.b, fun v hv => h.qin v (List.mem_cons_of_mem _ hv), h.qin u List.mem_cons_self, fun v hv hq hu => h.cl v hv (fun hm => (List.mem_cons.1 hm).elim hu hq), fun c hc => absurd hc List.not_mem_nil⟩
theorem BK.done (h : BK n s R lev par q u kids) (hk : ∀ c, R u c → c ∈ kids) : BQ n s R lev par q :=
  ⟨h.b, h.qin, fun v hv hq c hr => by
    by_cases e : v = u
    · subst e; exact h.kd c (hk c hr) hr
    · exact h.cl v hv hq e c hr⟩
theorem BK.skip (h : BK n s R lev par q u kids) (hr : R u c → lit lev c) : BK n s R lev par q u (kids ++ [c]) :=
  ⟨h.b, h.qin, h.uin, h.cl, fun d hd hrd => by
    rcases List.mem_append.1 hd with e | e
    · exact h.kd d e hrd
    · have : d = c := by simpa using e
      subst this; exact hr hrd⟩
theorem BK.more (h : BK n s R lev par q u kids) {x : Int} {ps : List Nat} (hu : lev[u]? = some x) (hx : 0 ≤ x) (hc : lev[c]? = some (x + 1)) (hp : par[c]? = some ps) : BK n s R lev (par.set c (ps ++ [u])) q u (kids ++ [c]) :=
  BK.skip ⟨h.b.more hu hx hc hp, h.qin, h.uin, h.cl, h.kd⟩ (fun _ => ⟨x + 1, hc, by omega⟩)
theorem BK.found (h : BK n s R lev par q u kids) {x : Int} (hu : lev[u]? = some x) (hx : 0 ≤ x) (hc : lev[c]? = some (-1)) (hr : R u c) : BK n s R (lev.set c (x + 1)) (par.set c [u]) (q ++ [c]) u kids := by
  have hcl : c < lev.length := (List.getElem?_eq_some_iff.1 hc).1
  have hy : (0 : Int) ≤ x + 1 := by omega
  refine ⟨h.b.found hu hx hc hr, ?_, lit_set hcl hy h.uin, ?_, fun d hd hrd => lit_set hcl hy (h.kd d hd hrd)⟩
  · intro v hv
    rcases List.mem_append.1 hv with e | e
    · exact lit_set hcl hy (h.qin v e)
    · have : v = c := by simpa using e
      subst this
      exact ⟨x + 1, List.getElem?_set_self hcl, hy⟩
  · intro v hv hq hvu d hrd
    have hvc : c ≠ v := fun e => hq (by simp [e])
    exact lit_set hcl hy (h.cl v (lit_back hvc hv) (fun hm => hq (List.mem_append_left _ hm)) hvu d hrd)
/-- nobody waits: the levelled nodes are closed -/
theorem BQ.closed (h : BQ n s R lev par []) (v c : Nat) (hv : lit lev v) (hr : R v c) : lit lev c := h.cl v hv List.not_mem_nil c hr
theorem BQ.from_start (h : BQ n s R lev par q) : lit lev s := ⟨0, h.b.ls, Int.le_refl _⟩
end
end Go.Proofs.YthkmblgehdofmaaGreat.R

/- A way of first parents as an augmenting path; a search that fails as a least cut: plain lists, no program in it. -/
namespace Go.Proofs.YthkmblgehdofmaaGreat.R
open Go.Flow

def toI (l : List Nat) : List Int := l.map (fun (x : Nat) => (x : Int))
theorem toI_mem {l : List Nat} {x : Int} (h : x ∈ toI l) : ∃ v ∈ l, x = (v : Int) := by
  obtain ⟨v, h1, h2⟩ := List.mem_map.1 h
  exact ⟨v, h1, h2.symm⟩
theorem toI_nodup {l : List Nat} (h : l.Nodup) : (toI l).Nodup := by
  unfold toI
  rw [List.nodup_iff_pairwise_ne] at *
  rw [List.pairwise_map]
  exact h.imp (fun hne e => hne (Int.ofNat.inj e))
/-- the nodes of a graph whose numbers run from 0 -/
def idsN (n : Nat) : List Int := toI (List.range n)
theorem idsN_mem {n v : Nat} (h : v < n) : (v : Int) ∈ idsN n := List.mem_map.2 ⟨v, List.mem_range.2 h, rfl⟩
theorem idsN_nodup (n : Nat) : (idsN n).Nodup := toI_nodup List.nodup_range
/-- the least residual of a way -/
def bneck (r : Int → Int → Int) : List Int → Int
  | a :: b :: c :: l => min (r b a) (bneck r (b :: c :: l))
  | a :: b :: [] => r b a
  | _ => 0
theorem Along.less {r : Int → Int → Int} {b b' : Int} (hb : b' ≤ b) : ∀ {l : List Int}, Along r b l → Along r b' l
  | [], _ => trivial
  | [_], _ => trivial
  | a :: c :: l, h => ⟨Int.le_trans hb h.1, Along.less hb h.2⟩
theorem along_bneck (r : Int → Int → Int) : ∀ (l : List Int), Along r (bneck r l) l
  | [] => trivial
  | [_] => trivial
  | [a, b] => ⟨Int.le_refl _, trivial⟩
  | a :: b :: c :: l => ⟨Int.min_le_left _ _, Along.less (Int.min_le_right _ _) (along_bneck r (b :: c :: l))⟩
theorem bneck_pos {r : Int → Int → Int} {par : List (List Nat)} : ∀ (l : List Nat), 2 ≤ l.length → stepsUp (fun p v => 0 < r (p : Int) (v : Int)) par l → 0 < bneck r (toI l)
  | [], h, _ => by simp at h
  | [_], h, _ => by simp at h
  | [a, b], _, h => h.1
  | a :: b :: c :: l, _, h => by
    have ih := bneck_pos (b :: c :: l) (by simp) h.2.2
    have h1 : 0 < r (b : Int) (a : Int) := h.1
    show 0 < min (r (b : Int) (a : Int)) (bneck r (toI (b :: c :: l)))
    omega
theorem toI_last {l : List Nat} {s : Nat} (h : l.getLast? = some s) (hne : toI l ≠ []) : (toI l).getLast hne = (s : Int) := by
  have : (toI l).getLast? = some (s : Int) := by unfold toI; rw [List.getLast?_map, h]; rfl
  rw [List.getLast?_eq_some_getLast hne] at this
  exact Option.some.inj this
section
variable {n s t : Nat} {cap r : Int → Int → Int} {F : Int} {lev : List Int} {par : List (List Nat)}
/-- the way of first parents, pushed -/
theorem BS.push (h : BS n s (fun p v => 0 < r (p : Int) (v : Int)) lev par) (hr : Res (idsN n) cap s t r F) {k : Nat} (hk : lev[t]? = some (k : Int)) (hst : s ≠ t) :
    0 < bneck r (toI (upWay par k t)) ∧ Res (idsN n) cap s t (pushAll (bneck r (toI (upWay par k t))) (toI (upWay par k t)) r) (F + bneck r (toI (upWay par k t))) := by
  obtain ⟨a1, a2, a3, a4, a5⟩ := h.way k t hk (fun u hu => h.zero u hu)
  have hk0 : k ≠ 0 := fun e => hst (h.zero t (by rw [hk, e]; rfl)).symm
  have hp := bneck_pos (upWay par k t) (by omega) a3
  refine ⟨hp, ?_⟩
  have hin : ∀ x ∈ toI (upWay par k t), x ∈ idsN n := fun x hx => by
    obtain ⟨v, h1, rfl⟩ := toI_mem hx
    obtain ⟨j, _, hj⟩ := a4 v h1
    exact idsN_mem (by have := (List.getElem?_eq_some_iff.1 hj).1; rwa [h.ll] at this)
  have hal := along_bneck r (toI (upWay par k t))
  have hnd := toI_nodup a5
  have hla := fun hne => toI_last a2 hne
  obtain ⟨l, hl⟩ := upWay_head par k t
  have e : toI (upWay par k t) = (t : Int) :: toI l := by rw [hl]; rfl
  rw [e] at hp hin hal hnd hla ⊢
  exact hr.push (idsN_nodup n) (Int.le_of_lt hp) (toI l) hnd hin (hla _) hal
/-- a search that does not find t shows a least cut -/
theorem BQ.cut (h : BQ n s (fun p v => 0 < r (p : Int) (v : Int)) lev par []) (hr : Res (idsN n) cap s t r F) (ht : lev[t]? = some (-1)) : MinCut (idsN n) cap s t F := by
  classical
  refine hr.done (fun x => decide (∃ v : Nat, x = (v : Int) ∧ lit lev v)) (decide_eq_true ⟨s, rfl, h.from_start⟩) (decide_eq_false ?_) ?_
  · rintro ⟨v, e, x, h1, h2⟩
    have : t = v := Int.ofNat.inj e
    subst this
    rw [ht] at h1
    have : (-1 : Int) = x := by simpa using h1
    omega
  · intro u hu v hv h1 h2
    obtain ⟨a, rfl, ha⟩ := of_decide_eq_true h1
    obtain ⟨c, _, rfl⟩ := toI_mem hv
    have hn := of_decide_eq_false h2
    have h0 := hr.pos (a : Int) (c : Int)
    apply Classical.byContradiction
    intro hne
    exact hn ⟨c, rfl, h.closed a c ha (show 0 < r (a : Int) (c : Int) by omega)⟩
end
end Go.Proofs.YthkmblgehdofmaaGreat.R

/- Cuts as sums over a list of arcs: plain lists, no program in it. -/
namespace Go.Proofs.YthkmblgehdofmaaGreat.R
open Go.Flow

/-- what the arcs from u to v carry -/
def capL (l : List (Int × Int × Int)) (u v : Int) : Int := match l with | [] => 0 | a :: l => (if u = a.1 ∧ v = a.2.1 then a.2.2 else 0) + capL l u v
/-- what the arcs out of S carry -/
def cutL (l : List (Int × Int × Int)) (S : Int → Bool) : Int := match l with | [] => 0 | a :: l => (if (S a.1 && !S a.2.1) = true then a.2.2 else 0) + cutL l S
theorem capL_cons (a : Int × Int × Int) (l : List (Int × Int × Int)) : capL (a :: l) = upd2 (capL l) a.1 a.2.1 (capL l a.1 a.2.1 + a.2.2) := by
  funext u v
  unfold upd2
  show (if u = a.1 ∧ v = a.2.1 then a.2.2 else 0) + capL l u v = _
  split
  · rename_i h
    rw [h.1, h.2]
    omega
  · omega
theorem cut_capL {ids : List Int} (hn : ids.Nodup) (S : Int → Bool) : ∀ (l : List (Int × Int × Int)), (∀ a ∈ l, a.1 ∈ ids ∧ a.2.1 ∈ ids) → cutR ids S (capL l) = cutL l S
  | [], _ => cutR_zero fun _ _ _ _ _ _ => rfl
  | a :: l, h => by
    have h1 := h a (by simp)
    rw [capL_cons, cutR_upd hn S _ h1.1 h1.2, cut_capL hn S l (fun x hx => h x (List.mem_cons_of_mem _ hx))]
    show _ = (if (S a.1 && !S a.2.1) = true then a.2.2 else 0) + cutL l S
    omega
theorem cutL_congr {S T : Int → Bool} : ∀ {l : List (Int × Int × Int)}, (∀ a ∈ l, S a.1 = T a.1 ∧ S a.2.1 = T a.2.1) → cutL l S = cutL l T
  | [], _ => rfl
  | a :: l, h => by
    have h1 := h a (by simp)
    show (if (S a.1 && !S a.2.1) = true then a.2.2 else 0) + cutL l S = (if (T a.1 && !T a.2.1) = true then a.2.2 else 0) + cutL l T
    rw [h1.1, h1.2, cutL_congr (fun x hx => h x (List.mem_cons_of_mem _ hx))]
theorem cutL_nonneg {S : Int → Bool} : ∀ {l : List (Int × Int × Int)}, (∀ a ∈ l, 0 ≤ a.2.2) → 0 ≤ cutL l S
  | [], _ => Int.le_refl _
  | a :: l, h => by
    have h1 := h a (by simp)
    have ih := cutL_nonneg (S := S) (fun x hx => h x (List.mem_cons_of_mem a hx))
    show 0 ≤ (if (S a.1 && !S a.2.1) = true then a.2.2 else 0) + cutL l S
    split <;> omega
/-- a least cut of a list of arcs -/
structure CutOk (n : Nat) (l : List (Int × Int × Int)) (s t : Nat) (F : Int) : Prop where
  le : ∀ S : Int → Bool, S s = true → S t = false → F ≤ cutL l S
  is : ∃ S : Int → Bool, S s = true ∧ S t = false ∧ F = cutL l S
theorem MinCut.list {n s t : Nat} {l : List (Int × Int × Int)} (h : ∀ a ∈ l, a.1 ∈ idsN n ∧ a.2.1 ∈ idsN n) {F : Int} (hm : MinCut (idsN n) (capL l) s t F) : CutOk n l s t F :=
  ⟨fun S a b => by rw [← cut_capL (idsN_nodup n) S l h]; exact hm.le S a b, by
    obtain ⟨S, a, b, e⟩ := hm.is
    exact ⟨S, a, b, by rw [e, cut_capL (idsN_nodup n) S l h]⟩⟩
theorem CutOk.unique {n s t : Nat} {l : List (Int × Int × Int)} {F G : Int} (h1 : CutOk n l s t F) (h2 : CutOk n l s t G) : F = G := by
  obtain ⟨S, a, b, e⟩ := h1.is
  obtain ⟨S', a', b', e'⟩ := h2.is
  have := h1.le S' a' b'
  have := h2.le S a b
  omega
end Go.Proofs.YthkmblgehdofmaaGreat.R

/- Whole numbers of at most 2^53 as floats of 64 bits: exact sums, orders, and the way back. -/
namespace Go.Proofs.FLN
open Go Ieee

theorem dbl_binade : double.binade = 4503599627370496 := by decide
theorem dbl_inf : double.infRung = 2047 * 4503599627370496 := by decide
theorem dbl_sign : double.signWeight = 9223372036854775808 := by decide
theorem dbl_least : double.leastPlace = -1074 := by decide
theorem dbl_frac : double.fractionBits = 52 := rfl

theorem log2_shift (M j : Nat) (h : M ≠ 0) : (M * 2 ^ j).log2 = M.log2 + j := by
  induction j with
  | zero => simp
  | succ j ih =>
    rw [Nat.pow_succ, ← Nat.mul_assoc, Nat.mul_comm _ 2, Nat.log2_two_mul (Nat.mul_ne_zero h (Nat.ne_of_gt (Nat.two_pow_pos _))), ih]
    omega

theorem cut_exact (way : Toward) (neg : Bool) (q d : Nat) (hq : q ≠ 0) : way.cut neg (q * 2 ^ d) d = q := by
  have hm : min d ((q * 2 ^ d).log2 + 2) = d := by rw [log2_shift q d hq]; omega
  have hp : 0 < 2 ^ d := Nat.two_pow_pos d
  unfold Toward.cut
  simp only [hm, Nat.one_shiftLeft, Nat.mul_mod_left, Nat.mul_div_cancel _ hp]
  cases way <;> simp <;> omega

theorem kept_bounds {M : Nat} (h0 : M ≠ 0) (h : M < 9007199254740992) : M.log2 ≤ 52 ∧ 4503599627370496 ≤ M * 2 ^ (52 - M.log2) ∧ M * 2 ^ (52 - M.log2) < 9007199254740992 := by
  have h1 : M.log2 < 53 := (Nat.log2_lt h0).2 h
  have h2 : 2 ^ M.log2 ≤ M := Nat.log2_self_le h0
  have h3 : M < 2 ^ (M.log2 + 1) := Nat.lt_log2_self
  have e : 2 ^ M.log2 * 2 ^ (52 - M.log2) = 4503599627370496 := by rw [← Nat.pow_add, show M.log2 + (52 - M.log2) = 52 by omega]
  have e2 : 2 ^ (M.log2 + 1) * 2 ^ (52 - M.log2) = 9007199254740992 := by rw [← Nat.pow_add, show M.log2 + 1 + (52 - M.log2) = 53 by omega]
  refine ⟨by omega, ?_, ?_⟩
  · rw [← e]; exact Nat.mul_le_mul_right _ h2
  · rw [← e2]; exact Nat.mul_lt_mul_of_pos_right h3 (Nat.two_pow_pos _)

def rungOf (M : Nat) : Nat := (M.log2 + 1022) * 4503599627370496 + M * 2 ^ (52 - M.log2)

theorem nearest_exact (neg : Bool) (M j : Nat) (hM : M ≠ 0) (hb : M < 9007199254740992) (hj : j ≤ 1074) : double.nearest neg (M * 2 ^ j) (-(j : Int)) = double.word neg (rungOf M) := by
  obtain ⟨hL, hk1, hk2⟩ := kept_bounds hM hb
  have hne : M * 2 ^ j ≠ 0 := Nat.mul_ne_zero hM (Nat.ne_of_gt (Nat.two_pow_pos _))
  unfold Format.nearest
  rw [if_neg hne, log2_shift M j hM, dbl_frac, dbl_least, dbl_binade, dbl_inf]
  have hlast : max (-(j : Int) + ((M.log2 + j : Nat) : Int) - ((52 : Nat) : Int)) (-1074) = (M.log2 : Int) - 52 := by omega
  simp only [hlast]
  have hkept : Toward.even.cut neg ((M * 2 ^ j) <<< (-(j : Int) - ((M.log2 : Int) - 52)).toNat) (((M.log2 : Int) - 52) - -(j : Int)).toNat = M * 2 ^ (52 - M.log2) := by
    by_cases hc : j ≤ 52 - M.log2
    · rw [show (-(j : Int) - ((M.log2 : Int) - 52)).toNat = 52 - M.log2 - j by omega, show (((M.log2 : Int) - 52) - -(j : Int)).toNat = 0 by omega, Nat.shiftLeft_eq, Nat.mul_assoc, ← Nat.pow_add, show j + (52 - M.log2 - j) = 52 - M.log2 by omega]
      have := cut_exact .even neg (M * 2 ^ (52 - M.log2)) 0 (by omega)
      rwa [Nat.pow_zero, Nat.mul_one] at this
    · rw [show (-(j : Int) - ((M.log2 : Int) - 52)).toNat = 0 by omega, show (((M.log2 : Int) - 52) - -(j : Int)).toNat = j - (52 - M.log2) by omega, Nat.shiftLeft_eq, Nat.pow_zero, Nat.mul_one]
      have := cut_exact .even neg (M * 2 ^ (52 - M.log2)) (j - (52 - M.log2)) (by omega)
      rwa [Nat.mul_assoc, ← Nat.pow_add, show 52 - M.log2 + (j - (52 - M.log2)) = j by omega] at this
  rw [hkept, show ((M.log2 : Int) - 52 - -1074).toNat = M.log2 + 1022 by omega]
  unfold rungOf
  rw [Nat.min_eq_left (by omega)]

theorem read_at (neg : Bool) (e K : Nat) (he : 1 ≤ e) (he2 : e < 2046) (hk1 : 4503599627370496 ≤ K) (hk2 : K < 9007199254740992) (R : Nat) (hR : R = e * 4503599627370496 + K) :
    double.read (double.word neg R) = .number neg K ((e : Int) - 1074) := by
  have hl : R < 9223372036854775808 := by omega
  have h1 : double.word neg R % 9223372036854775808 = R := by
    unfold Format.word
    rw [dbl_sign]
    cases neg
    · rw [if_neg (by simp)]; omega
    · rw [if_pos rfl]; omega
  have h2 : (double.word neg R / 9223372036854775808 % 2 == 1) = neg := by
    unfold Format.word
    rw [dbl_sign]
    cases neg
    · rw [if_neg (by simp), Nat.div_eq_of_lt hl]; rfl
    · rw [if_pos rfl, Nat.add_div_left _ (by decide), Nat.div_eq_of_lt hl]; rfl
  unfold Format.read
  rw [dbl_sign, dbl_binade, dbl_inf, dbl_least]
  simp only [h1, h2]
  have e1 : 4503599627370496 + R % 4503599627370496 = K := by omega
  have e2 : R / 4503599627370496 = e + 1 := by omega
  rw [if_neg (by omega), if_pos (by omega), e1, e2]
  congr 1

theorem read_word (neg : Bool) (M : Nat) (hM : M ≠ 0) (hb : M < 9007199254740992) : double.read (double.word neg (rungOf M)) = .number neg (M * 2 ^ (52 - M.log2)) (-((52 - M.log2 : Nat) : Int)) := by
  obtain ⟨hL, hk1, hk2⟩ := kept_bounds hM hb
  have e : ((M.log2 + 1022 : Nat) : Int) - 1074 = -((52 - M.log2 : Nat) : Int) := by omega
  rw [← e]
  exact read_at neg (M.log2 + 1022) _ (by omega) (by omega) hk1 hk2 (rungOf M) rfl

/-- a whole number as a float -/
abbrev fl (n : Int) : Nat := floatOfInt .f64 n

theorem fl_eq (n : Int) : fl n = double.nearest (decide (n < 0)) n.natAbs 0 := rfl

theorem fl_zero : fl 0 = 0 := by decide

theorem nat_exact (neg : Bool) (M : Nat) (hM : M ≠ 0) (hb : M < 9007199254740992) : double.nearest neg M 0 = double.word neg (rungOf M) := by
  have := nearest_exact neg M 0 hM hb (by omega)
  rwa [Nat.pow_zero, Nat.mul_one] at this

/-- what a whole number stands for -/
theorem decode_fl (n : Int) (h : n.natAbs < 9007199254740992) : ∃ s : Nat, s ≤ 1074 ∧ FloatKind.f64.decode (fl n) = .number (decide (n < 0)) (n.natAbs * 2 ^ s) (-(s : Int)) := by
  by_cases h0 : n = 0
  · subst h0
    exact ⟨1074, Nat.le_refl _, by rw [fl_zero]; decide +kernel⟩
  · have hM : n.natAbs ≠ 0 := by omega
    refine ⟨52 - n.natAbs.log2, by omega, ?_⟩
    rw [fl_eq, nat_exact _ _ hM h]
    exact read_word _ _ hM h

theorem signed_at (n : Int) (s S : Nat) (h : s ≤ S) : signed (decide (n < 0)) (n.natAbs * 2 ^ s) (-(s : Int) - -(S : Int)).toNat = n * ((2 ^ S : Nat) : Int) := by
  rw [show (-(s : Int) - -(S : Int)).toNat = S - s by omega]
  unfold signed
  rw [Nat.shiftLeft_eq, Nat.mul_assoc, ← Nat.pow_add, show s + (S - s) = S by omega]
  by_cases hn : n < 0
  · simp only [hn, decide_true, if_true]
    rw [Int.natCast_mul, show ((n.natAbs : Nat) : Int) = -n by omega, Int.neg_mul, Int.neg_neg]
  · simp only [hn, decide_false]
    rw [if_neg (by simp), Int.natCast_mul, show ((n.natAbs : Nat) : Int) = n by omega]

/-- the sum -/
theorem add_fl (a b : Int) (ha : a.natAbs < 9007199254740992) (hb : b.natAbs < 9007199254740992) (hab : (a + b).natAbs < 9007199254740992) : FloatKind.f64.format.add (fl a) (fl b) = some (fl (a + b)) := by
  obtain ⟨s, hs, ea⟩ := decode_fl a ha
  obtain ⟨t, ht, eb⟩ := decode_fl b hb
  have ea' : double.read (fl a) = _ := ea
  have eb' : double.read (fl b) = _ := eb
  show ((double.read (fl a)).sum (double.read (fl b))).map double.write = _
  rw [ea', eb']
  have hbase : min (-(s : Int)) (-(t : Int)) = -((max s t : Nat) : Int) := by omega
  simp only [Datum.sum, hbase, signed_at a s (max s t) (by omega), signed_at b t (max s t) (by omega), ← Int.add_mul]
  generalize hS : max s t = S
  have hS2 : S ≤ 1074 := by omega
  have hp : 0 < ((2 ^ S : Nat) : Int) := by exact_mod_cast Nat.two_pow_pos S
  simp only [Option.map_some]
  congr 1
  by_cases h0 : a + b = 0
  · rw [h0, Int.zero_mul, if_pos rfl, fl_zero]
    have : (decide (a < 0) && decide (b < 0)) = false := by
      by_cases h1 : a < 0
      · have : ¬ b < 0 := by omega
        simp [this]
      · simp [h1]
    rw [this]
    rfl
  · have hne : (a + b) * ((2 ^ S : Nat) : Int) ≠ 0 := Int.mul_ne_zero h0 (by omega)
    rw [if_neg hne]
    have hneg : decide ((a + b) * ((2 ^ S : Nat) : Int) < 0) = decide (a + b < 0) := by
      rw [decide_eq_decide]
      constructor
      · intro h
        rcases Int.lt_or_le (a + b) 0 with h' | h'
        · exact h'
        · exact absurd (Int.mul_nonneg h' (Int.le_of_lt hp)) (by omega)
      · intro h
        exact Int.mul_neg_of_neg_of_pos h hp
    rw [hneg, Int.natAbs_mul, Int.natAbs_natCast]
    have hM : (a + b).natAbs ≠ 0 := by omega
    show double.nearest _ _ _ = _
    rw [nearest_exact _ _ S hM hab hS2, fl_eq, nat_exact _ _ hM hab]

theorem cmp_lt {a b : Int} (h : a < b) : compare a b = .lt := by
  show compareOfLessAndEq a b = _
  unfold compareOfLessAndEq
  rw [if_pos h]
theorem cmp_eq (a : Int) : compare a a = .eq := by
  show compareOfLessAndEq a a = _
  unfold compareOfLessAndEq
  rw [if_neg (by omega), if_pos rfl]
theorem cmp_gt {a b : Int} (h : b < a) : compare a b = .gt := by
  show compareOfLessAndEq a b = _
  unfold compareOfLessAndEq
  rw [if_neg (by omega), if_neg (by omega)]

/-- the order -/
theorem order_fl (a b : Int) (ha : a.natAbs < 9007199254740992) (hb : b.natAbs < 9007199254740992) : FloatKind.f64.format.order (fl a) (fl b) = some (compare a b) := by
  obtain ⟨s, hs, ea⟩ := decode_fl a ha
  obtain ⟨t, ht, eb⟩ := decode_fl b hb
  have ea' : double.read (fl a) = _ := ea
  have eb' : double.read (fl b) = _ := eb
  show (double.read (fl a)).order (double.read (fl b)) = _
  rw [ea', eb']
  have hbase : min (-(s : Int)) (-(t : Int)) = -((max s t : Nat) : Int) := by omega
  simp only [Datum.order, hbase, signed_at a s (max s t) (by omega), signed_at b t (max s t) (by omega)]
  generalize max s t = S
  have hp : 0 < ((2 ^ S : Nat) : Int) := by exact_mod_cast Nat.two_pow_pos S
  congr 1
  rcases Int.lt_trichotomy a b with h | h | h
  · rw [cmp_lt h, cmp_lt (Int.mul_lt_mul_of_pos_right h hp)]
  · rw [h]; rw [cmp_eq _, cmp_eq _]
  · rw [cmp_gt h, cmp_gt (Int.mul_lt_mul_of_pos_right h hp)]

/-- the way back -/
theorem toInt_fl (n : Int) (h : n.natAbs < 9007199254740992) : floatToIntVal .f64 (fl n) .i64 = some n := by
  obtain ⟨s, hs, e⟩ := decode_fl n h
  have ht : (FloatKind.f64.decode (fl n)).toInt .zero = some n := by
    rw [e]
    unfold Datum.toInt Datum.integral
    simp only
    rw [show (-(s : Int)).toNat = 0 by omega, show (- -(s : Int)).toNat = s by omega, Nat.shiftLeft_eq, Nat.pow_zero, Nat.mul_one]
    have hc : Toward.zero.cut (decide (n < 0)) (n.natAbs * 2 ^ s) s = n.natAbs := by
      by_cases h0 : n = 0
      · subst h0
        unfold Toward.cut
        simp
      · exact cut_exact _ _ _ _ (by omega)
    rw [hc]
    have := signed_at n 0 0 (Nat.le_refl _)
    simp only [Nat.pow_zero, Nat.mul_one] at this
    unfold signed at *
    simp only [Nat.shiftLeft_zero] at *
    by_cases hn : n < 0
    · simp only [hn, decide_true, if_true]; congr 1; omega
    · simp only [hn, decide_false]; rw [if_neg (by simp)]; congr 1; omega
  unfold floatToIntVal
  rw [ht]
  have : IntKind.i64.min ≤ n ∧ n ≤ IntKind.i64.max := by
    simp [IntKind.min, IntKind.max, IntKind.bits, IntKind.signed]
    omega
  exact if_pos this

variable {P : Program} (w : World)
theorem signed_not (n : Int) (s S : Nat) (h : s ≤ S) : signed (!decide (n < 0)) (n.natAbs * 2 ^ s) (-(s : Int) - -(S : Int)).toNat = -n * ((2 ^ S : Nat) : Int) := by
  have h1 := signed_at n s S h
  rw [Int.neg_mul, ← h1]
  unfold signed
  cases decide (n < 0)
  · rfl
  · show (((n.natAbs * 2 ^ s) <<< (-(s : Int) - -(S : Int)).toNat : Nat) : Int) = - -(((n.natAbs * 2 ^ s) <<< (-(s : Int) - -(S : Int)).toNat : Nat) : Int)
    rw [Int.neg_neg]
/-- the difference -/
theorem sub_fl (a b : Int) (ha : a.natAbs < 9007199254740992) (hb : b.natAbs < 9007199254740992) (hab : (a - b).natAbs < 9007199254740992) (h0 : ¬ (a < 0 ∧ 0 ≤ b)) : FloatKind.f64.format.sub (fl a) (fl b) = some (fl (a - b)) := by
  obtain ⟨s, hs, ea⟩ := decode_fl a ha
  obtain ⟨t, ht, eb⟩ := decode_fl b hb
  have ea' : double.read (fl a) = _ := ea
  have eb' : double.read (fl b) = _ := eb
  show ((double.read (fl a)).sum (double.read (fl b)).opposite).map double.write = _
  rw [ea', eb']
  have hbase : min (-(s : Int)) (-(t : Int)) = -((max s t : Nat) : Int) := by omega
  simp only [Datum.opposite, Datum.sum, hbase, signed_at a s (max s t) (by omega), signed_not b t (max s t) (by omega), ← Int.add_mul]
  rw [show a + -b = a - b by omega]
  generalize hS : max s t = S
  have hS2 : S ≤ 1074 := by omega
  have hp : 0 < ((2 ^ S : Nat) : Int) := by exact_mod_cast Nat.two_pow_pos S
  simp only [Option.map_some]
  congr 1
  by_cases h1 : a - b = 0
  · rw [h1, Int.zero_mul, if_pos rfl, fl_zero]
    have : (decide (a < 0) && !decide (b < 0)) = false := by
      by_cases h2 : a < 0
      · have : b < 0 := by omega
        simp [this]
      · simp [h2]
    rw [this]
    rfl
  · have hne : (a - b) * ((2 ^ S : Nat) : Int) ≠ 0 := Int.mul_ne_zero h1 (by omega)
    rw [if_neg hne]
    have hneg : decide ((a - b) * ((2 ^ S : Nat) : Int) < 0) = decide (a - b < 0) := by
      rw [decide_eq_decide]
      constructor
      · intro h
        rcases Int.lt_or_le (a - b) 0 with h' | h'
        · exact h'
        · exact absurd (Int.mul_nonneg h' (Int.le_of_lt hp)) (by omega)
      · intro h
        exact Int.mul_neg_of_neg_of_pos h hp
    rw [hneg, Int.natAbs_mul, Int.natAbs_natCast]
    have hM : (a - b).natAbs ≠ 0 := by omega
    show double.nearest _ _ _ = _
    rw [nearest_exact _ _ S hM hab hS2, fl_eq, nat_exact _ _ hM hab]
end Go.Proofs.FLN

namespace Go.Proofs.YthkmblgehdofmaaGreat.R
open Go.RowKit Go.Proofs.YthkmblgehdofmaaGreatW.PrintWords Go.Proofs.YthkmblgehdofmaaGreatW.PrintLast Go.Proofs.YthkmblgehdofmaaGreatW.PrintMore

theorem Tryz.info2 : (Tryz.prog.info? 2).map (fun i => (i.zero, i.size, i.bytes)) = some (some (.int .i64 0), 1, 8) := by kernel_rfl
theorem Tryz.info3 : (Tryz.prog.info? 3).map (fun i => (i.zero, i.size, i.bytes)) = some (some (.int .i64 0), 1, 8) := by kernel_rfl

/-- cells of a read slice of ints -/
theorem C_int_cells {w : World} {A : Option Addr} {n : Nat} {xs : List Int} {k : IntKind} (h : Kd.C (Kd.int k) w A n xs) {ad : Addr} (hA : A = some ad) :
    ∀ j u, (nums k xs)[j]? = some u → w.cell? (ad.add j) = some u := by
  intro j u hu
  obtain ⟨hl, _, hc⟩ := h
  have hj : j < xs.length := by
    rcases Nat.lt_or_ge j xs.length with h | h
    · exact h
    · rw [List.getElem?_eq_none (by rw [nums_length]; exact h)] at hu; cases hu
  obtain ⟨ad', e, hc⟩ := hc (by omega)
  rw [hA] at e; cases e
  obtain ⟨c, _, hr, hcell⟩ := hc j _ (List.getElem?_eq_getElem hj)
  have hr' : c = [.int k xs[j]] := hr
  subst hr'
  have := hcell 0 (.int k xs[j]) rfl
  simp only [nums, List.getElem?_map, List.getElem?_eq_getElem hj, Option.map_some, Option.some.injEq] at hu
  subst hu
  have hs : (Kd.int k).sz = 1 := rfl
  rw [hs] at this
  simpa using this

set_option maxHeartbeats 1000000 in
theorem clone64_some (A : Addr) (c : Nat) (xs : List Int) (w : World) (h : Kd.C (Kd.int .i64) w (some A) xs.length xs) (hb : xs.length * 8 ≤ 140737488355328) :
    Calls Tryz.prog 89 #[.slice (some A) xs.length c] w fun e w' => ∃ v', e = .returned v' ∧ w'.ownsRow w.heap.size 2 1 v' xs.length (nums .i64 xs) ∧ Below w.heap.size w w' := by
  have q60 : ∀ (w : World) (a : Option Addr) (n c n' c' : Nat), (binOp .eql 63 (.slice a n c) (.slice none n' c')).run Tryz.prog w = .ok (.bool a.isNone) w := fun w a n c n' c' => Lib.run_eql_slice_nil w _ _ a n c n' c' Tryz.underlying63
  have hcells := C_int_cells h rfl
  have HC := Aside0.mk hcells
  clear hcells
  have h1 : ∀ u ∈ nums .i64 xs, u.oneCell' = true := by intro u hu; obtain ⟨x, _, rfl⟩ := List.mem_map.1 hu; rfl
  have H1 := Aside0.mk h1
  clear h1
  have hn : xs.length ≤ maxLen := by unfold maxLen; omega
  obtain ⟨i0, hi, hz0, hz1, hz2⟩ := info_parts Tryz.info2
  have HL := Aside0.mk (nums_length .i64 xs)
  have HI := Aside0.mk (And.intro hi (And.intro hz0 (And.intro hz1 hz2)))
  clear hi hz0 hz1 hz2 h
  go_enter Tryz.func89, Tryz.ntmps89
  go_wp2_with (at_builtin; refine wpList_append_own _ rfl _ _ 63 rfl w.heap.size 2 i0 (.int .i64 0) 1 8 Tryz.underlying63 HI.out.1 HI.out.2.1 HI.out.2.2.1 HI.out.2.2.2 rfl (by decide) _ _ _ rfl (World.ownsRow_made w #[] 0 (Nat.le_refl _) (Nat.zero_le _) (by simp)) A xs.length c (nums .i64 xs) rfl ?qc1 ?qc2 ?qc3 ?qc4 ?qc5 ?qc6 ?_)
  case qc1 => rw [HL.out]; omega
  case qc2 =>
    intro j u hj
    exact Lib.cell?_alloc_some _ (HC.out j u hj)
  case qc3 => exact H1.out
  case qc4 => rw [Nat.zero_add]; exact hn
  case qc5 => rw [Nat.zero_add]; exact hb
  case qc6 => simp
  intro v' w1 hown hgrow hnil
  go_wp2
  go_ret
  refine ⟨v', rfl, by simpa using hown, ?_⟩
  exact ((Below.refl _ w).alloc (Nat.le_refl _) _).grown hgrow (by simp) (by intro k hk; simp [Value.ownBlock] at hk; omega)
end Go.Proofs.YthkmblgehdofmaaGreat.R


namespace Go.Proofs.YthkmblgehdofmaaGreat.R
open Go.RowKit Go.Proofs.YthkmblgehdofmaaGreatW.PrintWords Go.Proofs.YthkmblgehdofmaaGreatW.PrintLast Go.Proofs.YthkmblgehdofmaaGreatW.PrintMore

set_option maxHeartbeats 400000 in
theorem cmpNaN_any (n : Int) (w : World) :
    Calls Tryz.prog 107 #[.int .i64 n] w fun e w' => e = .returned (.bool false) ∧ w = w' := by
  go_enter Tryz.func107, Tryz.ntmps107
  go_wp2
  go_ret
  exact ⟨by simp, rfl⟩

set_option maxHeartbeats 400000 in
theorem slNaN_any (n : Int) (w : World) :
    Calls Tryz.prog 92 #[.int .i64 n] w fun e w' => e = .returned (.bool false) ∧ w = w' := by
  go_enter Tryz.func92, Tryz.ntmps92
  go_wp2
  go_ret
  exact ⟨by simp, rfl⟩

set_option maxHeartbeats 400000 in
theorem less_any (a b : Int) (w : World) :
    Calls Tryz.prog 91 #[.int .i64 a, .int .i64 b] w fun e w' => e = .returned (.bool (decide (a < b))) ∧ w = w' := by
  go_enter Tryz.func91, Tryz.ntmps91
  go_wp2_with (go_at_call 107; refine (cmpNaN_any _ _).mono ?_; rintro e w' ⟨rfl, rfl⟩)
  go_ret
  exact ⟨rfl, rfl⟩

/-- how many of a list are less -/
def rank (ids : List Int) (t : Int) : Nat := (ids.filter fun x => decide (x < t)).length

theorem rank_le (ids : List Int) (t : Int) : rank ids t ≤ ids.length := List.length_filter_le _ _

theorem rank_lt {ids : List Int} (h : ids.Pairwise (· < ·)) (t : Int) : ∀ i (hi : i < ids.length), ids[i] < t ↔ i < rank ids t := by
  induction ids with
  | nil => intro i hi; simp at hi
  | cons x r ih =>
    intro i hi
    rw [List.pairwise_cons] at h
    have hr : rank (x :: r) t = if x < t then rank r t + 1 else rank r t := by
      unfold rank
      rw [List.filter_cons]
      by_cases hx : x < t <;> simp [hx]
    by_cases hx : x < t
    · rw [hr, if_pos hx]
      cases i with
      | zero => simp [hx]
      | succ i => simpa using ih h.2 i (by simpa using hi)
    · have h0 : rank r t = 0 := by
        unfold rank
        rw [List.length_eq_zero_iff, List.filter_eq_nil_iff]
        intro y hy
        have := h.1 y hy
        simp; omega
      rw [hr, if_neg hx, h0]
      refine ⟨fun hlt => ?_, fun h => by omega⟩
      cases i with
      | zero => exact absurd hlt hx
      | succ i =>
        have hm : r[i]'(by simpa using hi) ∈ r := List.getElem_mem _
        have := h.1 _ hm
        simp at hlt; omega

theorem rank_mem {ids : List Int} (h : ids.Pairwise (· < ·)) (t : Int) : t ∈ ids ↔ ∃ hr : rank ids t < ids.length, ids[rank ids t] = t := by
  constructor
  · intro hm
    obtain ⟨i, hi, he⟩ := List.getElem_of_mem hm
    have h1 := rank_lt h t i hi
    have h2 : ¬ i < rank ids t := by rw [← h1]; omega
    have hr : rank ids t < ids.length := by omega
    refine ⟨hr, ?_⟩
    rcases Nat.lt_or_ge (rank ids t) i with h3 | h3
    · have := List.pairwise_iff_getElem.1 h _ _ hr hi h3
      have h4 := rank_lt h t _ hr
      have : ids[rank ids t] < t := by omega
      rw [h4] at this
      omega
    · have : i = rank ids t := by omega
      subst this; exact he
  · rintro ⟨hr, he⟩
    rw [← he]; exact List.getElem_mem _

theorem C_int_at {w : World} {A : Option Addr} {n : Nat} {xs : List Int} {k : IntKind} (h : Kd.C (Kd.int k) w A n xs) (i : Nat) (hi : i < n) : ∃ ad, A = some ad ∧ w.cell? (ad.add i) = some (.int k (xs.getD i 0)) := by
  obtain ⟨ad, e, hc⟩ := Kd.at_int h i (by omega) (by omega)
  exact ⟨ad, e, by simpa [rd] using hc⟩

set_option maxHeartbeats 1000000 in
set_option maxRecDepth 100000 in
theorem bsearch_any (A : Option Addr) (c : Nat) (ids : List Int) (t : Int) (w : World) (h : Kd.C (Kd.int .i64) w A ids.length ids) (hs : ids.Pairwise (· < ·)) (hb : ids.length ≤ 1000) :
    Calls Tryz.prog 61 #[.slice A ids.length c, .int .i64 t] w fun e w' => e = .returned (.tuple #[.int .i64 (rank ids t), .bool (decide (t ∈ ids))]) ∧ w = w' := by
  have HS := Aside0.mk hs
  have HC := Aside0.mk h
  clear hs h
  have hrl := rank_le ids t
  go_enter Tryz.func61, Tryz.ntmps61
  go_wp2
  go_loop [7, 8] (fun i j => ∃ a b : Nat, i = .int .i64 a ∧ j = .int .i64 b ∧ a ≤ rank ids t ∧ rank ids t ≤ b ∧ b ≤ ids.length) (fun i j => (intOf j - intOf i).toNat)
  case atStart => exact ⟨0, ids.length, rfl, rfl, Nat.zero_le _, hrl, Nat.le_refl _⟩
  case round =>
    obtain ⟨a, b, rfl, rfl, h1, h2, h3⟩ := hrel
    by_cases hab : a < b
    · obtain ⟨h, hh⟩ : ∃ h : Nat, ((a : Int) + (b : Int)) / 2 = (h : Int) := ⟨(a + b) / 2, by omega⟩
      have hh1 : a ≤ h := by omega
      have hh2 : h < b := by omega
      have hlt : h < ids.length := by omega
      obtain ⟨ad, rfl, hc⟩ := C_int_at HC.out h hlt
      have hge : ids.getD h 0 = ids[h] := by simp [List.getD_eq_getElem?_getD, hlt]
      have hr := rank_lt HS.out t h hlt
      rw [← hge] at hr
      have HR := Aside0.mk hr
      clear hr hge
      generalize ids.getD h 0 = x at HR hc
      by_cases hx : x < t
      · have hx' : decide (x < t) = true := by simpa using hx
        go_wp2_with (go_at_call 91; refine (less_any _ _ _).mono ?_; rintro e w' ⟨rfl, rfl⟩)
        go_round
        case rel => exact ⟨h + 1, b, by go_num, rfl, HR.out.1 hx, h2, h3⟩
        case measure => simp [intOf]; omega
      · have hx' : decide (x < t) = false := by simpa using hx
        go_wp2_with (go_at_call 91; refine (less_any _ _ _).mono ?_; rintro e w' ⟨rfl, rfl⟩)
        go_round
        case rel => exact ⟨a, h, rfl, rfl, h1, by have := HR.out; omega, by omega⟩
        case measure => simp [intOf]; omega
    · have hab' : a = rank ids t := by omega
      have hm := rank_mem HS.out t
      by_cases hlt : a < ids.length
      · obtain ⟨ad, rfl, hc⟩ := C_int_at HC.out a hlt
        have hge : ids.getD a 0 = ids[a] := by simp [List.getD_eq_getElem?_getD, hlt]
        have hm' : t ∈ ids ↔ ids.getD a 0 = t := by rw [hm, hge]; subst hab'; exact ⟨fun ⟨_, e⟩ => e, fun e => ⟨hlt, e⟩⟩
        have HM := Aside0.mk hm'
        have HA := Aside0.mk hab'
        clear hm hm' hge hab'
        generalize ids.getD a 0 = x at HM hc
        have hd : decide (t ∈ ids) = decide (x = t) := by simp [HM.out]
        have HD := Aside0.mk hd
        clear hd
        by_cases hx : x = t
        · have hx' : (x == t) = true := by simpa using hx
          go_wp2_with (go_at_call 92; refine (slNaN_any _ _).mono ?_; rintro e w' ⟨rfl, rfl⟩)
          go_ret2
          exact ⟨by rw [HD.out, ← HA.out]; simp [hx], rfl⟩
        · have hx' : (x == t) = false := by simpa using hx
          go_wp2_with (go_at_call 92; refine (slNaN_any _ _).mono ?_; rintro e w' ⟨rfl, rfl⟩)
          go_ret2
          exact ⟨by rw [HD.out, ← HA.out]; simp [hx], rfl⟩
      · have hd : decide (t ∈ ids) = false := by
          rw [decide_eq_false_iff_not, hm]; rintro ⟨h, _⟩; omega
        have HD := Aside0.mk hd
        have HA := Aside0.mk hab'
        clear hd hm hab'
        go_wp2
        go_ret2
        exact ⟨by rw [HD.out, ← HA.out]; rfl, rfl⟩
end Go.Proofs.YthkmblgehdofmaaGreat.R


/- Laws of no program: the builtin copy at elements of several cells, told as 'only this row has turned'. -/
namespace Go.Lab
open Go.RowKit

@[go_sem] theorem run_store_float {P : Program} {w : World} {a : Addr} {m : Mode} (k : FloatKind) (b : Nat) : (store a (.float k b) m).run P w = stored P w a (.float k b) m := run_store P w a _ m rfl

theorem run_copy_rowk {P : Program} (w : World) (dT sT ty elem : TypeId) (size g o dLen dCap : Nat) (a : Addr) (sLen sCap : Nat) (cur : Array Value) (t : TypeId) (cs : List Value)
    (hu : P.underlying dT = some (.slice elem)) (hs : (P.info? elem).map (·.size) = some size)
    (hg : w.heap[g]? = some (.cells cur t (0, 0))) (hn : cs.length = Nat.min sLen dLen * size)
    (hsrc : ∀ j v, cs[j]? = some v → w.cell? (a.add j) = some v) (hfit : o + cs.length ≤ cur.size) (h1 : ∀ v ∈ cs, v.oneCell' = true) :
    (Builtin.copy_ #[dT, sT] ty #[.slice (some ⟨g, o, none⟩) dLen dCap, .slice (some a) sLen sCap]).run P w =
      .ok (goInt (Nat.min sLen dLen)) (w.setRow g (cur.toList.take o ++ cs ++ cur.toList.drop (o + cs.length)).toArray) := by
  have hl := run_loadCells_list (P := P) w a cs hsrc
  have hst := run_storeCells_at P g o t cs 0 cur w hg (by simpa using hfit) h1
  cases hq : P.info? elem with
  | none => simp [hq] at hs
  | some i =>
    have hi : i.size = size := by simpa [hq] using hs
    subst hi
    rw [hn] at hl
    simp [Builtin.copy_, run_underlying hu, Builtin.lenOf, Builtin.firstCells, sizeOf, typeInfo, hq, hl, hst]

theorem grownBy_setRow (w : World) (g : Nat) (cs : Array Value) : w.grownBy (w.setRow g cs) (some g) :=
  ⟨rfl, rfl, rfl, by simp [World.setRow], fun k _ hk => setRow_other w g k _ (fun e => hk (by rw [e]))⟩

theorem grownBy_drew (w : World) (row : Option Nat) : w.grownBy w.drew row := ⟨rfl, rfl, rfl, Nat.le_refl _, fun _ _ _ => rfl⟩

theorem wpList_copyk {P : Program} {w : World} {ops : Array Oper} {rest : List Oper} {o : Oper} {a : Act} {Q : Exit → Act → World → Prop} (hgd : o.guard = none) (d s : Operand) (dT sT : TypeId)
    (ho : o.op = .call { callee := .builtin .copy, args := #[d, s], argTypes := #[dT, sT] }) (elem : TypeId) (size : Nat) (hu : P.underlying dT = some (.slice elem)) (hsz : (P.info? elem).map (·.size) = some size)
    (g off dLen dCap : Nat) (ad : Addr) (sLen sCap : Nat) (hd : a.eval d = .slice (some ⟨g, off, none⟩) dLen dCap) (hs : a.eval s = .slice (some ad) sLen sCap)
    (cur : List Value) (t : TypeId) (hg : w.heap[g]? = some (.cells cur.toArray t (0, 0))) (cs : List Value) (hn : cs.length = Nat.min sLen dLen * size)
    (hsrc : ∀ j v, cs[j]? = some v → w.cell? (ad.add j) = some v) (hfit : off + cs.length ≤ cur.length) (h1 : ∀ v ∈ cs, v.oneCell' = true)
    (h : ∀ w', Hid (w'.heap[g]? = some (.cells (splice cur off cs).toArray t (0, 0))) → w.grownBy w' (some g) → wpList P ops Q rest (a.put o.dst (goInt (Nat.min sLen dLen))) w') : wpList P ops Q (o :: rest) a w := by
  refine wpList_plain hgd fun K hK => ?_
  have hrun := run_copy_rowk (P := P) w dT sT o.type elem size g off dLen dCap ad sLen sCap cur.toArray t cs hu hsz hg hn hsrc (by simpa using hfit) h1
  unfold Oper.wp
  simp [execOp, ho, resolve, invoke, builtin, hd, hs, hrun, Result.andThen]
  exact hK _ _ (h _ (show _ = _ by simpa [splice] using setRow_heap w g _ _ t _ hg) (by simpa using grownBy_setRow w g _))

theorem step_copyk {P : Program} {ops : Array Oper} {o : Oper} {a : Act} {w : World} {K : Act → World → Prop} {Q : Exit → Act → World → Prop} {E : Prop} (hgd : o.guard = none) (d s : Operand) (dT sT : TypeId)
    (ho : o.op = .call { callee := .builtin .copy, args := #[d, s], argTypes := #[dT, sT] }) (elem : TypeId) (size : Nat) (hu : P.underlying dT = some (.slice elem)) (hsz : (P.info? elem).map (·.size) = some size)
    (g off dLen dCap : Nat) (ad : Addr) (sLen sCap : Nat) (hd : a.eval d = .slice (some ⟨g, off, none⟩) dLen dCap) (hs : a.eval s = .slice (some ad) sLen sCap)
    (cur : List Value) (t : TypeId) (hg : w.heap[g]? = some (.cells cur.toArray t (0, 0))) (cs : List Value) (hn : cs.length = Nat.min sLen dLen * size)
    (hsrc : ∀ j v, cs[j]? = some v → w.cell? (ad.add j) = some v) (hfit : off + cs.length ≤ cur.length) (h1 : ∀ v ∈ cs, v.oneCell' = true)
    (h : ∀ w', Hid (w'.heap[g]? = some (.cells (splice cur off cs).toArray t (0, 0))) → w.grownBy w' (some g) → K (a.put o.dst (goInt (Nat.min sLen dLen))) w') :
    if Region.wanted o (yielded ops a.tmps) = true then Oper.wp P o a w K Q else E := by
  have hw : Region.wanted o (yielded ops a.tmps) = true := by simp [Region.wanted, hgd]
  rw [if_pos hw]
  have hrun := run_copy_rowk (P := P) w dT sT o.type elem size g off dLen dCap ad sLen sCap cur.toArray t cs hu hsz hg hn hsrc (by simpa using hfit) h1
  unfold Oper.wp
  simp [execOp, ho, resolve, invoke, builtin, hd, hs, hrun, Result.andThen]
  exact h _ (show _ = _ by simpa [splice] using setRow_heap w g _ _ t _ hg) (by simpa using grownBy_setRow w g _)

/-- append(s[:i], make(T, k)...) where there is no room: a new block, told by its cells. -/
theorem wpList_append_zeros {P : Program} {w : World} {ops : Array Oper} {rest : List Oper} {o : Oper} {a : Act} {Q : Exit → Act → World → Prop} (hgd : o.guard = none) (s x : Operand) (t tn : TypeId)
    (ho : o.op = .call { callee := .builtin .append, args := #[s, x], argTypes := #[t, tn] }) (e : TypeId) (i : TypeInfo) (z : Value) (size bytes : Nat) (kq kn : IntKind) (ht : P.underlying t = some (.slice e)) (htn : P.underlying tn = some (.int kn)) (hi : P.info? e = some i) (hz : i.zero = some z)
    (hsize : i.size = size) (hby : i.bytes = bytes) (hzs : z.cells.size = size) (hs0 : 0 < size)
    (b sLen sCap : Nat) (kk : Int) (hs : a.eval s = .slice (some ⟨b, 0, none⟩) sLen sCap) (hx : a.eval x = .int kq kk) (k : Nat) (hkk : kk = (k : Int))
    (olds : List Value) (hol : olds.length = sLen * size) (hold : ∀ j v, olds[j]? = some v → w.cell? ((⟨b, 0, none⟩ : Addr).add j) = some v)
    (h0 : 0 < k) (hg : sCap < sLen + k) (h63 : ((sLen + k : Nat) : Int) ≤ 9223372036854775807) (hbig : (sLen + k) * bytes ≤ 140737488355328)
    (h : ∀ g cap zs w', sLen + k ≤ cap → cap ≤ 9223372036854775807 → zs.length = (cap - sLen) * size → w'.heap[g]? = some (.cells (olds ++ zs).toArray e (0, 0)) → w.grownBy w' none → g = w.heap.size →
      wpList P ops Q rest (a.put o.dst (.slice (some ⟨g, 0, none⟩) (sLen + k) cap)) w') : wpList P ops Q (o :: rest) a w := by
  subst hkk hsize hby
  have hold' : (Builtin.firstCells i.size sLen (.slice (some ⟨b, 0, none⟩) sLen sCap)).run P w.drew = .ok olds.toArray w.drew :=
    run_firstCells_some w.drew i.size sLen ⟨b, 0, none⟩ sLen sCap olds hol hold
  have hr := Lib.run_append_grow_zeros w t tn o.type e i z kq kn ht htn hi hz (some ⟨b, 0, none⟩) sLen sCap olds hold' k h0 hs0 hg h63 (by
    have : k * i.bytes ≤ (sLen + k) * i.bytes := Nat.mul_le_mul_right _ (by omega)
    omega) (growslice_fits hg hbig)
  refine Lib.wpList_append_run w hgd s x t tn ho _ _ hs hx _ _ hr ?_
  have hge := grownCap_ge w (sLen + k) sCap e
  have hcm := grownCap_le_maxLen w (sLen + k) sCap e (by unfold maxLen; omega)
  unfold maxLen at hcm
  refine h w.heap.size (grownCap w (sLen + k) sCap e) ((Builtin.zeroCells z.cells k ++ Builtin.zeroCells z.cells (grownCap w (sLen + k) sCap e - (sLen + k))).toList) _ hge (by omega) ?_ ?_ ?_ rfl
  · simp only [Array.length_toList, Array.size_append, size_zeroCells, hzs, ← Nat.add_mul]
    congr 1; omega
  · have := heap_alloc_new w.drew (.cells (olds.toArray ++ Builtin.zeroCells z.cells k ++ Builtin.zeroCells z.cells (grownCap w (sLen + k) sCap e - (sLen + k))) e)
    rw [show w.drew.heap.size = w.heap.size from rfl] at this
    rw [this]
    congr 2
    apply Array.ext'
    simp
  · exact (grownBy_drew w none).trans (World.grownBy_alloc _ _ _)

theorem splice_at {α : Type} (X Y cs : List α) : splice (X ++ Y) X.length cs = X ++ (cs ++ Y.drop cs.length) := by
  unfold splice
  rw [List.take_left, List.drop_append]
  simp

theorem splice_after {α : Type} (A zs F D : List α) : (splice (splice (A ++ zs) A.length F) (A.length + F.length) D).take (A.length + F.length + D.length) = A ++ F ++ D := by
  rw [splice_at, ← List.append_assoc, show A.length + F.length = (A ++ F).length by simp, splice_at, ← List.append_assoc, show (A ++ F).length + D.length = (A ++ F ++ D).length by simp; omega, List.take_left]

theorem splice_before {α : Type} (A M1 M2 F D : List α) (h : M1.length = F.length) : (splice (splice (A ++ M1 ++ M2) (A.length + F.length) D) A.length F).take (A.length + F.length + D.length) = A ++ F ++ D := by
  rw [show A.length + F.length = (A ++ M1).length by simp [h], splice_at, List.append_assoc, splice_at, ← h, List.drop_left, ← List.append_assoc, ← List.append_assoc]
  rw [show (A ++ M1).length + D.length = (A ++ F ++ D).length by simp [h]; omega, List.take_left]
end Go.Lab


namespace Go.Proofs.YthkmblgehdofmaaGreat.R
open Go.RowKit Go.Lab Go.Proofs.YthkmblgehdofmaaGreatW.PrintWords Go.Proofs.YthkmblgehdofmaaGreatW.PrintLast Go.Proofs.YthkmblgehdofmaaGreatW.PrintMore

theorem Tryz.info85 : (Tryz.prog.info? 85).map (fun i => (i.zero, i.size, i.bytes)) = some (some (.agg #[.int .i64 0, .float .f64 0]), 2, 16) := by kernel_rfl
theorem Tryz.size85 : (Tryz.prog.info? 85).map (·.size) = some 2 := by kernel_rfl

/-- arcs, cell by cell -/
def fl (l : List (Int × Nat)) : List Value := l.flatMap fun a => [.int .i64 a.1, .float .f64 a.2]
theorem fl_nil : fl [] = [] := rfl
theorem fl_cons (a : Int × Nat) (l : List (Int × Nat)) : fl (a :: l) = .int .i64 a.1 :: .float .f64 a.2 :: fl l := rfl
theorem fl_append (l m : List (Int × Nat)) : fl (l ++ m) = fl l ++ fl m := by simp [fl]
theorem fl_length (l : List (Int × Nat)) : (fl l).length = l.length * 2 := by
  induction l with
  | nil => rfl
  | cons a l ih => rw [fl_cons]; simp [ih]; omega
theorem fl_one (l : List (Int × Nat)) : ∀ u ∈ fl l, u.oneCell' = true := by
  intro u hu
  simp only [fl, List.mem_flatMap] at hu
  obtain ⟨a, _, ha⟩ := hu
  simp at ha
  rcases ha with rfl | rfl <;> rfl
theorem fl_take (l : List (Int × Nat)) : ∀ i, (fl l).take (i * 2) = fl (l.take i) := by
  induction l with
  | nil => intro i; simp [fl_nil]
  | cons a l ih =>
    intro i
    cases i with
    | zero => simp [fl_nil]
    | succ i => rw [show (i + 1) * 2 = i * 2 + 1 + 1 by omega, fl_cons, List.take_succ_cons, List.take_succ_cons, List.take_succ_cons, fl_cons, ih]
theorem fl_drop (l : List (Int × Nat)) : ∀ i, (fl l).drop (i * 2) = fl (l.drop i) := by
  induction l with
  | nil => intro i; simp [fl_nil]
  | cons a l ih =>
    intro i
    cases i with
    | zero => simp
    | succ i => rw [show (i + 1) * 2 = i * 2 + 1 + 1 by omega, fl_cons, List.drop_succ_cons, List.drop_succ_cons, List.drop_succ_cons, ih]

/-- the list with a at place i -/
def insAt (l : List (Int × Nat)) (i : Nat) (a : Int × Nat) : List (Int × Nat) := l.take i ++ a :: l.drop i

theorem insAt_end (l : List (Int × Nat)) (a : Int × Nat) : insAt l l.length a = l ++ [a] := by simp [insAt]

theorem blk_news {w : World} {vb : Nat} {a : Int × Nat} (hvb : w.heap[vb]? = some (.cells #[.int .i64 a.1, .float .f64 a.2] 85 (0,0))) :
    ∀ j u, (fl [a])[j]? = some u → w.cell? ((⟨vb, 0, none⟩ : Addr).add j) = some u := by
  intro j u hu
  rw [add_plain, cell_of_row w vb j _ _ _ hvb]
  simpa [fl] using hu

set_option maxHeartbeats 1000000 in
set_option maxRecDepth 100000 in
theorem insert_end (base : Nat) (v : Value) (l : List (Int × Nat)) (a : Int × Nat) (vb : Nat) (w : World) (hown : w.ownsRow base 85 2 v l.length (fl l))
    (hvb : w.heap[vb]? = some (.cells #[.int .i64 a.1, .float .f64 a.2] 85 (0,0))) (hbase : base ≤ w.heap.size) (hlen : l.length ≤ 1000) :
    Calls Tryz.prog 121 #[v, .int .i64 l.length, .slice (some ⟨vb, 0, none⟩) 1 1] w fun e w' => ∃ v', e = .returned v' ∧ w'.ownsRow base 85 2 v' (l.length + 1) (fl (insAt l l.length a)) ∧ w.grownBy w' v.ownBlock ∧
      (v'.ownBlock = v.ownBlock ∨ v'.ownBlock = some w.heap.size) := by
  have HN := Aside0.mk (blk_news hvb)
  have HO := Aside0.mk hown
  obtain ⟨i0, hi, hz0, hz1, hz2⟩ := info_parts Tryz.info85
  have HI := Aside0.mk (And.intro hi (And.intro hz0 (And.intro hz1 hz2)))
  clear hi hz0 hz1 hz2
  have hcase : ∃ A c, v = .slice A l.length c ∧ l.length ≤ c ∧ c ≤ maxLen := by
    rcases hown.2 with ⟨rfl, h0⟩ | ⟨g, cap, cur, rfl, _, _, h1, h2, _⟩
    · rw [h0]; exact ⟨_, _, rfl, Nat.zero_le _, Nat.zero_le _⟩
    · exact ⟨_, _, rfl, h1, h2⟩
  obtain ⟨A, c, rfl, hc, hc2⟩ := hcase
  unfold maxLen at hc2
  clear hvb hown
  have hfin : ∀ v' (w' : World), w'.ownsRow base 85 2 v' (l.length + 1) (fl l ++ fl [a]) → w'.ownsRow base 85 2 v' (l.length + 1) (fl (insAt l l.length a)) := by
    intro v' w' h; rw [insAt_end, fl_append]; exact h
  have HF := Aside0.mk hfin
  have HB := Aside0.mk (fl_length [a])
  clear hfin
  by_cases hcn : c = l.length
  · subst hcn
    go_enter Tryz.func121, Tryz.ntmps121
    go_wp2_with (at_builtin; refine wpList_append_own_at _ rfl _ _ 83 rfl base 85 i0 (.agg #[.int .i64 0, .float .f64 0]) 2 16 Tryz.underlying83 HI.out.1 HI.out.2.1 HI.out.2.2.1 HI.out.2.2.2 rfl (by decide) _ l.length (fl l) rfl HO.out ⟨vb, 0, none⟩ 1 1 (fl [a]) rfl ?q1 HN.out ?q2 ?q3 ?q4 ?q5 ?_)
    case q1 => rw [HB.out]; rfl
    case q2 => exact fl_one _
    case q3 => unfold maxLen; omega
    case q4 => omega
    case q5 => exact hbase
    intro v' w1 hown1 hgrow _ hat
    go_wp2
    go_ret
    exact ⟨v', rfl, HF.out _ _ hown1, hgrow, hat⟩
  · have hA : ∃ ad, A = some ad := by
      rcases HO.out.2 with ⟨h, h0⟩ | ⟨g, cap, cur, h, _⟩
      · injection h with h1 h2 h3; omega
      · injection h with h1 h2 h3; exact ⟨_, h1⟩
    obtain ⟨ad, rfl⟩ := hA
    go_enter Tryz.func121, Tryz.ntmps121
    go_wp2_with (at_builtin; refine wpList_append_own_at _ rfl _ _ 83 rfl base 85 i0 (.agg #[.int .i64 0, .float .f64 0]) 2 16 Tryz.underlying83 HI.out.1 HI.out.2.1 HI.out.2.2.1 HI.out.2.2.2 rfl (by decide) _ l.length (fl l) rfl HO.out ⟨vb, 0, none⟩ 1 1 (fl [a]) rfl ?q1 HN.out ?q2 ?q3 ?q4 ?q5 ?_)
    case q1 => rw [HB.out]; rfl
    case q2 => exact fl_one _
    case q3 => unfold maxLen; omega
    case q4 => omega
    case q5 => exact hbase
    intro v' w1 hown1 hgrow _ hat
    go_wp2
    go_ret
    exact ⟨v', rfl, HF.out _ _ hown1, hgrow, hat⟩
end Go.Proofs.YthkmblgehdofmaaGreat.R


namespace Go.Proofs.YthkmblgehdofmaaGreat.R
open Go.RowKit Go.Lab Go.Proofs.YthkmblgehdofmaaGreatW.PrintWords Go.Proofs.YthkmblgehdofmaaGreatW.PrintLast Go.Proofs.YthkmblgehdofmaaGreatW.PrintMore

theorem Tryz.sizeOf85 : ∀ w, (Go.sizeOf 85).run Tryz.prog w = .ok 2 w := fun _ => by kernel_rfl

theorem overlaps_no (w : World) (b vb off la ca lb cb : Nat) (cur : Array Value) (x y : Value) (hb : w.heap[b]? = some (.cells cur 85 (0,0))) (hcur : cur.size ≠ 0)
    (hvb : w.heap[vb]? = some (.cells #[x, y] 85 (0,0))) (hne : vb ≠ b) :
    (callFunc 125 #[.slice (some ⟨vb, 0, none⟩) la ca, .slice (some ⟨b, off, none⟩) lb cb]).run Tryz.prog w = .ok (.value (.bool false)) w := by
  rw [run_callFunc_extern Tryz.func125 (by kernel_rfl) (by kernel_rfl) (by kernel_rfl) (e := Extern.SlicesOverlaps.overlaps #[83, 83] #[4]) (by kernel_rfl),
    Lib.run_overlaps_apart w 83 4 85 Tryz.underlying83 2 Tryz.sizeOf85 ⟨vb, 0, none⟩ ⟨b, off, none⟩ la ca lb cb hne 85 85 2 cur.size (by simp [World.shape?, hvb]) (by simp [World.shape?, hb]) hcur (by simp [World.frozen?, hvb]) (by simp [World.frozen?, hvb])]
  rfl

set_option maxHeartbeats 2000000 in
set_option maxRecDepth 100000 in
theorem insert_shift (base b cap : Nat) (cur : Array Value) (l : List (Int × Nat)) (i : Nat) (hi : i < l.length) (hcap : l.length + 1 ≤ cap) (hc2 : cap ≤ 9223372036854775807) (a : Int × Nat) (vb : Nat) (w : World)
    (hb : w.heap[b]? = some (.cells cur 85 (0,0))) (hcur : cur.size = cap * 2) (htake : cur.toList.take (l.length * 2) = fl l)
    (hvb : w.heap[vb]? = some (.cells #[.int .i64 a.1, .float .f64 a.2] 85 (0,0))) (hne : vb ≠ b) (hlen : l.length ≤ 1000) :
    Calls Tryz.prog 121 #[.slice (some ⟨b, 0, none⟩) l.length cap, .int .i64 i, .slice (some ⟨vb, 0, none⟩) 1 1] w fun e w' => e = .returned (.slice (some ⟨b, 0, none⟩) (l.length + 1) cap) ∧
      w'.heap[b]? = some (.cells (splice (splice cur.toList ((i + 1) * 2) (fl (l.drop i))) (i * 2) (fl [a])).toArray 85 (0,0)) ∧ w.grownBy w' (some b) := by
  have HN := Aside0.mk (blk_news hvb)
  have HB := Aside0.mk hb
  have HV := Aside0.mk hvb
  have hov := fun off la ca lb cb => overlaps_no w b vb off la ca lb cb cur _ _ hb (by omega) hvb hne
  have hsrc : ∀ j v, (fl (l.drop i))[j]? = some v → w.cell? ((⟨b, 0 + i * 2, none⟩ : Addr).add j) = some v := by
    intro j v hv
    have : (⟨b, 0 + i * 2, none⟩ : Addr).add j = ⟨b, i * 2 + j, none⟩ := by unfold Addr.add; split <;> simp_all
    rw [this, cell_of_row w b _ _ _ _ hb]
    rw [← fl_drop, ← htake, List.getElem?_drop, List.getElem?_take] at hv
    split at hv
    · simpa using hv
    · cases hv
  have HS := Aside0.mk hsrc
  have hl1 := fl_length (l.drop i)
  have hl2 := fl_length [a]
  rw [List.length_drop] at hl1
  have HL1 := Aside0.mk hl1
  have HL2 := Aside0.mk hl2
  have HC := Aside0.mk hcur
  have HT := Aside0.mk htake
  have hlw : cur.toList.length = cap * 2 := by simpa using hcur
  have HLW := Aside0.mk hlw
  have hn1 : ¬ ((i : Int) = (l.length : Int)) := by omega
  have hn2 : ¬ (cap = i + 1) := by omega
  have hn3 : ¬ (cap = i) := by omega
  clear hb hvb hsrc hl1 hl2 hcur htake hlw
  go_enter Tryz.func121, Tryz.ntmps121
  go_wp2_with (simp only [hov])
  have hm1 : Nat.min (l.length + 1 - i) (l.length - i) = l.length - i := Nat.min_eq_right (by omega)
  have HM1 := Aside0.mk hm1
  clear hm1
  have hx1 : IntKind.i64.wrap ((i : Int) + 1) = (i : Int) + 1 := by rw [IntKind.wrap_i64]; omega
  have hx2 : (0 : Int) ≤ (i : Int) + 1 := by omega
  have hx3 : (i : Int) + 1 ≤ (l.length : Int) + 1 := by omega
  have hx4 : ((i : Int) + 1).toNat = i + 1 := by omega
  have hx6 : (i : Int) ≤ (l.length : Int) + 1 := by omega
  have hx5 : l.length + 1 - (i + 1) = l.length - i := by omega
  go_region_law (refine step_copyk rfl (.tmp 73) (.tmp 76) 83 83 rfl 85 2 Tryz.underlying83 Tryz.size85 b ((i + 1) * 2) (l.length - i) (cap - (i + 1)) ⟨b, i * 2, none⟩ (l.length + 1 - i) (cap - i) (by simp [Act.eval, Act.put]) (by simp [Act.eval, Act.put]) cur.toList 85 HB.out (fl (l.drop i)) (by rw [HL1.out, HM1.out]) (by simpa using HS.out) (by rw [HL1.out, HLW.out]; omega) (fl_one _) ?_; intro w2 HG2 hg2)
  have hv2 : w2.heap[vb]? = some (.cells #[.int .i64 a.1, .float .f64 a.2] 85 (0,0)) := by
    rw [hg2.block vb (blk_lt HV.out) (by simpa using hne)]; exact HV.out
  have HN2 := Aside0.mk (blk_news hv2)
  have HW := Aside0.mk ((grownBy_drew w (some b)).trans hg2)
  have hm2 : Nat.min 1 (l.length + 1 - i) = 1 := Nat.min_eq_left (by omega)
  have HM2 := Aside0.mk hm2
  have hls : (splice cur.toList ((i + 1) * 2) (fl (l.drop i))).length = cap * 2 := by rw [length_splice _ _ _ (by rw [HL1.out, HLW.out]; omega), HLW.out]
  have HLS := Aside0.mk hls
  clear hm2 hv2 hg2 hls hov
  go_wp2_with (with_reducible refine wpList_copyk rfl (.tmp 80) (.tmp 81) 83 83 rfl 85 2 Tryz.underlying83 Tryz.size85 b (i * 2) (l.length + 1 - i) (cap - i) ⟨vb, 0, none⟩ 1 1 ?p1 ?p2 (splice cur.toList ((i + 1) * 2) (fl (l.drop i))) 85 HG2.out (fl [a]) ?p3 HN2.out ?p4 ?p5 ?_)
  case p1 => simp [Act.eval]
  case p2 => simp [Act.eval]
  case p3 => rw [HL2.out, HM2.out]; rfl
  case p4 => rw [HL2.out, HLS.out]; simp; omega
  case p5 => exact fl_one _
  intro w3 HG3 hg3
  go_wp2
  go_ret
  exact ⟨rfl, HG3.out, HW.out.trans hg3⟩
end Go.Proofs.YthkmblgehdofmaaGreat.R


namespace Go.Proofs.YthkmblgehdofmaaGreat.R
open Go.RowKit Go.Lab Go.Proofs.YthkmblgehdofmaaGreatW.PrintWords Go.Proofs.YthkmblgehdofmaaGreatW.PrintLast Go.Proofs.YthkmblgehdofmaaGreatW.PrintMore

set_option maxHeartbeats 2000000 in
set_option maxRecDepth 100000 in
theorem insert_grow (b : Nat) (cur : Array Value) (l : List (Int × Nat)) (i : Nat) (hi : i < l.length) (a : Int × Nat) (vb : Nat) (w : World)
    (hb : w.heap[b]? = some (.cells cur 85 (0,0))) (hcur : cur.size = l.length * 2) (htake : cur.toList = fl l)
    (hvb : w.heap[vb]? = some (.cells #[.int .i64 a.1, .float .f64 a.2] 85 (0,0))) (hlen : l.length ≤ 1000) :
    Calls Tryz.prog 121 #[.slice (some ⟨b, 0, none⟩) l.length l.length, .int .i64 i, .slice (some ⟨vb, 0, none⟩) 1 1] w fun e w' => ∃ cap cells, e = .returned (.slice (some ⟨w.heap.size, 0, none⟩) (l.length + 1) cap) ∧ l.length + 1 ≤ cap ∧ cap ≤ 9223372036854775807 ∧
      w'.heap[w.heap.size]? = some (.cells cells 85 (0,0)) ∧ cells.size = cap * 2 ∧ cells.toList.take ((l.length + 1) * 2) = fl (insAt l i a) ∧ w.grownBy w' none := by
  have HV := Aside0.mk hvb
  have HBB := Aside0.mk hb
  have hbw := blk_lt hb
  have hvw := blk_lt hvb
  obtain ⟨i0, hi0, hz0, hz1, hz2⟩ := info_parts Tryz.info85
  have HI := Aside0.mk (And.intro hi0 (And.intro hz0 (And.intro hz1 hz2)))
  have hold : ∀ j v, (fl (l.take i))[j]? = some v → w.cell? ((⟨b, 0, none⟩ : Addr).add j) = some v := by
    intro j v hv
    rw [add_plain, cell_of_row w b _ _ _ _ hb]
    rw [← fl_take, ← htake, List.getElem?_take] at hv
    split at hv
    · simpa using hv
    · cases hv
  have HO := Aside0.mk hold
  have hl0 := fl_length (l.take i)
  rw [List.length_take, Nat.min_eq_left (by omega)] at hl0
  have hl1 := fl_length (l.drop i)
  rw [List.length_drop] at hl1
  have hl2 := fl_length [a]
  have HL0 := Aside0.mk hl0
  have HL1 := Aside0.mk hl1
  have HL2 := Aside0.mk hl2
  have HT := Aside0.mk htake
  have hn1 : ¬ ((i : Int) = (l.length : Int)) := by omega
  have hn3 : ¬ (l.length = i) := by omega
  clear hb hvb hl0 hl1 hl2 htake hold hi0 hz0 hz1 hz2 hcur
  obtain ⟨N, hN⟩ : ∃ N, N = w.heap.size := ⟨_, rfl⟩
  have HNN := Aside0.mk hN
  go_enter Tryz.func121, Tryz.ntmps121
  go_wp2_with (at_builtin; refine wpList_append_zeros rfl _ _ 83 3 rfl 85 i0 (.agg #[.int .i64 0, .float .f64 0]) 2 16 .i64 .i64 Tryz.underlying83 Tryz.underlying3 HI.out.1 HI.out.2.1 HI.out.2.2.1 HI.out.2.2.2 rfl (by decide) b i l.length _ rfl rfl (l.length + 1 - i) ?q0 (fl (l.take i)) HL0.out HO.out ?q1 ?q2 ?q3 ?q4 ?_)
  case q0 => omega
  case q1 => omega
  case q2 => omega
  case q3 => omega
  case q4 => omega
  intro g cap zs w1 hcap hcap2 hzs hw1 hg1 hgw
  have e1 : i + (l.length + 1 - i) = l.length + 1 := by omega
  rw [e1] at hcap ⊢
  have hv1 : w1.heap[vb]? = some (.cells #[.int .i64 a.1, .float .f64 a.2] 85 (0,0)) := by rw [hg1.block vb hvw (by simp)]; exact HV.out
  have hb1 : w1.heap[b]? = some (.cells cur 85 (0,0)) := by rw [hg1.block b hbw (by simp)]; exact HBB.out
  have hgb : b ≠ g := by omega
  have hgv : vb ≠ g := by omega
  have HN1 := Aside0.mk (blk_news hv1)
  have HB1 := Aside0.mk hb1
  have HW1 := Aside0.mk hw1
  have HG1 := Aside0.mk hg1
  have HGW := Aside0.mk hgw
  have HZS := Aside0.mk hzs
  have hrl : (fl (l.take i) ++ zs).length = cap * 2 := by rw [List.length_append, HL0.out, hzs]; omega
  have HRL := Aside0.mk hrl
  have hm1 : Nat.min 1 (l.length + 1 - i) = 1 := Nat.min_eq_left (by omega)
  have HM1 := Aside0.mk hm1
  have hn4 : ¬ (cap = i) := by omega
  clear e1 hv1 hb1 hw1 hg1 hgw hzs hrl hm1
  go_wp2_with (with_reducible refine wpList_copyk rfl (.tmp 43) (.tmp 44) 83 83 rfl 85 2 Tryz.underlying83 Tryz.size85 g (i * 2) (l.length + 1 - i) (cap - i) ⟨vb, 0, none⟩ 1 1 ?p1 ?p2 (fl (l.take i) ++ zs) 85 HW1.out (fl [a]) ?p3 HN1.out ?p4 ?p5 ?_)
  case p1 => simp [Act.eval]
  case p2 => simp [Act.eval]
  case p3 => rw [HL2.out, HM1.out]; rfl
  case p4 => rw [HL2.out, HRL.out]; simp; omega
  case p5 => exact fl_one _
  intro w2 HG2 hg2
  have hb2 : w2.heap[b]? = some (.cells cur 85 (0,0)) := by rw [hg2.block b (blk_lt HB1.out) (by simpa using hgb)]; exact HB1.out
  have hsrc : ∀ j v, (fl (l.drop i))[j]? = some v → w2.cell? ((⟨b, i * 2, none⟩ : Addr).add j) = some v := by
    intro j v hv
    have : (⟨b, i * 2, none⟩ : Addr).add j = ⟨b, i * 2 + j, none⟩ := by unfold Addr.add; split <;> simp_all
    rw [this, cell_of_row w2 b _ _ _ _ hb2]
    rw [← fl_drop, ← HT.out, List.getElem?_drop] at hv
    simpa using hv
  have HS := Aside0.mk hsrc
  have HGG2 := Aside0.mk hg2
  have hr2 : (splice (fl (l.take i) ++ zs) (i * 2) (fl [a])).length = cap * 2 := by rw [length_splice _ _ _ (by rw [HL2.out, HRL.out]; simp; omega), HRL.out]
  have HR2 := Aside0.mk hr2
  have hm2 : Nat.min (l.length - i) (l.length - i) = l.length - i := Nat.min_self _
  have HM2 := Aside0.mk hm2
  have hx1 : IntKind.i64.wrap ((i : Int) + 1) = (i : Int) + 1 := by rw [IntKind.wrap_i64]; omega
  have hx2 : (0 : Int) ≤ (i : Int) + 1 := by omega
  have hx3 : (i : Int) + 1 ≤ (l.length : Int) + 1 := by omega
  have hx4 : ((i : Int) + 1).toNat = i + 1 := by omega
  have hx5 : l.length + 1 - (i + 1) = l.length - i := by omega
  have hx6 : (i : Int) ≤ (l.length : Int) + 1 := by omega
  have hx7 : (i : Int) ≤ (l.length : Int) := by omega
  have hx8 : ¬ (cap = i + 1) := by omega
  clear hsrc hg2 hb2 hr2 hm2
  go_wp2
  go_region_law (refine step_copyk rfl (.tmp 50) (.tmp 53) 83 83 rfl 85 2 Tryz.underlying83 Tryz.size85 g ((i + 1) * 2) (l.length - i) (cap - (i + 1)) ⟨b, i * 2, none⟩ (l.length - i) (l.length - i) (by simp [Act.eval, Act.put]) (by simp [Act.eval, Act.put]) (splice (fl (l.take i) ++ zs) (i * 2) (fl [a])) 85 HG2.out (fl (l.drop i)) (by rw [HL1.out, HM2.out]) HS.out (by rw [HL1.out, HR2.out]; omega) (fl_one _) ?_; intro w3 HG3 hg3)
  go_wp2
  go_ret
  have hgrow : w.grownBy w3 none := by
    have h1 := HG1.out
    have h2 := HGG2.out
    have hsz1 : w1.heap.size ≤ w2.heap.size := h2.size
    refine ⟨hg3.os.trans (h2.os.trans h1.os), hg3.tape.trans (h2.tape.trans h1.tape), hg3.output.trans (h2.output.trans h1.output), Nat.le_trans h1.size (Nat.le_trans h2.size hg3.size), fun k hk _ => ?_⟩
    have hkg : some k ≠ some g := by rw [HGW.out]; simp; omega
    have := h1.size
    exact (hg3.block k (show k < w2.heap.size by omega) hkg).trans ((h2.block k (by omega) hkg).trans (h1.block k hk (by simp)))
  refine ⟨cap, (splice (splice (fl (l.take i) ++ zs) (i * 2) (fl [a])) ((i + 1) * 2) (fl (l.drop i))).toArray, by rw [HGW.out]; rfl, by omega, hcap2, by rw [← HGW.out]; exact HG3.out, ?_, ?_, hgrow⟩
  · rw [List.size_toArray, length_splice _ _ _ (by rw [HL1.out, HR2.out]; omega), HR2.out]
  · have h := splice_after (fl (l.take i)) zs (fl [a]) (fl (l.drop i))
    rw [HL0.out, HL1.out, HL2.out] at h
    rw [List.toList_toArray, show (l.length + 1) * 2 = i * 2 + [a].length * 2 + (l.length - i) * 2 by simp; omega, show (i + 1) * 2 = i * 2 + [a].length * 2 by simp; omega, h, ← fl_append, ← fl_append]
    simp [insAt]

/-- slices.Insert at arcs, one new arc: whatever room there is. -/
theorem insert_any (base : Nat) (v : Value) (l : List (Int × Nat)) (i : Nat) (hi : i ≤ l.length) (a : Int × Nat) (vb : Nat) (w : World) (hown : w.ownsRow base 85 2 v l.length (fl l))
    (hvb : w.heap[vb]? = some (.cells #[.int .i64 a.1, .float .f64 a.2] 85 (0,0))) (hne : v.ownBlock ≠ some vb) (hbase : base ≤ w.heap.size) (hlen : l.length ≤ 1000) :
    Calls Tryz.prog 121 #[v, .int .i64 i, .slice (some ⟨vb, 0, none⟩) 1 1] w fun e w' => ∃ v', e = .returned v' ∧ w'.ownsRow base 85 2 v' (l.length + 1) (fl (insAt l i a)) ∧ w.grownBy w' v.ownBlock ∧
      (v'.ownBlock = v.ownBlock ∨ v'.ownBlock = some w.heap.size) := by
  by_cases h : i = l.length
  · subst h; exact insert_end base v l a vb w hown hvb hbase hlen
  · have hlt : i < l.length := by omega
    have hil : (insAt l i a).length = l.length + 1 := by simp [insAt]; omega
    have hfl : (fl (insAt l i a)).length = (l.length + 1) * 2 := by rw [fl_length, hil]
    rcases hown.2 with ⟨_, h0⟩ | ⟨g, cap, cur, rfl, hb1, hg, hc1, hc2, hcs, htk⟩
    · omega
    · have hc3 := hc2
      unfold maxLen at hc3
      by_cases hroom : l.length + 1 ≤ cap
      · refine (insert_shift base g cap cur l i hlt hroom (by omega) a vb w hg hcs htk hvb (fun e => hne (by rw [e]; rfl)) hlen).mono ?_
        rintro e w' ⟨rfl, hh, hgr⟩
        refine ⟨_, rfl, ⟨hfl, .inr ⟨g, cap, _, rfl, hb1, hh, hroom, hc2, ?_, ?_⟩⟩, hgr, .inl rfl⟩
        · have hl1 := fl_length (l.drop i)
          rw [List.length_drop] at hl1
          have hl2 := fl_length [a]
          have hcl : cur.toList.length = cap * 2 := by simpa using hcs
          have h1 : (splice cur.toList ((i + 1) * 2) (fl (l.drop i))).length = cap * 2 := by rw [length_splice _ _ _ (by rw [hl1, hcl]; omega), hcl]
          rw [List.size_toArray, length_splice _ _ _ (by rw [h1, hl2]; simp; omega), h1]
        · have hl1 := fl_length (l.drop i)
          rw [List.length_drop] at hl1
          have hl2 := fl_length [a]
          have hcl : cur.toList.length = cap * 2 := by simpa using hcs
          have hsp : cur.toList = (cur.toList.take (i * 2)) ++ ((cur.toList.drop (i * 2)).take 2) ++ (cur.toList.drop (i * 2)).drop 2 := by
            rw [List.append_assoc, List.take_append_drop, List.take_append_drop]
          have hA : cur.toList.take (i * 2) = fl (l.take i) := by
            rw [← fl_take, ← htk, List.take_take, Nat.min_eq_left (by omega)]
          have hl0 := fl_length (l.take i)
          rw [List.length_take, Nat.min_eq_left (by omega)] at hl0
          have h := splice_before (fl (l.take i)) ((cur.toList.drop (i * 2)).take 2) ((cur.toList.drop (i * 2)).drop 2) (fl [a]) (fl (l.drop i)) (by rw [hl2, List.length_take, List.length_drop, hcl]; simp; omega)
          rw [hl0, hl1, hl2, ← hA, ← hsp] at h
          rw [List.toList_toArray, show (l.length + 1) * 2 = i * 2 + [a].length * 2 + (l.length - i) * 2 by simp; omega, show (i + 1) * 2 = i * 2 + [a].length * 2 by simp; omega, h, hA, ← fl_append, ← fl_append]
          simp [insAt]
      · obtain rfl : cap = l.length := by omega
        have htk' : cur.toList = fl l := by rw [← htk, List.take_of_length_le (by simp [hcs])]
        refine (insert_grow g cur l i hlt a vb w hg hcs htk' hvb hlen).mono ?_
        rintro e w' ⟨cap, cells, rfl, h1, h2, h3, h4, h5, h6⟩
        exact ⟨_, rfl, ⟨hfl, .inr ⟨w.heap.size, cap, cells, rfl, hbase, h3, h1, by unfold maxLen; omega, h4, h5⟩⟩, ⟨h6.os, h6.tape, h6.output, h6.size, fun k hk _ => h6.block k hk (by simp)⟩, .inr rfl⟩
end Go.Proofs.YthkmblgehdofmaaGreat.R


namespace Go.Proofs.YthkmblgehdofmaaGreat.R
open Go.RowKit Go.Lab Go.Proofs.YthkmblgehdofmaaGreatW.PrintWords Go.Proofs.YthkmblgehdofmaaGreatW.PrintLast Go.Proofs.YthkmblgehdofmaaGreatW.PrintMore

set_option maxHeartbeats 400000 in
theorem cmp39_any (x k : Int) (y : Nat) (w : World) (h0 : 0 ≤ x) (h1 : x ≤ 1000) (h2 : 0 ≤ k) (h3 : k ≤ 1000) :
    Calls Tryz.prog 120 #[.agg #[.int .i64 x, .float .f64 y], .int .i64 k] w fun e w' => e = .returned (.int .i64 (x - k)) ∧ w.alloc (.cells #[.int .i64 x, .float .f64 y] 85) = w' := by
  go_enter Tryz.func120, Tryz.ntmps120
  go_wp2
  go_ret
  exact ⟨rfl, rfl⟩

/-- the cells of arc h of an owned row -/
theorem fl_cells {w : World} {base : Nat} {v : Value} {l : List (Int × Nat)} (h : w.ownsRow base 85 2 v l.length (fl l)) (j : Nat) (hj : j < l.length) :
    ∃ g cap, v = .slice (some ⟨g, 0, none⟩) l.length cap ∧ g < w.heap.size ∧ l.length ≤ cap ∧ w.cell? ⟨g, j * 2, none⟩ = some (.int .i64 l[j].1) ∧ w.cell? ⟨g, j * 2 + 1, none⟩ = some (.float .f64 l[j].2) := by
  rcases h.2 with ⟨_, h0⟩ | ⟨g, cap, cur, rfl, hb1, hg, hc1, hc2, hcs, htk⟩
  · omega
  · refine ⟨g, cap, rfl, blk_lt hg, hc1, ?_, ?_⟩
    · rw [cell_of_row w g _ _ _ _ hg]
      have h1 : (fl l)[j * 2]? = some (.int .i64 l[j].1) := by
        have := fl_drop l j
        rw [List.drop_eq_getElem_cons hj, fl_cons] at this
        have h2 : ((fl l).drop (j * 2))[0]? = some (.int .i64 l[j].1) := by rw [this]; rfl
        rw [List.getElem?_drop] at h2
        simpa using h2
      rw [← htk, List.getElem?_take] at h1
      split at h1
      · simpa using h1
      · cases h1
    · rw [cell_of_row w g _ _ _ _ hg]
      have h1 : (fl l)[j * 2 + 1]? = some (.float .f64 l[j].2) := by
        have := fl_drop l j
        rw [List.drop_eq_getElem_cons hj, fl_cons] at this
        have h2 : ((fl l).drop (j * 2))[1]? = some (.float .f64 l[j].2) := by rw [this]; rfl
        rw [List.getElem?_drop] at h2
        simpa using h2
      rw [← htk, List.getElem?_take] at h1
      split at h1
      · simpa using h1
      · cases h1

def keys (l : List (Int × Nat)) : List Int := l.map (·.1)
theorem keys_length (l : List (Int × Nat)) : (keys l).length = l.length := by simp [keys]

set_option maxHeartbeats 2000000 in
set_option maxRecDepth 100000 in
theorem bsf39_any (base : Nat) (v : Value) (l : List (Int × Nat)) (k : Int) (w : World) (h : w.ownsRow base 85 2 v l.length (fl l)) (hs : (keys l).Pairwise (· < ·)) (hb : l.length ≤ 1000)
    (hk0 : 0 ≤ k) (hk1 : k ≤ 1000) (hkk : ∀ a ∈ l, 0 ≤ a.1 ∧ a.1 ≤ 1000) :
    Calls Tryz.prog 119 #[v, .int .i64 k, .func (.func 120) #[] #[]] w fun e w' => e = .returned (.tuple #[.int .i64 (rank (keys l) k), .bool (decide (k ∈ keys l))]) ∧ Below w.heap.size w w' := by
  have HS := Aside0.mk hs
  have HC := Aside0.mk h
  have HK := Aside0.mk hkk
  have hrl := rank_le (keys l) k
  rw [keys_length] at hrl
  have HKL := Aside0.mk (keys_length l)
  have hv : ∃ A c, v = .slice A l.length c := own_slice h
  obtain ⟨A, c, rfl⟩ := hv
  clear hs h hkk
  go_enter Tryz.func119, Tryz.ntmps119
  go_wp2
  go_loopw [9, 10] (fun i j wr => ∃ a b : Nat, i = .int .i64 a ∧ j = .int .i64 b ∧ a ≤ rank (keys l) k ∧ rank (keys l) k ≤ b ∧ b ≤ l.length ∧ Below w.heap.size w wr) (fun i j _ => (intOf j - intOf i).toNat)
  case atStart => exact ⟨0, l.length, rfl, rfl, Nat.zero_le _, hrl, Nat.le_refl _, Below.refl _ _⟩
  case round =>
    obtain ⟨a, b, rfl, rfl, h1, h2, h3, hbl⟩ := hrel
    have HBL := Aside0.mk hbl
    clear hbl
    by_cases hab : a < b
    · obtain ⟨h, hh⟩ : ∃ h : Nat, ((a : Int) + (b : Int)) / 2 = (h : Int) := ⟨(a + b) / 2, by omega⟩
      have hh1 : a ≤ h := by omega
      have hh2 : h < b := by omega
      have hlt : h < l.length := by omega
      obtain ⟨g, cap, hv, hgw, hlc, hc1, hc2⟩ := fl_cells HC.out h hlt
      injection hv with e1 e2 e3
      subst e1 e3
      have hr := rank_lt HS.out k h (by rw [HKL.out]; exact hlt)
      have hge : (keys l)[h]'(by rw [HKL.out]; exact hlt) = l[h].1 := by simp [keys]
      rw [hge] at hr
      have hx := HK.out l[h] (List.getElem_mem _)
      rw [← HBL.out.cell (p := ⟨g, h * 2, none⟩) hgw] at hc1
      rw [← HBL.out.cell (p := ⟨g, h * 2 + 1, none⟩) hgw] at hc2
      have HR := Aside0.mk hr
      clear hr hge
      generalize l[h].1 = x at HR hc1 hx
      generalize l[h].2 = y at hc2
      obtain ⟨hx0, hx1⟩ := hx
      by_cases hx : x < k
      · have hx' : decide (x - k < 0) = true := by simp; omega
        go_wp2_with (go_at_call 120; refine (cmp39_any _ _ _ _ hx0 hx1 hk0 hk1).mono ?_; rintro e w' ⟨rfl, rfl⟩)
        go_roundw
        case rel => exact ⟨h + 1, b, by go_num, rfl, HR.out.1 hx, h2, h3, HBL.out.alloc HBL.out.size _⟩
        case measure => simp [intOf]; omega
      · have hx' : decide (x - k < 0) = false := by simp; omega
        go_wp2_with (go_at_call 120; refine (cmp39_any _ _ _ _ hx0 hx1 hk0 hk1).mono ?_; rintro e w' ⟨rfl, rfl⟩)
        go_roundw
        case rel => exact ⟨a, h, rfl, rfl, h1, by have := HR.out; omega, by omega, HBL.out.alloc HBL.out.size _⟩
        case measure => simp [intOf]; omega
    · have hab' : a = rank (keys l) k := by omega
      have hm := rank_mem HS.out k
      by_cases hlt : a < l.length
      · obtain ⟨g, cap, hv, hgw, hlc, hc1, hc2⟩ := fl_cells HC.out a hlt
        injection hv with e1 e2 e3
        subst e1 e3
        have hlt' : a < (keys l).length := by rw [HKL.out]; exact hlt
        have hge : (keys l)[a]'hlt' = l[a].1 := by simp [keys]
        have hm' : k ∈ keys l ↔ l[a].1 = k := by rw [hm, ← hge]; subst hab'; exact ⟨fun ⟨_, e⟩ => e, fun e => ⟨hlt', e⟩⟩
        have hx := HK.out l[a] (List.getElem_mem _)
        rw [← HBL.out.cell (p := ⟨g, a * 2, none⟩) hgw] at hc1
        rw [← HBL.out.cell (p := ⟨g, a * 2 + 1, none⟩) hgw] at hc2
        have HM := Aside0.mk hm'
        have HA := Aside0.mk hab'
        clear hm hm' hge hab'
        generalize l[a].1 = x at HM hc1 hx
        generalize l[a].2 = y at hc2
        obtain ⟨hx0, hx1⟩ := hx
        have hd : decide (k ∈ keys l) = decide (x = k) := by simp [HM.out]
        have HD := Aside0.mk hd
        clear hd
        by_cases hx : x = k
        · have hx' : ((x - k) == 0) = true := by simp; omega
          have HX := Aside0.mk hx
          clear hx
          go_wp2_with (go_at_call 120; refine (cmp39_any _ _ _ _ hx0 hx1 hk0 hk1).mono ?_; rintro e w' ⟨rfl, rfl⟩)
          go_ret2
          exact ⟨by rw [HD.out, ← HA.out]; simp [HX.out], HBL.out.alloc HBL.out.size _⟩
        · have hx' : ((x - k) == 0) = false := by simp; omega
          have HX := Aside0.mk hx
          clear hx
          go_wp2_with (go_at_call 120; refine (cmp39_any _ _ _ _ hx0 hx1 hk0 hk1).mono ?_; rintro e w' ⟨rfl, rfl⟩)
          go_ret2
          exact ⟨by rw [HD.out, ← HA.out]; simp [HX.out], HBL.out.alloc HBL.out.size _⟩
      · have hd : decide (k ∈ keys l) = false := by
          rw [decide_eq_false_iff_not, hm]; rintro ⟨h, _⟩; rw [HKL.out] at h; omega
        have HD := Aside0.mk hd
        have HA := Aside0.mk hab'
        clear hd hm hab'
        go_wp2
        go_ret2
        exact ⟨by rw [HD.out, ← HA.out]; rfl, HBL.out⟩

end Go.Proofs.YthkmblgehdofmaaGreat.R

