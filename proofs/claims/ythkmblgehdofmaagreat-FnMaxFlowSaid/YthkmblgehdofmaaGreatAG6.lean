import Derived.Test.YthkmblgehdofmaaGreatAG5
import Derived.Test.YthkmblgehdofmaaGreatAG3
import Derived.Test.YthkmblgehdofmaaGreatAG4
import Derived.Laws.FloatArith
import Derived.Test.YthkmblgehdofmaaGreatAG0
import Derived.Test.YthkmblgehdofmaaGreatAG1
import Derived.Test.YthkmblgehdofmaaGreatAG2
set_option linter.unusedVariables false
set_option linter.unusedSimpArgs false
/- The residual graph of a flow: initializeResidualGraph. -/
namespace Go.Proofs.YthkmblgehdofmaaGreat.R
open Go.RowKit Go.Lab Go.Maps Go.MV Go.Proofs.YthkmblgehdofmaaGreatW.PrintWords Go.Proofs.YthkmblgehdofmaaGreatW.PrintLast Go.Proofs.YthkmblgehdofmaaGreatW.PrintMore PL

/-- nodes are laid down: i of them -/
structure IA (w : World) (lo1 B1 b gG : Nat) (ids : List Int) (wr : World) (i : Nat) : Prop where
  it : OIt lo1 B1 wr b ids i
  g : ∃ g : GS, SG w.heap.size wr g ∧ g.ns = ids.take i ∧ (∀ u v, g.ed u v = none) ∧ g.gG = gG ∧ SG.Out g lo1 B1
  old : Below w.heap.size w wr
  le : B1 ≤ wr.heap.size
  lo : w.heap.size ≤ lo1
theorem IA.next {w : World} {lo1 B1 b gG : Nat} {ids : List Int} {wr w1 : World} {i j : Nat} (h : IA w lo1 B1 b gG ids wr i) (hi : OIt lo1 B1 w1 b ids j) (hm : Mid lo1 B1 wr w1) : (∃ g : GS, SG w.heap.size w1 g ∧ g.ns = ids.take i ∧ (∀ u v, g.ed u v = none) ∧ g.gG = gG ∧ SG.Out g lo1 B1) ∧ Below w.heap.size w w1 ∧ B1 ≤ w1.heap.size := by
  obtain ⟨g, h1, h2, h3, h4, h5⟩ := h.g
  have hl := h.lo
  have hle := h.le
  have hb := hi.hb
  exact ⟨⟨g, h1.mid h5 hm, h2, h3, h4, h5⟩, h.old.trans ((hm.below (by omega)).mono hl), Nat.le_trans h.le hm.size⟩

/-- what stands when all arcs are in -/
def resE (p : Pl) (a c : Int) : Option Nat := match p.find a c with | some x => some x.2 | none => match p.find c a with | some _ => some 0 | none => none
theorem edI_all {p : Pl} (a c : Int) : edI p (PrI p p.ids.length 0 [] 0) a c = resE p a c := by
  have hp : ∀ a c, PrI p p.ids.length 0 [] 0 a c = (p.find a c).isSome := fun a c => by
    unfold PrI
    rw [List.take_length]
    by_cases ha : a ∈ p.ids
    · simp [ha]
    · have : p.find a c = none := find_none (fun h => ha h.1)
      rw [this]; simp
  unfold edI resE
  rw [hp, hp]
  cases p.find a c <;> cases p.find c a <;> rfl
/-- arcs are laid down: those of i nodes -/
structure IB (w : World) (lo1 B1 b gG : Nat) (p : Pl) (wr : World) (i : Nat) : Prop where
  it : OIt lo1 B1 wr b p.ids i
  g : ∃ g : GS, SG w.heap.size wr g ∧ g.ns = p.ids ∧ (∀ a c, g.ed a c = edI p (PrI p i 0 [] 0) a c) ∧ g.gG = gG ∧ SG.Out g lo1 B1
  old : Below w.heap.size w wr
  le : B1 ≤ wr.heap.size
  lo : w.heap.size ≤ lo1
section
variable {w : World} {lo1 B1 b gG : Nat} {p : Pl} {wr w1 : World} {i j : Nat}
theorem IB.next (h : IB w lo1 B1 b gG p wr i) (hi : OIt lo1 B1 w1 b p.ids j) (hm : Mid lo1 B1 wr w1) : (∃ g : GS, SG w.heap.size w1 g ∧ g.ns = p.ids ∧ (∀ a c, g.ed a c = edI p (PrI p i 0 [] 0) a c) ∧ g.gG = gG ∧ SG.Out g lo1 B1) ∧ Below w.heap.size w w1 ∧ B1 ≤ w1.heap.size := by
  obtain ⟨g, h1, h2, h3, h4, h5⟩ := h.g
  have hl := h.lo
  have hle := h.le
  have hb := hi.hb
  exact ⟨⟨g, h1.mid h5 hm, h2, h3, h4, h5⟩, h.old.trans ((hm.below (by omega)).mono hl), Nat.le_trans h.le hm.size⟩
theorem IB.draws {Q : GS → Prop} (hi : OIt lo1 B1 wr b p.ids j) (h : (∃ g : GS, SG w.heap.size wr g ∧ Q g) ∧ Below w.heap.size w wr ∧ B1 ≤ wr.heap.size) (hb : Below wr.heap.size wr w1) (hl : w.heap.size ≤ lo1) : OIt lo1 B1 w1 b p.ids j ∧ (∃ g : GS, SG w.heap.size w1 g ∧ Q g) ∧ Below w.heap.size w w1 ∧ B1 ≤ w1.heap.size := by
  obtain ⟨⟨g, h1, h2⟩, h3, h4⟩ := h
  exact ⟨hi.belowB h4 hb, ⟨g, h1.below hb, h2⟩, h3.trans (hb.mono h3.size), Nat.le_trans h4 hb.size⟩
end
/-- within the arcs of one node -/
structure IC (w : World) (lo1 B1 b lo2 B2 b2 gG : Nat) (p : Pl) (xs : List Int) (i : Nat) (E : Int → Int → Option Nat) (wr : World) (j : Nat) : Prop where
  it : OIt lo1 B1 wr b p.ids i
  it2 : OIt lo2 B2 wr b2 xs j
  g : ∃ g : GS, SG w.heap.size wr g ∧ g.ns = p.ids ∧ (∀ a c, g.ed a c = E a c) ∧ g.gG = gG ∧ SG.Out g lo1 B1 ∧ SG.Out g lo2 B2
  old : Below w.heap.size w wr
  le1 : B1 ≤ lo2
  le2 : B2 ≤ wr.heap.size
  lo : w.heap.size ≤ lo1
section
variable {w : World} {lo1 B1 b lo2 B2 b2 gG : Nat} {p : Pl} {xs : List Int} {E : Int → Int → Option Nat} {wr w1 : World} {i j j' : Nat}
theorem IC.below (h : IC w lo1 B1 b lo2 B2 b2 gG p xs i E wr j) (hb : Below wr.heap.size wr w1) : IC w lo1 B1 b lo2 B2 b2 gG p xs i E w1 j := by
  obtain ⟨g, h1, h2, h3, h4, h5, h6⟩ := h.g
  have l1 := h.le1; have l2 := h.le2; have b2 := h.it2.hb
  exact ⟨h.it.belowB (by omega) hb, h.it2.belowB l2 hb, ⟨g, h1.below hb, h2, h3, h4, h5, h6⟩, h.old.trans (hb.mono h.old.size), l1, Nat.le_trans l2 hb.size, h.lo⟩
theorem IC.mid (h : IC w lo1 B1 b lo2 B2 b2 gG p xs i E wr j) (hi : OIt lo2 B2 w1 b2 xs j') (hm : Mid lo2 B2 wr w1) : IC w lo1 B1 b lo2 B2 b2 gG p xs i E w1 j' := by
  obtain ⟨g, h1, h2, h3, h4, h5, h6⟩ := h.g
  have l1 := h.le1; have l2 := h.le2; have hb2 := h.it2.hb; have hb1 := h.it.hb; have hl := h.lo
  exact ⟨h.it.far (fun q _ hq => hm.block q (by omega) (.inl (by omega))), hi, ⟨g, h1.mid h6 hm, h2, h3, h4, h5, h6⟩, h.old.trans ((hm.below (by omega)).mono (by omega)), l1, Nat.le_trans l2 hm.size, hl⟩
theorem IC.setE (h : IC w lo1 B1 b lo2 B2 b2 gG p xs i E wr j) {u v : Int} (x : Nat) (un : u ∈ p.ids) (vn : v ∈ p.ids) (huv : u ≠ v) (wu : (Lit.int .i64 u).wf = true) (wv : (Lit.int .i64 v).wf = true) :
    Calls Tryz.prog 65 #[.pointer (some ⟨gG, 0, none⟩), eV u v x] wr fun e w' => e = .returned (.tuple #[]) ∧ IC w lo1 B1 b lo2 B2 b2 gG p xs i (fun a c => if a = u ∧ c = v then some x else E a c) w' j := by
  obtain ⟨g, h1, h2, h3, h4, h5, h6⟩ := h.g
  have l1 := h.le1; have l2 := h.le2; have hb2 := h.it2.hb
  refine (setE_at w.heap.size g h4 u v x wr h1 (by rw [h2]; exact un) (by rw [h2]; exact vn) huv wu wv h.old.size).mono ?_
  rintro e w' ⟨rfl, g', q1, q2, q3, q4, q5, q6, q7⟩
  exact ⟨rfl, ⟨h.it.gk q7, h.it2.gk q7, ⟨g', q1, q5.trans h2, fun a c => by rw [q6, h3], q2.trans h4, h5.set q2 q3 q4 (by omega), h6.set q2 q3 q4 l2⟩, h.old.trans q7.below, l1, Nat.le_trans l2 q7.size, h.lo⟩⟩
theorem IC.weight (h : IC w lo1 B1 b lo2 B2 b2 gG p xs i E wr j) {u v : Int} (huv : u ≠ v) (wu : (Lit.int .i64 u).wf = true) (wv : (Lit.int .i64 v).wf = true) :
    Calls Tryz.prog 66 #[.pointer (some ⟨gG, 0, none⟩), .int .i64 u, .int .i64 v] wr fun e w' => ∃ y, e = .returned (.tuple #[.float .f64 y, .bool (E u v).isSome]) ∧ IC w lo1 B1 b lo2 B2 b2 gG p xs i E w' j := by
  obtain ⟨g, h1, h2, h3, h4, h5, h6⟩ := h.g
  refine (weightS_at w.heap.size g h4 u v wr h1 huv wu wv).mono ?_
  rintro e w' ⟨⟨y, rfl, _⟩, hb⟩
  exact ⟨y, by rw [h3], h.below hb⟩
theorem IC.weightB (h : IC w lo1 B1 b lo2 B2 b2 gG p xs i E wr j) {u v : Int} (huv : u ≠ v) (wu : (Lit.int .i64 u).wf = true) (wv : (Lit.int .i64 v).wf = true) {ok : Bool} (hk : (E u v).isSome = ok) :
    Calls Tryz.prog 66 #[.pointer (some ⟨gG, 0, none⟩), .int .i64 u, .int .i64 v] wr fun e w' => ∃ y, e = .returned (.tuple #[.float .f64 y, .bool ok]) ∧ IC w lo1 B1 b lo2 B2 b2 gG p xs i E w' j := by
  refine (h.weight huv wu wv).mono ?_
  rintro e w' ⟨y, rfl, h1⟩
  exact ⟨y, by rw [hk], h1⟩
theorem IC.ext {E' : Int → Int → Option Nat} (h : IC w lo1 B1 b lo2 B2 b2 gG p xs i E wr j) (he : ∀ a c, E a c = E' a c) : IC w lo1 B1 b lo2 B2 b2 gG p xs i E' wr j := by
  obtain ⟨g, h1, h2, h3, h4, h5, h6⟩ := h.g
  exact ⟨h.it, h.it2, ⟨g, h1, h2, fun a c => by rw [h3, he], h4, h5, h6⟩, h.old, h.le1, h.le2, h.lo⟩
end
/-- a step that goes on, in one state -/
def NormAt (R : World → Prop) (act : Act) : Exit → Act → World → Prop := fun e a W => e = .normal ∧ R W ∧ a = act
set_option maxHeartbeats 20000000 in
set_option maxRecDepth 100000 in
theorem init_any (base bp : Nat) (p : Pl) (w : World) (h : PlOk w base bp p) (hs : p.ids.Pairwise (· < ·)) (hg : p.Good) (wf : ∀ x ∈ p.ids, (Lit.int .i64 x).wf = true) (hn : p.ids.length ≤ 900) (hloop : ∀ u, p.find u u = none) (hneg : ∀ u v x, p.find u v = some x → ¬ (FloatKind.f64.format.order x.2 0 = some .lt)) :
    Calls Tryz.prog 51 #[.iface 70 (.agg #[.pointer (some ⟨bp, 0, none⟩)])] w fun e w' => ∃ g : GS, e = .returned (.pointer (some ⟨g.gG, 0, none⟩)) ∧ SG w.heap.size w' g ∧ g.ns = p.ids ∧ (∀ a c, g.ed a c = resE p a c) ∧ Below w.heap.size w w' := by
  have HP := Aside0.mk (And.intro h (And.intro hs (And.intro hg wf)))
  have m1 := meth_DNodes ⟨bp, 0, none⟩
  have m2 := meth_DFrom ⟨bp, 0, none⟩
  have m3 := meth_DWeight ⟨bp, 0, none⟩
  have n2 := nil_DFrom ⟨bp, 0, none⟩
  have n3 := nil_DWeight ⟨bp, 0, none⟩
  clear h hs hg wf
  go_enter Tryz.func51, Tryz.ntmps51
  go_wp2_with (first
    | (go_at_call 62; refine (newG_any 0 0 _).mono ?_; rintro e w1 ⟨g, rfl, hg, hns, hed, hb⟩; have H1 := Aside0.mk (And.intro hg (And.intro hns (And.intro hed hb))); clear hg hns hed hb)
    | (go_at_call 151; refine (nodes_any base bp p _ (HP.out.1.below H1.out.2.2.2) (by omega)).mono ?_; rintro e w2 ⟨b, rfl, hit, hb2⟩; have H2 := Aside0.mk (And.intro hit hb2); clear hit hb2))
  have hz1 := H1.out.2.2.2.size
  have hz2 := H2.out.2.size
  have hlts := H1.out.1.lts
  have hIA := Aside0.mk (show IA w w1.heap.size w2.heap.size b g.gG p.ids w2 0 from ⟨H2.out.1, ⟨g, H1.out.1.below H2.out.2, by rw [H1.out.2.1]; rfl, H1.out.2.2.1, rfl, by
      obtain ⟨z1, z2, hb⟩ := H1.out.1.blk
      obtain ⟨mx, hu⟩ := H1.out.1.uid.blk
      exact ⟨.inl (blk_lt hb), .inl (blk_lt hu), fun k hk => .inl (hlts k hk)⟩⟩, H1.out.2.2.2.trans (H2.out.2.mono hz1), Nat.le_refl _, hz1⟩)
  obtain ⟨lo1, hlo1⟩ : ∃ lo1, w1.heap.size = lo1 := ⟨_, rfl⟩
  obtain ⟨B1, hB1⟩ : ∃ B1, w2.heap.size = B1 := ⟨_, rfl⟩
  obtain ⟨gG, hgG⟩ : ∃ gG, g.gG = gG := ⟨_, rfl⟩
  rw [hlo1, hB1, hgG] at hIA
  rw [hgG]
  have r1 := fun a => meth_ONext a
  have r2 := fun a => meth_ONode a
  have r3 := fun a => meth_OReset a
  clear hlts hz1 hz2 H1 H2 hlo1 hB1 hgG
  go_wp2_with fail
  go_loopw [20] (fun _ wr => ∃ i : Nat, i ≤ p.ids.length ∧ Aside0 (IA w lo1 B1 b gG p.ids wr i)) (fun _ wr => p.ids.length + 2 - posI wr b)
  case atStart => exact ⟨0, Nat.zero_le _, hIA⟩
  case round =>
    clear hIA
    obtain ⟨i, hi, hrel⟩ := hrel
    have hpos := hrel.out.it.pos
    by_cases hlt : i < p.ids.length
    · have hd : decide (i < p.ids.length) = true := decide_eq_true hlt
      obtain ⟨x, hx⟩ : ∃ x, p.ids[i] = x := ⟨_, rfl⟩
      have HX := Aside0.mk hx
      have HND := Aside0.mk (show x ∉ p.ids.take i from fun hm => by
        obtain ⟨j, hj, e⟩ := List.mem_iff_getElem.1 hm
        rw [List.length_take] at hj
        rw [List.getElem_take] at e
        have h1 := (List.pairwise_iff_getElem.1 HP.out.2.1) j i (by omega) hlt (by omega)
        rw [e, hx] at h1
        omega)
      go_wp2_with (first
        | (go_at_call 197; refine (next_any lo1 B1 b i p.ids _ hrel.out.it (by omega)).mono ?_; rintro e w3 ⟨rfl, hit, hm⟩; rw [if_pos hlt] at hit; rw [hd]; have H3 := Aside0.mk (And.intro hit (hrel.out.next hit hm)); clear hit hm)
        | (go_at_call 198; refine (nodeI_any lo1 B1 b i p.ids _ H3.out.1 hlt (by omega)).mono ?_; rintro e w4 ⟨rfl, hdw⟩; rw [hx]; unfold nodeV; obtain ⟨g1, q1, q2, q3, q4, q5⟩ := H3.out.2.1; have H4 := Aside0.mk (And.intro (show OIt lo1 B1 w4 b p.ids (i + 1) from H3.out.1.belowB H3.out.2.2.2 hdw.below) (And.intro (q1.below hdw.below) (And.intro q2 (And.intro q3 (And.intro q4 (And.intro q5 (And.intro (H3.out.2.2.1.trans (hdw.below.mono H3.out.2.2.1.size)) (Nat.le_trans H3.out.2.2.2 hdw.below.size)))))))); clear hdw q1 q2 q3 q4 q5)
        | (go_at_call 63; refine (addNode_at w.heap.size g1 H4.out.2.2.2.2.1 x _ H4.out.2.1 (by rw [H4.out.2.2.1]; exact HND.out) (HP.out.2.2.2 x (by rw [← HX.out]; exact List.getElem_mem hlt)) (by rw [H4.out.2.2.1, List.length_take]; omega) H4.out.2.2.2.2.2.2.1.size).mono ?_; rintro e w5 ⟨rfl, hg5, hk5⟩; have H5 := Aside0.mk (And.intro hg5 hk5); clear hg5 hk5))
      have HIA := Aside0.mk (show IA w lo1 B1 b gG p.ids w5 (i + 1) from by
        obtain ⟨a1, a2, a3, a4, a5, a6, a7, a8⟩ := H4.out
        refine ⟨a1.gk H5.out.2, ⟨_, H5.out.1, by rw [a3, List.take_succ_eq_append_getElem hlt, HX.out], a4, a5, a6⟩, a7.trans H5.out.2.below, Nat.le_trans a8 H5.out.2.size, hrel.out.lo⟩)
      go_roundw
      case rel => exact ⟨i + 1, by omega, HIA⟩
      case measure => rw [HIA.out.it.pos, hpos]; omega
    · have hd : decide (i < p.ids.length) = false := decide_eq_false hlt
      have hil : i = p.ids.length := by omega
      go_wp2_with (first
        | (go_at_call 197; refine (next_any lo1 B1 b i p.ids _ hrel.out.it (by omega)).mono ?_; rintro e w3 ⟨rfl, hit, hm⟩; rw [hd]; have H3 := Aside0.mk (And.intro hit (hrel.out.next hit hm)); clear hit hm)
        | (go_at_call 199; refine (reset_any lo1 B1 b _ p.ids _ H3.out.1).mono ?_; rintro e w4 ⟨rfl, hit, hm⟩; have H4 := Aside0.mk (And.intro hit hm); clear hit hm))
      have hIB := Aside0.mk (show IB w lo1 B1 b gG p w4 0 from by
        obtain ⟨g, q1, q2, q3, q4, q5⟩ := H3.out.2.1
        have hb := H4.out.1.hb
        have hs3 := H3.out.2.2.2
        have hl := hrel.out.lo
        exact ⟨H4.out.1, ⟨g, q1.mid q5 H4.out.2, by rw [q2, hil, List.take_length], fun a c => by rw [q3]; unfold edI PrI; simp, q4, q5⟩, H3.out.2.2.1.trans ((H4.out.2.below (by omega)).mono hl), Nat.le_trans hs3 H4.out.2.size, hl⟩)
      clear hpos hrel hd hil hlt H3 H4 hi
      go_wp2_with fail
      go_loopw [5] (fun _ wr => ∃ i : Nat, i ≤ p.ids.length ∧ Aside0 (IB w lo1 B1 b gG p wr i)) (fun _ wr => p.ids.length + 2 - posI wr b)
      case atStart => exact ⟨0, Nat.zero_le _, hIB⟩
      case round =>
        clear hIB
        obtain ⟨i, hi, hrel⟩ := hrel
        have hpos := hrel.out.it.pos
        by_cases hlt : i < p.ids.length
        · have hd : decide (i < p.ids.length) = true := decide_eq_true hlt
          obtain ⟨u, hu⟩ : ∃ u, p.ids[i] = u := ⟨_, rfl⟩
          have HU := Aside0.mk hu
          have hun : u ∈ p.ids := by rw [← hu]; exact List.getElem_mem hlt
          have mu := meth_ID u
          go_wp2_with (first
            | (go_at_call 197; refine (next_any lo1 B1 b i p.ids _ hrel.out.it (by omega)).mono ?_; rintro e w3 ⟨rfl, hit, hm⟩; rw [if_pos hlt] at hit; rw [hd]; have H3 := Aside0.mk (And.intro hit (hrel.out.next hit hm)); clear hit hm)
            | (go_at_call 198; refine (nodeI_any lo1 B1 b i p.ids _ H3.out.1 hlt (by omega)).mono ?_; rintro e w4 ⟨rfl, hdw⟩; rw [hu]; unfold nodeV; have H4 := Aside0.mk (IB.draws H3.out.1 H3.out.2 hdw.below hrel.out.lo); clear hdw))
          go_region_held3 (fun _ => True) (trivial)
            (first
              | (go_at_call 162; refine (nodeID_any u _).mono ?_; rintro e w5 ⟨rfl, rfl⟩)
              | (go_at_call 148; refine (from_any base bp p u _ (HP.out.1.below H4.out.2.2.1.drew) HP.out.2.1 HP.out.2.2.1 hun).mono ?_; rintro e w6 ⟨b2, rfl, hit2, hb6⟩; have H6 := Aside0.mk (And.intro hit2 hb6); clear hit2 hb6))
          all_goals
            obtain ⟨xs, hxs⟩ : ∃ xs, endsN p.ids (p.out.getD (rank p.ids u) []) = xs := ⟨_, rfl⟩
            have hxm : ∀ v, v ∈ xs ↔ (p.find u v).isSome = true := fun v => by rw [← hxs]; exact ends_mem HP.out.2.1 HP.out.2.2.1 hun
            have hxn : xs.Nodup := by rw [← hxs]; exact ends_nodup HP.out.2.1 HP.out.2.2.1 u
            have hxl : xs.length ≤ 900 := Nat.le_trans (nodup_len hxn (fun v hv => ((find_some HP.out.2.2.1).1 ((hxm v).1 hv)).2.1)) hn
            have HXS := Aside0.mk (And.intro hxm hxn)
            have H6' := H6.out
            rw [hxs] at H6'
            obtain ⟨lo2, hlo2⟩ : ∃ lo2, w4.heap.size = lo2 := ⟨_, rfl⟩
            obtain ⟨B2, hB2⟩ : ∃ B2, w6.heap.size = B2 := ⟨_, rfl⟩
            have hIC := Aside0.mk (show IC w lo1 B1 b lo2 B2 b2 gG p xs (i + 1) (edI p (PrI p i u xs 0)) w6 0 from by
              obtain ⟨a1, ⟨g, q1, q2, q3, q4, q5⟩, a3, a4⟩ := H4.out
              have hb6 : Below w4.heap.size w4 w6 := ⟨H6'.2.os, H6'.2.tape, H6'.2.output, H6'.2.size, H6'.2.block⟩
              have hz6 := hb6.size
              obtain ⟨z1, z2, hblk⟩ := q1.blk
              obtain ⟨mx, hbu⟩ := q1.uid.blk
              have hlts := q1.lts
              have t1 := blk_lt hblk
              have t2 := blk_lt hbu
              refine ⟨a1.belowB a4 hb6, by rw [← hlo2, ← hB2]; exact H6'.1, ⟨g, q1.below hb6, q2, fun a c => by rw [q3, PrI_start (u := u) (xs := xs)], q4, q5, ⟨.inl (by omega), .inl (by omega), fun k hk => .inl (by have := hlts k hk; omega)⟩⟩, a3.trans (hb6.mono a3.size), by omega, by omega, hrel.out.lo⟩)
            clear H6' H4 H3 hxm hxn hxs hlo2 hB2
            go_wp2_with fail
            go_loopw [7] (fun _ wr => ∃ j : Nat, j ≤ xs.length ∧ Aside0 (IC w lo1 B1 b lo2 B2 b2 gG p xs (i + 1) (edI p (PrI p i u xs j)) wr j)) (fun _ wr => xs.length + 2 - posI wr b2)
            case atStart => exact ⟨0, Nat.zero_le _, hIC⟩
            case round =>
              clear hIC
              obtain ⟨j, hj, hrc⟩ := hrel
              have hpos2 := hrc.out.it2.pos
              by_cases hjl : j < xs.length
              · have hdj : decide (j < xs.length) = true := decide_eq_true hjl
                obtain ⟨v, hv⟩ : ∃ v, xs[j] = v := ⟨_, rfl⟩
                have hvf : (p.find u v).isSome = true := (HXS.out.1 v).1 (by rw [← hv]; exact List.getElem_mem hjl)
                obtain ⟨x, hx⟩ := Option.isSome_iff_exists.1 hvf
                have hvn : v ∈ p.ids := ((find_some HP.out.2.2.1).1 hvf).2.1
                have huv : u ≠ v := fun e => by rw [e] at hx; rw [hloop v] at hx; cases hx
                have hvu : v ≠ u := Ne.symm huv
                have wu := HP.out.2.2.2 u hun
                have wv := HP.out.2.2.2 v hvn
                have hng := hneg u v x hx
                have HPN := Aside0.mk (show PrI p i u xs j u v = false from by rw [← HU.out, ← hv]; exact PrI_not HP.out.2.1 hlt HXS.out.2 hjl)
                have HIN := Aside0.mk (show ∀ a c, PrI p i u xs j a c = true → (p.find a c).isSome = true from PrI_in (fun v hv => (HXS.out.1 v).1 hv))
                have HX := Aside0.mk hx
                have mv := meth_ID v
                obtain ⟨pb, hpb⟩ : ∃ pb, PrI p i u xs j v u = pb := ⟨_, rfl⟩
                have HPB := Aside0.mk hpb
                have HV := Aside0.mk hv
                clear hvf hx hpb
                go_wp2_with (first
                  | (go_at_call 197; refine (next_any lo2 B2 b2 j xs _ hrc.out.it2 (by omega)).mono ?_; rintro e w3 ⟨rfl, hit, hm⟩; rw [if_pos hjl] at hit; rw [hdj]; have H3 := Aside0.mk (hrc.out.mid hit hm); clear hit hm)
                  | (go_at_call 198; refine (nodeI_any lo2 B2 b2 j xs _ H3.out.it2 hjl (by omega)).mono ?_; rintro e w4 ⟨rfl, hdw⟩; rw [hv]; unfold nodeV; have H4 := Aside0.mk (H3.out.below hdw.below); clear hdw))
                refine Code.wp_mono (Q := NormAt (fun W => Aside0 (IC w lo1 B1 b lo2 B2 b2 gG p xs (i + 1) (edI p (PrI p i u xs j)) W (j + 1))) ⟨#[.iface 70 (.agg #[.pointer (some ⟨bp, 0, none⟩)]), undef, .pointer none, .pointer (some ⟨gG, 0, none⟩), .iface 215 (.pointer (some ⟨b, 0, none⟩)), .iface 71 (.int .i64 u), .iface 215 (.pointer (some ⟨b2, 0, none⟩)), .iface 71 (.int .i64 v), .float .f64 x.2, .bool true, u10, u11, u12, .pointer (some ⟨gG, 0, none⟩), .iface 70 (.agg #[.pointer (some ⟨bp, 0, none⟩)]), .iface 215 (.pointer (some ⟨b, 0, none⟩)), .iface 215 (.pointer (some ⟨b, 0, none⟩)), .bool false, u18, u19, u20, u21, .iface 215 (.pointer (some ⟨b, 0, none⟩)), .tuple #[], .iface 215 (.pointer (some ⟨b, 0, none⟩)), .bool true, .iface 215 (.pointer (some ⟨b, 0, none⟩)), .iface 71 (.int .i64 u), .iface 70 (.agg #[.pointer (some ⟨bp, 0, none⟩)]), .iface 71 (.int .i64 u), .int .i64 u, .func (.method "From") #[.iface 70 (.agg #[.pointer (some ⟨bp, 0, none⟩)])] #[], .func (.method "From") #[.iface 70 (.agg #[.pointer (some ⟨bp, 0, none⟩)])] #[], .iface 70 (.agg #[.pointer (some ⟨bp, 0, none⟩)]), .iface 215 (.pointer (some ⟨b2, 0, none⟩)), .iface 215 (.pointer (some ⟨b2, 0, none⟩)), .bool true, .iface 215 (.pointer (some ⟨b2, 0, none⟩)), .iface 71 (.int .i64 v), .tuple #[.float .f64 x.2, .bool true], .iface 70 (.agg #[.pointer (some ⟨bp, 0, none⟩)]), .iface 71 (.int .i64 u), .int .i64 u, .iface 71 (.int .i64 v), .int .i64 v, .func (.method "Weight") #[.iface 70 (.agg #[.pointer (some ⟨bp, 0, none⟩)])] #[], .func (.method "Weight") #[.iface 70 (.agg #[.pointer (some ⟨bp, 0, none⟩)])] #[], .iface 70 (.agg #[.pointer (some ⟨bp, 0, none⟩)]), .tuple #[.float .f64 x.2, .bool true], .float .f64 x.2, .bool true, u51, u52, u53, u54, u55, u56, u57, u58, u59, u60, u61, u62, u63, u64, u65, u66, u67, u68, u69, u70, u71, u72, u73, u74, u75, u76, u77, u78, u79, u80, u81, undef], []⟩) ?next ?made
                case made =>
                  go_region_held3 (fun _ => True) (trivial)
                    (first
                      | (go_at_call 162; refine (nodeID_any _ _).mono ?_; rintro e w5 ⟨rfl, rfl⟩)
                      | (go_at_call 153; refine (weightD_any base bp p u v huv _ (HP.out.1.below H4.out.old.drew) HP.out.2.1 HP.out.2.2.1).mono ?_; rintro e w7 ⟨x', ok, rfl, hx', hb7⟩; rw [HX.out] at hx'; obtain ⟨hok, hx2⟩ := hx'; have hx3 := hx2 x rfl; subst hx3; have hok2 : ok = true := hok; subst hok2; have H7 := Aside0.mk (H4.out.below ((Below.refl _ _).drew.trans (hb7.mono (by simp)))); clear hb7 hok hx2))
                  all_goals exact ⟨rfl, H7, rfl⟩
                case next =>
                  rintro _ _ W ⟨rfl, H7, rfl⟩
                  have hng' : (FloatKind.f64.format.order x.2 0 == some Ordering.lt) = false := by
                    cases e : (FloatKind.f64.format.order x.2 0 == some Ordering.lt) with
                    | false => rfl
                    | true => exact absurd (eq_of_beq e) hng
                  have hE : (if v = u ∧ u = v then some x.2 else edI p (PrI p i u xs j) v u).isSome = pb := by
                    rw [if_neg (fun e => hvu e.1)]
                    exact (edI_back HIN.out HPN.out).trans HPB.out
                  have HE := Aside0.mk hE
                  clear hE H4 H3
                  cases pb with
                  | true =>
                    go_wp2_with (first
                      | (go_at_call 64; refine (newE_any _ u v x.2 _).mono ?_; rintro e w8 ⟨rfl, rfl⟩)
                      | (go_at_call 65; refine (H7.out.setE x.2 hun hvn huv wu wv).mono ?_; rintro e w9 ⟨rfl, h9⟩; have H9 := Aside0.mk h9; clear h9)
                      | (go_at_call 162; refine (nodeID_any _ _).mono ?_; rintro e w5 ⟨rfl, rfl⟩)
                      | (go_at_call 66; refine (H9.out.weightB hvu wv wu HE.out).mono ?_; rintro e w10 ⟨y, rfl, h10⟩; have H10 := Aside0.mk h10; clear h10))
                    go_roundw
                    case rel => exact ⟨j + 1, by omega, Aside0.mk (H10.out.ext (fun a c => by rw [PrI_step hjl, HV.out]; exact edI_there huv HX.out HPN.out HPB.out a c))⟩
                    case measure => rw [H10.out.it2.pos, hpos2]; omega
                  | false =>
                    go_wp2_with (first
                      | (go_at_call 64; first | (have hq := H10; clear hq; refine (newE_any _ v u 0 _).mono ?_; rintro e w8 ⟨rfl, rfl⟩) | (refine (newE_any _ u v x.2 _).mono ?_; rintro e w8 ⟨rfl, rfl⟩))
                      | (go_at_call 65; first | (refine (H10.out.setE 0 hvn hun hvu wv wu).mono ?_; rintro e w11 ⟨rfl, h11⟩; have H11 := Aside0.mk h11; clear h11) | (refine (H7.out.setE x.2 hun hvn huv wu wv).mono ?_; rintro e w9 ⟨rfl, h9⟩; have H9 := Aside0.mk h9; clear h9))
                      | (go_at_call 162; refine (nodeID_any _ _).mono ?_; rintro e w5 ⟨rfl, rfl⟩)
                      | (go_at_call 66; refine (H9.out.weightB hvu wv wu HE.out).mono ?_; rintro e w10 ⟨y, rfl, h10⟩; have H10 := Aside0.mk h10; clear h10))
                    go_roundw
                    case rel => exact ⟨j + 1, by omega, Aside0.mk (H11.out.ext (fun a c => by rw [PrI_step hjl, HV.out]; exact edI_new huv HX.out HPN.out HPB.out a c))⟩
                    case measure => rw [H11.out.it2.pos, hpos2]; omega
              · have hdj : decide (j < xs.length) = false := decide_eq_false hjl
                have hjl2 : j = xs.length := by omega
                go_wp2_with (first
                  | (go_at_call 197; refine (next_any lo2 B2 b2 j xs _ hrc.out.it2 (by omega)).mono ?_; rintro e w3 ⟨rfl, hit, hm⟩; rw [hdj]; have H3 := Aside0.mk (hrc.out.mid hit hm); clear hit hm))
                have HB := Aside0.mk (show IB w lo1 B1 b gG p w3 (i + 1) from by
                  obtain ⟨g, q1, q2, q3, q4, q5, q6⟩ := H3.out.g
                  have l1 := H3.out.le1; have l2 := H3.out.le2; have hb2 := H3.out.it2.hb
                  exact ⟨H3.out.it, ⟨g, q1, q2, fun a c => by rw [q3, hjl2, ← HU.out, PrI_next hlt (by rw [HU.out]; exact HXS.out.1)], q4, q5⟩, H3.out.old, by omega, H3.out.lo⟩)
                go_roundw
                case rel => exact ⟨i + 1, by omega, HB⟩
                case measure => rw [HB.out.it.pos, hpos]; omega
        · have hd : decide (i < p.ids.length) = false := decide_eq_false hlt
          have hil : i = p.ids.length := by omega
          go_wp2_with (first
            | (go_at_call 197; refine (next_any lo1 B1 b i p.ids _ hrel.out.it (by omega)).mono ?_; rintro e w3 ⟨rfl, hit, hm⟩; rw [hd]; have H3 := Aside0.mk (And.intro hit (hrel.out.next hit hm)); clear hit hm))
          go_ret
          obtain ⟨⟨g, q1, q2, q3, q4, q5⟩, q6, _⟩ := H3.out.2
          refine ⟨g, by rw [q4]; rfl, q1, q2, fun a c => ?_, q6⟩
          rw [q3, hil]
          exact edI_all a c
end Go.Proofs.YthkmblgehdofmaaGreat.R

/- How many nodes an iterator has left; what the first residual graph carries; a way as it is pushed. -/
namespace Go.Proofs.YthkmblgehdofmaaGreat.R
open Go.RowKit Go.Lab Go.Maps Go.MV Go.Flow Go.Proofs.FLN Go.Proofs.YthkmblgehdofmaaGreatW.PrintWords Go.Proofs.YthkmblgehdofmaaGreatW.PrintLast Go.Proofs.YthkmblgehdofmaaGreatW.PrintMore PL

set_option maxHeartbeats 1000000 in
set_option maxRecDepth 100000 in
theorem lenO_any (lo B b : Nat) (xs : List Int) (w : World) (h : OIt lo B w b xs 0) (hl : xs.length ≤ 100000) (h0 : 0 < xs.length) :
    Calls Tryz.prog 196 #[.pointer (some ⟨b, 0, none⟩)] w fun e w' => e = .returned (.int .i64 (xs.length : Int)) ∧ Below w.heap.size w w' := by
  obtain ⟨v, h1, h2, h3⟩ := h.ex
  obtain ⟨gN, c, hv, hc, _⟩ := own_cells h2 h0
  subst hv
  have c0 : w.cell? ⟨b, 0, none⟩ = some (.int .i64 (-1)) := (blk_cell h1 0).trans rfl
  have c1 : w.cell? ⟨b, 1, none⟩ = some (.slice (some ⟨gN, 0, none⟩) xs.length c) := (blk_cell h1 1).trans rfl
  generalize xs.length = m at *
  have hmc : m ≤ c := hc
  have hc0 : ¬ c = 0 := by omega
  have hmc2 : (m : Int) ≤ (c : Int) := by omega
  have hm1 : (0 : Int) ≤ (m : Int) := by omega
  have hwr : IntKind.i64.wrap (-1 + 1) = 0 := by decide
  have hm : ¬ ((-1 : Int) ≥ (m : Int)) := by omega
  clear h1 h2 h3 h
  go_enter Tryz.func196, Tryz.ntmps196
  go_wp2_with fail
  go_region_held3 (fun w' => w'.cell? ⟨b, 0, none⟩ = some (.int .i64 (-1)) ∧ w'.cell? ⟨b, 1, none⟩ = some (.slice (some ⟨gN, 0, none⟩) m c))
    (go_keep)
    (fail)
  all_goals
    go_wp2_with fail
    go_region
  all_goals
    go_wp2
    go_ret
    exact ⟨rfl, by repeat (first | exact Below.refl _ _ | apply below_drew1 | apply pw_below_drewN)⟩
end Go.Proofs.YthkmblgehdofmaaGreat.R

/- What the first residual graph carries; a way as it is pushed. -/
namespace Go.Proofs.YthkmblgehdofmaaGreat.R
open Go.RowKit Go.Lab Go.Maps Go.MV Go.Flow Go.Proofs.FLN Go.Proofs.YthkmblgehdofmaaGreatW.PrintWords Go.Proofs.YthkmblgehdofmaaGreatW.PrintLast Go.Proofs.YthkmblgehdofmaaGreatW.PrintMore PL

/-- what a plain graph's arcs carry, as whole numbers -/
structure CapOk (p : Pl) (cap : Int → Int → Int) : Prop where
  none : ∀ u v, p.find u v = none → cap u v = 0
  some : ∀ u v x, p.find u v = some x → x.2 = FLN.fl (cap u v)
  pos : ∀ u v, 0 ≤ cap u v
  le : ∀ u v, cap u v ≤ 2000000000000
  irr : ∀ u, p.find u u = Option.none
def arcE (p : Pl) (u v : Int) : Bool := (p.find u v).isSome || (p.find v u).isSome
theorem RG.init {g : GS} {p : Pl} {cap : Int → Int → Int} (h : CapOk p cap) (hed : ∀ a c, g.ed a c = resE p a c) : RG g (arcE p) cap := by
  refine ⟨fun u v => ?_, fun u v => Bool.or_comm _ _, fun u v he => ?_, fun u => ?_, h.pos, fun u v => ?_⟩
  · rw [hed]
    unfold resE arcE
    cases e1 : p.find u v with
    | some x => simp [h.some u v x e1]
    | none =>
      have h0 := h.none u v e1
      cases e2 : p.find v u with
      | some x => simp [h0, fl_zero]
      | none => simp
  · unfold arcE at he
    cases e1 : p.find u v with
    | some x => rw [e1] at he; simp at he
    | none => exact h.none u v e1
  · unfold arcE; rw [h.irr]; rfl
  · have := h.le u v
    have := h.le v u
    omega
theorem sumL_bd {f : Int → Int} {M : Int} (hM : 0 ≤ M) : ∀ l : List Int, (∀ x ∈ l, f x ≤ M) → sumL l f ≤ l.length * M
  | [], _ => by simp [sumL_nil]
  | a :: l, h => by
    rw [sumL_cons]
    have h1 := h a (by simp)
    have h2 := sumL_bd hM l (fun x hx => h x (List.mem_cons_of_mem _ hx))
    rw [List.length_cons]
    have : ((l.length + 1 : Nat) : Int) * M = l.length * M + M := by rw [Int.natCast_succ, Int.add_mul, Int.one_mul]
    omega
theorem sumL_at {f : Int → Int} {s : Int} : ∀ l : List Int, l.Nodup → (∀ x ∈ l, x ≠ s → f x = 0) → 0 ≤ f s → sumL l f ≤ f s
  | [], _, _, h => h
  | a :: l, hn, h0, h => by
    rw [sumL_cons]
    obtain ⟨h1, h2⟩ := List.nodup_cons.1 hn
    by_cases e : a = s
    · subst e
      rw [sumL_zero (fun x hx => h0 x (List.mem_cons_of_mem _ hx) (fun e => h1 (e ▸ hx)))]
      omega
    · rw [h0 a (by simp) e]
      have := sumL_at l h2 (fun x hx => h0 x (List.mem_cons_of_mem _ hx)) h
      omega
theorem cut_bd {p : Pl} {cap : Int → Int → Int} (h : CapOk p cap) (n s : Nat) (hn : n ≤ 900) : cutR (idsN n) (fun x => decide (x = (s : Int))) cap ≤ 1800000000000000 := by
  have hlen : (idsN n).length = n := by unfold idsN; rw [toI_len, List.length_range]
  have h1 : ∀ u, sumL (idsN n) (fun v => if (decide (u = (s : Int)) && !decide (v = (s : Int))) = true then cap u v else 0) ≤ (n : Int) * 2000000000000 := fun u => by
    have := sumL_bd (M := 2000000000000) (by decide) (idsN n) (f := fun v => if (decide (u = (s : Int)) && !decide (v = (s : Int))) = true then cap u v else 0) (fun v _ => by split; exact h.le u v; decide)
    rw [hlen] at this
    exact this
  unfold cutR
  refine Int.le_trans (sumL_at (s := (s : Int)) _ (idsN_nodup n) (fun u _ hu => sumL_zero fun v _ => by show (if (decide (u = (s : Int)) && !decide (v = (s : Int))) = true then cap u v else 0) = 0; rw [decide_eq_false hu]; rfl) (sumL_nonneg fun v _ => by split; exact h.pos _ _; decide)) (Int.le_trans (h1 _) (by omega))
theorem way_ok {n s t k : Nat} {r : Int → Int → Int} {lev : List Int} {par : List (List Nat)} (h : BS n s (fun p v => 0 < r (p : Int) (v : Int)) lev par) (hk : lev[t]? = some (k : Int)) (hst : s ≠ t) :
    WayOk n k s t par (upWay par k t) ∧ ∀ (i : Nat) (hi : i + 1 < (upWay par k t).length), 0 < r ((upWay par k t)[i + 1] : Int) ((upWay par k t)[i] : Int) := by
  obtain ⟨a1, a2, a3, a4, a5⟩ := h.way k t hk (fun u hu => h.zero u hu)
  have hk0 : k ≠ 0 := fun e => hst (h.zero t (by rw [hk, e]; rfl)).symm
  refine ⟨⟨a1, by omega, a5, fun v hv => ?_, fun h0 => ?_, fun h0 => ?_, fun i hi => (stepsUp_get a3 i hi).2, h.ps⟩, fun i hi => (stepsUp_get a3 i hi).1⟩
  · obtain ⟨j, _, hj⟩ := a4 v hv
    have := (List.getElem?_eq_some_iff.1 hj).1
    rwa [h.ll] at this
  · obtain ⟨l, hl⟩ := upWay_head par k t
    simp [hl]
  · rw [List.getLast?_eq_getElem?, a1, Nat.add_sub_cancel, List.getElem?_eq_getElem h0] at a2
    exact Option.some.inj a2
theorem carries_eq {g : GS} {E : Int → Int → Bool} {r : Int → Int → Int} (h : RG g E r) : carries g = fun (p v : Nat) => 0 < r (p : Int) (v : Int) := by
  funext p v
  exact propext (h.carries p v)
end Go.Proofs.YthkmblgehdofmaaGreat.R

/- The greatest flow: MaxFlowDinic. -/
namespace Go.Proofs.YthkmblgehdofmaaGreat.R
open Go.RowKit Go.Lab Go.Maps Go.MV Go.Flow Go.Proofs.FLN Go.Proofs.YthkmblgehdofmaaGreatW.PrintWords Go.Proofs.YthkmblgehdofmaaGreatW.PrintLast Go.Proofs.YthkmblgehdofmaaGreatW.PrintMore PL

theorem SG.mono {lo lo' : Nat} {w : World} {g : GS} (h : SG lo w g) (hl : lo' ≤ lo) : SG lo' w g :=
  ⟨h.blk, ⟨h.uid.blk, h.uid.used, h.uid.free, h.uid.ne, Nat.le_trans hl h.uid.lo.1, Nat.le_trans hl h.uid.lo.2.1, Nat.le_trans hl h.uid.lo.2.2⟩, h.nodes, h.from_, h.row, h.to_, h.col, h.ap, ⟨Nat.le_trans hl h.lo_.1, fun k hk => Nat.le_trans hl (h.lo_.2 k hk)⟩, h.fks, h.fes, h.tks, h.tes, h.len⟩
theorem info63y : (Tryz.prog.info? 63).map (fun i => (i.zero, i.size, i.bytes)) = some (some (.slice none 0 0), 1, 24) := by kernel_rfl
/-- between two phases: what flows, what may flow -/
def DL (lo A gG n s t : Nat) (cap : Int → Int → Int) (E : Int → Int → Bool) (w : World) (kq : Nat) (v : Value) (wr : World) : Prop :=
  ∃ (g : GS) (rows : List Value) (par : List (List Nat)) (r : Int → Int → Int) (F : Int), v = .float .f64 (FLN.fl F) ∧ SG lo wr g ∧ g.gG = gG ∧ g.ns = idsN n ∧ PT lo wr A rows par ∧ par.length = n ∧ RG g E r ∧ Res (idsN n) cap s t r F ∧ Below lo w wr ∧ F ≤ 1800000000000000 ∧ 1800000000000000 - F ≤ kq
theorem reach_at {gG : Nat} (lo A n s t : Nat) (g : GS) (hG : g.gG = gG) (rows : List Value) (par : List (List Nat)) (w : World) (hg : SG lo w g) (hns : g.ns = idsN n) (hpt : PT lo w A rows par) (hpl : par.length = n) (hs : s < n) (ht : t < n) (hn : n ≤ 900) (hlo : lo ≤ A) (hirr : ∀ u, g.ed u u = none) (hord : ∀ a b y, g.ed a b = some y → ∃ o, FloatKind.f64.format.order y 0 = some o) :
    Calls Tryz.prog 52 #[.pointer (some ⟨gG, 0, none⟩), .iface 71 (.int .i64 (s : Int)), .iface 71 (.int .i64 (t : Int)), .slice (some ⟨A, 0, none⟩) n n] w fun e w' => ∃ rows' par' lev, e = .returned (.bool (decide (0 ≤ lev.getD t (-1)))) ∧ PT lo w' A rows' par' ∧ SG lo w' g ∧ Below lo w w' ∧ BQ n s (carries g) lev par' [] := by
  subst hG; exact reach_any lo A n s t g rows par w hg hns hpt hpl hs ht hn hlo hirr hord
theorem block_at {gG : Nat} (lo A n k s t : Nat) (g : GS) (hG : g.gG = gG) (E : Int → Int → Bool) (r : Int → Int → Int) (rows : List Value) (par : List (List Nat)) (W : List Nat) (w : World) (hg : SG lo w g) (hns : g.ns = idsN n) (hpt : PT lo w A rows par) (hpl : par.length = n) (hrg : RG g E r) (hW : WayOk n k s t par W)
    (hal : ∀ (i : Nat) (h : i + 1 < W.length), 0 < r (W[i + 1] : Int) (W[i] : Int)) (hn : n ≤ 900) (hlo : lo ≤ A) :
    Calls Tryz.prog 53 #[.pointer (some ⟨gG, 0, none⟩), .iface 71 (.int .i64 (s : Int)), .iface 71 (.int .i64 (t : Int)), .slice (some ⟨A, 0, none⟩) n n] w fun e w' => e = .returned (.float .f64 (FLN.fl (bneck r (toI W)))) ∧ PT lo w' A rows par ∧ Below lo w w' ∧ ∃ g', SG lo w' g' ∧ g'.gG = gG ∧ g'.ns = g.ns ∧ RG g' E (pushAll (bneck r (toI W)) (toI W) r) := by
  subst hG; exact block_any lo A n k s t g E r rows par W w hg hns hpt hpl hrg hW hal hn hlo
set_option maxHeartbeats 8000000 in
set_option maxRecDepth 100000 in
theorem dinic_any (base bp n s t : Nat) (p : Pl) (cap : Int → Int → Int) (w : World) (h : PlOk w base bp p) (hs : p.ids.Pairwise (· < ·)) (hg : p.Good) (hids : p.ids = idsN n) (hn : n ≤ 900) (hc : CapOk p cap) (hsn : s < n) (htn : t < n) (hst : s ≠ t) :
    Calls Tryz.prog 34 #[.iface 70 (.agg #[.pointer (some ⟨bp, 0, none⟩)]), .iface 71 (.int .i64 (s : Int)), .iface 71 (.int .i64 (t : Int)), .float .f64 0] w fun e w' => ∃ F, e = .returned (.float .f64 (FLN.fl F)) ∧ MinCut (idsN n) cap s t F ∧ 0 ≤ F ∧ F ≤ 1800000000000000 ∧ Below w.heap.size w w' := by
  have HP := Aside0.mk (And.intro h (And.intro hs (And.intro hg (And.intro hids hc))))
  clear h hs hg hids hc
  have hlen : p.ids.length = n := by rw [HP.out.2.2.2.1]; unfold idsN; rw [toI_len, List.length_range]
  have ms := meth_ID (s : Int)
  have mt := meth_ID (t : Int)
  have m1 := meth_DNodes ⟨bp, 0, none⟩
  have m2 := fun a => meth_OLen a
  have hst2 : ¬ (s : Int) = (t : Int) := fun e => hst (Int.ofNat.inj e)
  have hneg : ∀ u v x, p.find u v = some x → ¬ (FloatKind.f64.format.order x.2 0 = some .lt) := fun u v x hx e => by
    have hc := HP.out.2.2.2.2
    have h0 := hc.pos u v
    have h1 := hc.le u v
    rw [hc.some u v x hx, ← fl_zero, order_fl _ _ (by omega) (by decide)] at e
    have e2 := Option.some.inj e
    rcases Int.lt_or_eq_of_le h0 with h2 | h2
    · rw [cmp_gt h2] at e2; cases e2
    · rw [← h2, cmp_eq] at e2; cases e2
  have HNG := Aside0.mk hneg
  obtain ⟨j0, hJ0, hzj0, hzj1, hzj2⟩ := info_parts info63y
  have HJ := Aside0.mk (And.intro hJ0 (And.intro hzj0 (And.intro hzj1 hzj2)))
  clear hJ0 hzj0 hzj1 hzj2 hneg
  have h00 : FloatKind.f64.format.order 0 0 = some .eq := by have := order_fl 0 0 (by decide) (by decide); rw [fl_zero, cmp_eq] at this; exact this
  go_enter Tryz.func34, Tryz.ntmps34
  go_wp2_with (first
    | (go_at_call 162; refine (nodeID_any _ _).mono ?_; rintro e w5 ⟨rfl, rfl⟩)
    | (go_at_call 151; refine (nodes_any base bp p _ HP.out.1 (by omega)).mono ?_; rintro e w1 ⟨b, rfl, hit, hb1⟩; have H1 := Aside0.mk (And.intro hit hb1); clear hit hb1)
    | (go_at_call 196; refine (lenO_any _ _ b p.ids _ H1.out.1 (by omega) (by omega)).mono ?_; rintro e w2 ⟨rfl, hb2⟩; rw [hlen]; have H2 := Aside0.mk (H1.out.2.trans (hb2.mono H1.out.2.size)); clear hb2)
    | (at_make; refine wpList_make_full _ rfl _ _ 91 rfl w.heap.size 63 j0 (.slice none 0 0) 1 Tryz.underlying91 HJ.out.1 HJ.out.2.1 HJ.out.2.2.1 .i64 .i64 (n : Int) (n : Int) n rfl rfl rfl rfl (by rw [HJ.out.2.2.2]; omega) (by unfold maxLen; omega) H2.out.size ?_; intro w3 ho3 hg3; have H3 := Aside0.mk (And.intro ho3 hg3); clear ho3 hg3)
    | (go_at_call 51; refine (init_any base bp p _ (HP.out.1.below (H2.out.grown H3.out.2 H2.out.size (fun k e => by cases e))) HP.out.2.1 HP.out.2.2.1 (fun x hx => by rw [HP.out.2.2.2.1] at hx; obtain ⟨c, hc, rfl⟩ := toI_mem hx; have := List.mem_range.1 hc; simp [Lit.wf, IntKind.min, IntKind.max, IntKind.bits, IntKind.signed]; omega) (by omega) HP.out.2.2.2.2.irr HNG.out).mono ?_; rintro e w4 ⟨g, rfl, hg4, hns4, hed4, hb4⟩; have H4 := Aside0.mk (And.intro hg4 (And.intro hns4 (And.intro hed4 hb4))); clear hg4 hns4 hed4 hb4))
  obtain ⟨A, hA⟩ : ∃ A, w2.heap.size = A := ⟨_, rfl⟩
  obtain ⟨gG, hgG⟩ : ∃ gG, g.gG = gG := ⟨_, rfl⟩
  have hDL := Aside0.mk (show DL w.heap.size A gG n s t cap (arcE p) w 1800000000000000 (.float .f64 0) w4 from by
    have hb3 : Below w.heap.size w w3 := H2.out.grown H3.out.2 H2.out.size (fun k e => by cases e)
    have ho := H3.out.1
    rw [hA, show (Value.slice none 0 0).cells = #[.slice none 0 0] from rfl, toList_madeCells_one, Nat.mul_one] at ho
    have htab : w3.heap[A]? = some (.cells (List.replicate n (.slice none 0 0)).toArray 63 (0, 0)) := by
      rcases ho.2 with ⟨e, _⟩ | ⟨g', cap', cu, e, h1, h2, h3, h4, h5, h6⟩
      · cases e
      · cases e
        rw [h2]
        congr 2
        rw [List.take_of_length_le (by simp [h5])] at h6
        rw [← h6]
    have hpt := PT.new (lo := w.heap.size) htab
    have hpt4 : PT w.heap.size w4 A (List.replicate n (.slice none 0 0)) (List.replicate n []) := hpt.stay fun k hk => H4.out.2.2.2.block k (by
      rcases hk with rfl | ⟨i, hi, e⟩
      · exact blk_lt htab
      · rw [List.getElem_replicate] at e; cases e)
    refine ⟨g, _, _, cap, 0, by rw [fl_zero], ?_, hgG, H4.out.2.1.trans HP.out.2.2.2.1, hpt4, by simp, RG.init HP.out.2.2.2.2 H4.out.2.2.1, Res.start _ HP.out.2.2.2.2.pos _ _, hb3.trans (H4.out.2.2.2.mono hb3.size), by decide, by decide⟩
    exact H4.out.1.mono hb3.size)
  have hwA : w.heap.size ≤ A := by rw [← hA]; exact H2.out.size
  rw [hA, hgG]
  clear H4 H3 H2 H1
  go_loopg [11] 1800000000000000 (fun kq v wr => Aside0 (DL w.heap.size A gG n s t cap (arcE p) w kq v wr))
  case atStart => exact hDL
  case round =>
    clear hDL
    obtain ⟨g, rows, par, r, F, rfl, hsg, hG, hns, hpt, hpl, hrg, hres, hbel, hF1, hF2⟩ := hrel.out
    have hfp := hres.fpos
    have HS := Aside0.mk (And.intro hsg (And.intro hns (And.intro hpt (And.intro hpl (And.intro hrg (And.intro hres hbel))))))
    clear hrel hsg hns hpt hpl hrg hres hbel
    go_wp2_with fail
    refine (reach_at _ A n s t g hG rows par _ HS.out.1 HS.out.2.1 HS.out.2.2.1 HS.out.2.2.2.1 hsn htn hn hwA (fun u => by rw [HS.out.2.2.2.2.1.ed, HS.out.2.2.2.2.1.irr]; rfl) (fun a b y hy => by
      rw [HS.out.2.2.2.2.1.ed] at hy
      split at hy
      · have h1 := HS.out.2.2.2.2.1.le a b
        have h2 := HS.out.2.2.2.2.1.pos a b
        cases hy
        have := order_fl (r a b) 0 (by omega) (by decide)
        rw [fl_zero] at this
        exact ⟨_, this⟩
      · cases hy)).mono ?_
    rintro e w5 ⟨rows5, par5, lev, rfl, hpt5, hsg5, hb5, hbq⟩
    rw [carries_eq HS.out.2.2.2.2.1] at hbq
    obtain ⟨x, hx⟩ : ∃ x, lev[t]? = some x := ⟨_, List.getElem?_eq_getElem (by rw [hbq.b.ll]; exact htn)⟩
    have hxd : lev.getD t (-1) = x := by rw [List.getD, hx]; rfl
    rw [hxd]
    have H5 := Aside0.mk (And.intro hpt5 (And.intro hsg5 (And.intro hb5 hbq)))
    have HX := Aside0.mk hx
    have hxb := hbq.b.lo t x hx
    clear hpt5 hsg5 hb5 hbq hx hxd
    by_cases hx0 : 0 ≤ x
    · rw [decide_eq_true hx0]
      obtain ⟨k, rfl⟩ : ∃ k : Nat, x = (k : Int) := ⟨x.toNat, by omega⟩
      obtain ⟨W, hway, hpush⟩ : ∃ W, (WayOk n k s t par5 W ∧ ∀ (i : Nat) (hi : i + 1 < W.length), 0 < r (W[i + 1] : Int) (W[i] : Int)) ∧ (0 < bneck r (toI W) ∧ Res (idsN n) cap s t (pushAll (bneck r (toI W)) (toI W) r) (F + bneck r (toI W))) := ⟨_, way_ok H5.out.2.2.2.b HX.out hst, H5.out.2.2.2.b.push HS.out.2.2.2.2.2.1 HX.out hst⟩
      have hpl5 := H5.out.2.2.2.b.pl
      have HW := Aside0.mk (And.intro hway hpush)
      have hb0 := hpush.1
      have hbd := bneck_bd HS.out.2.2.2.2.1.pos HS.out.2.2.2.2.1.le (by decide) (toI W)
      have hF' := hpush.2.bound (fun x => decide (x = (s : Int))) (decide_eq_true rfl) (decide_eq_false (fun e => hst2 e.symm))
      have hcb := cut_bd HP.out.2.2.2.2 n s hn
      obtain ⟨q, hq⟩ : ∃ q, bneck (r) (toI W) = q := ⟨_, rfl⟩
      rw [hq] at hb0 hbd hF'
      have HQ := Aside0.mk hq
      have hadd := run_add_fl F q (by omega) (by omega) (by omega)
      clear hway hpush hq
      go_wp2_with (first
        | (go_at_call 53; refine (block_at _ A n k s t g hG (arcE p) r rows5 par5 W _ H5.out.2.1 HS.out.2.1 H5.out.1 hpl5 HS.out.2.2.2.2.1 HW.out.1.1 HW.out.1.2 hn hwA).mono ?_; rintro e w6 ⟨rfl, hpt6, hb6, g6, hsg6, hG6, hN6, hR6⟩; rw [HQ.out]; rw [HQ.out] at hR6; have H6 := Aside0.mk (And.intro hpt6 (And.intro hb6 (And.intro hsg6 (And.intro hN6 hR6)))); clear hpt6 hb6 hsg6 hN6 hR6)
        | (go_at_call 54; refine (same_any q hb0 (by omega) _).mono ?_; rintro e w7 ⟨rfl, hb7⟩; have H7 := Aside0.mk hb7; clear hb7))
      cases gk with
      | zero => omega
      | succ gk =>
        go_roundg gk
        case measure => omega
        case rel =>
          have hpb : ∀ k, PB2 A rows5 k → k < w6.heap.size := fun k hk => by
            rcases hk with rfl | ⟨i, hi, e⟩
            · exact blk_lt H6.out.1.tab
            · obtain ⟨c, hc⟩ := own_block (H6.out.1.row i hi) e
              exact blk_lt hc
          refine ⟨⟨g6, rows5, par5, _, F + q, rfl, H6.out.2.2.1.below H7.out, hG6, H6.out.2.2.2.1.trans HS.out.2.1, H6.out.1.stay fun k hk => H7.out.block k (hpb k hk), hpl5, H6.out.2.2.2.2, ?_, HS.out.2.2.2.2.2.2.trans (H5.out.2.2.1.trans (H6.out.2.1.trans (H7.out.mono ?_))), by omega, by omega⟩⟩
          · have := HW.out.2.2
            rw [HQ.out] at this
            exact this
          · exact Nat.le_trans HS.out.2.2.2.2.2.2.size (Nat.le_trans H5.out.2.2.1.size H6.out.2.1.size)
    · rw [decide_eq_false hx0]
      have hx1 : x = -1 := by omega
      have HC := Aside0.mk (H5.out.2.2.2.cut HS.out.2.2.2.2.2.1 (by rw [HX.out, hx1]))
      go_wp2_with fail
      go_ret
      exact ⟨F, rfl, HC.out, hfp, hF1, HS.out.2.2.2.2.2.2.trans H5.out.2.2.1⟩
end Go.Proofs.YthkmblgehdofmaaGreat.R

/- impl.open, impl.from of good directed graphs. -/
namespace Go.Proofs.YthkmblgehdofmaaGreat.R
open Go.RowKit Go.Lab Go.Maps Go.Proofs.YthkmblgehdofmaaGreatW.PrintWords Go.Proofs.YthkmblgehdofmaaGreatW.PrintLast Go.Proofs.YthkmblgehdofmaaGreatW.PrintMore PL

def p_len (p : Pl) : Nat := p.ids.length
set_option maxHeartbeats 4000000 in
set_option maxRecDepth 100000 in
theorem open_good (A1 A2 : Option Addr) (c1 c2 : Nat) (zs : List Int) (es : List S29) (w : World) (hN : Kd.C (Kd.int .i64) w A1 zs.length zs) (hE : Kd.C k29 w A2 es.length es) (hn : zs.length ≤ 1000) (he : es.length ≤ 1000000) (hro : readOk zs es = true) :
    Calls Tryz.prog 49 #[.agg #[.bool true, .slice A1 zs.length c1, .slice A2 es.length c2]] w fun e w' => ∃ base bp, e = .returned (.tuple #[.iface 70 (.agg #[.pointer (some ⟨bp, 0, none⟩)]), .pointer (some ⟨bp, 0, none⟩), .bool true]) ∧ Below w.heap.size w w' ∧ GrOk w' base bp zs es (plOf true zs es) := by
  have hb1 : Below w.heap.size w (w.alloc (.cells #[.bool true, .slice A1 zs.length c1, .slice A2 es.length c2] 26)) := (Below.refl _ _).alloc (Nat.le_refl _) _
  have HN := Aside0.mk (Kd.C_below hN hb1)
  have HE := Aside0.mk (Kd.C_below hE hb1)
  have HB := Aside0.mk hb1
  have HRO := Aside0.mk hro
  have hk0 : (w.alloc (.cells #[.bool true, .slice A1 zs.length c1, .slice A2 es.length c2] 26)).heap[w.heap.size]? = some (.cells #[.bool true, .slice A1 zs.length c1, .slice A2 es.length c2] 26 (0, 0)) := heap_alloc_new _ _
  have HK := Aside0.mk hk0
  clear hN hE hb1 hro hk0
  go_enter Tryz.func49, Tryz.ntmps49
  go_wp2_with (go_at_call 60; refine (read_any2 true A1 A2 c1 c2 zs es _ HN.out HE.out hn he).mono ?_; rintro e w1 ⟨rfl, hbel, _, hpl⟩; rw [HRO.out]; have hc0 : w1.cell? ⟨w.heap.size, 0, none⟩ = some (.bool true) := (blk_cell ((hbel.block w.heap.size (by simp)).trans HK.out) 0).trans rfl; have H1 := Aside0.mk (And.intro hbel (show GrOk w1 _ _ zs es (plOf true zs es) from GrOk.mk' (w := w) (d := true) hn HRO.out (hpl HRO.out))); clear hbel hpl)
  exact bodyPost_ret (v := .tuple #[.iface 70 (.agg #[.pointer (some ⟨w.heap.size + 1 + 1, 0, none⟩)]), .pointer (some ⟨w.heap.size + 1 + 1, 0, none⟩), .bool true]) (by simp [results, Tryz.results49, go_sem]) rfl (by
    have h2 := H1.out.2
    have h1 := HB.out.trans (H1.out.1.mono (by simp))
    simp only [World.size_alloc] at h2
    first
      | exact ⟨_, _, rfl, h1, h2⟩
      | exact ⟨w.heap.size + 1, w.heap.size + 1 + 1, rfl, h1, by simpa using h2⟩)

set_option maxHeartbeats 4000000 in
set_option maxRecDepth 100000 in
theorem from_good (A1 A2 : Option Addr) (c1 c2 : Nat) (zs : List Int) (es : List S29) (ga : Nat) (u v : Int) (w : World) (hN : Kd.C (Kd.int .i64) w A1 zs.length zs) (hE : Kd.C k29 w A2 es.length es) (hn : zs.length ≤ 1000) (he : es.length ≤ 1000000) (hro : readOk zs es = true)
    (hu : u ∈ zs) (hv : v ∈ zs) (hc : w.cell? ⟨ga, 0, none⟩ = some (.int .i64 u)) (hd : w.cell? ⟨ga, 1, none⟩ = some (.int .i64 v)) :
    Calls Tryz.prog 32 #[.agg #[.bool true, .slice A1 zs.length c1, .slice A2 es.length c2], .slice (some ⟨ga, 0, none⟩) 2 2] w fun e w' => ∃ base bp, e = .returned (.tuple #[.iface 70 (.agg #[.pointer (some ⟨bp, 0, none⟩)]), .pointer (some ⟨bp, 0, none⟩), .bool true]) ∧ Below w.heap.size w w' ∧ GrOk w' base bp zs es (plOf true zs es) := by
  have hb1 : Below w.heap.size w (w.alloc (.cells #[.bool true, .slice A1 zs.length c1, .slice A2 es.length c2] 26)) := (Below.refl _ _).alloc (Nat.le_refl _) _
  have HN := Aside0.mk (Kd.C_below hN hb1)
  have HE := Aside0.mk (Kd.C_below hE hb1)
  have HB := Aside0.mk hb1
  have HRO := Aside0.mk hro
  have HC := Aside0.mk (And.intro hc hd)
  have hga := World.block_lt_of_cell? w _ hc
  dsimp only at hga
  clear hN hE hb1 hro hc hd
  go_enter Tryz.func32, Tryz.ntmps32
  go_wp2_with (go_at_call 49; refine (open_good A1 A2 c1 c2 zs es _ HN.out HE.out hn he HRO.out).mono ?_; rintro e w1 ⟨base, bp, rfl, hbel, hgr⟩; have H1 := Aside0.mk (And.intro hbel hgr); clear hbel hgr)
  have HC1 := Aside0.mk (show w1.cell? ⟨ga, 0, none⟩ = some (.int .i64 u) ∧ w1.cell? ⟨ga, 1, none⟩ = some (.int .i64 v) from by
    have h2 := HB.out.trans (H1.out.1.mono (by simp))
    constructor
    · rw [World.cell?_of_block (h2.block ga hga)]; exact HC.out.1
    · rw [World.cell?_of_block (h2.block ga hga)]; exact HC.out.2)
  go_loopw [9, 22] (fun v9 v22 wr => v9 = .bool true ∧ ∃ i : Nat, v22 = .int .i64 i ∧ i ≤ 2 ∧ Aside0 (Below w1.heap.size w1 wr)) (fun _ v22 _ => 3 - (intOf v22).toNat)
  case atStart => exact ⟨rfl, 0, rfl, by omega, ⟨Below.refl _ _⟩⟩
  case round =>
    obtain ⟨rfl, i, rfl, hi, hrel⟩ := hrel
    have hp := H1.out.2.below hrel.out
    have HP := Aside0.mk (And.intro hp.ok (And.intro hp.sorted (show p_len (plOf true zs es) ≤ 1000 from by unfold p_len; rw [hp.adj.ids, srt_length]; exact hn)))
    by_cases h0 : i = 0
    · subst h0
      have hcr : wr.cell? ⟨ga, 0, none⟩ = some (.int .i64 u) := by rw [World.cell?_of_block (hrel.out.block ga (World.block_lt_of_cell? w1 _ HC1.out.1))]; exact HC1.out.1
      have hd : decide (u ∈ (plOf true zs es).ids) = true := decide_eq_true (by rw [hp.adj.ids]; exact (mem_srt _ _).2 hu)
      clear hp
      go_wp2_with (go_at_call 50; refine (pl_index base bp (plOf true zs es) u _ HP.out.1 HP.out.2.1 HP.out.2.2).mono ?_; rintro e w2 ⟨rfl, rfl⟩; rw [hd])
      exact ⟨⟨rfl, 1, by simp, by omega, hrel⟩, by simp [intOf]⟩
    · by_cases h1 : i = 1
      · subst h1
        have hcr : wr.cell? ⟨ga, 1, none⟩ = some (.int .i64 v) := by rw [World.cell?_of_block (hrel.out.block ga (World.block_lt_of_cell? w1 _ HC1.out.2))]; exact HC1.out.2
        have hd : decide (v ∈ (plOf true zs es).ids) = true := decide_eq_true (by rw [hp.adj.ids]; exact (mem_srt _ _).2 hv)
        clear hp
        go_wp2_with (go_at_call 50; refine (pl_index base bp (plOf true zs es) v _ HP.out.1 HP.out.2.1 HP.out.2.2).mono ?_; rintro e w2 ⟨rfl, rfl⟩; rw [hd])
        exact ⟨⟨rfl, 2, by simp, by omega, hrel⟩, by simp [intOf]⟩
      · have h2 : i = 2 := by omega
        subst h2
        have HW := Aside0.mk hrel.out
        clear hrel hp
        go_wp2
        exact bodyPost_ret (v := .tuple #[.iface 70 (.agg #[.pointer (some ⟨bp, 0, none⟩)]), .pointer (some ⟨bp, 0, none⟩), .bool true]) (by simp [results, Tryz.results32, go_sem]) rfl (by
          have k1 := HB.out.trans (H1.out.1.mono (by simp))
          exact ⟨base, bp, rfl, k1.trans (HW.out.mono (by have := H1.out.1.size; simp at this; omega)), H1.out.2.below HW.out⟩)
end Go.Proofs.YthkmblgehdofmaaGreat.R

/- impl.MaxFlow of good directed graphs: a least cut. -/
namespace Go.Proofs.YthkmblgehdofmaaGreat.R
open Go.RowKit Go.Lab Go.Maps Go.Flow Go.Proofs.FLN Go.Proofs.YthkmblgehdofmaaGreatW.PrintWords Go.Proofs.YthkmblgehdofmaaGreatW.PrintLast Go.Proofs.YthkmblgehdofmaaGreatW.PrintMore PL

def capE (es : List S29) (u v : Int) : Int := (arcW es u v).getD 0
theorem cap_ok {zs : List Int} {es : List S29} {p : Pl} (h : Adj zs es p) (hg : p.Good) (hs : (srt zs).Pairwise (· < ·)) (he : es.all (goodE zs) = true) (hp : ∀ e ∈ es, 0 ≤ e.f2) : CapOk p (capE es) := by
  have hgood : ∀ u v n, arcW es u v = some n → u ∈ zs ∧ v ∈ zs ∧ u ≠ v ∧ 0 ≤ n ∧ n ≤ 1099511627776 := fun u v n hn => by
    obtain ⟨e, h1, rfl, rfl, rfl⟩ := arcW_mem hn
    have h2 := (List.all_eq_true.1 he) e h1
    unfold goodE at h2
    simp only [Bool.and_eq_true, decide_eq_true_eq, Bool.not_eq_true', decide_eq_false_iff_not] at h2
    obtain ⟨⟨⟨⟨a, b⟩, c⟩, d⟩, _⟩ := h2
    exact ⟨a, b, c, hp e h1, by omega⟩
  have hfind : ∀ u v x, p.find u v = some x → ∃ n, arcW es u v = some n ∧ x.2 = FLN.fl n := fun u v x hx => by
    have h1 := (find_some hg).1 (show (p.find u v).isSome = true by rw [hx]; rfl)
    rw [h.ids] at h1
    have h2 := h.find hg hs h1.1 h1.2.1
    rw [hx] at h2
    cases hn : arcW es u v with
    | none => rw [hn] at h2; cases h2
    | some n => rw [hn] at h2; have := Option.some.inj h2; exact ⟨n, rfl, by rw [this]⟩
  refine ⟨fun u v hx => ?_, fun u v x hx => ?_, fun u v => ?_, fun u v => ?_, fun u => ?_⟩
  · unfold capE
    cases hn : arcW es u v with
    | none => rfl
    | some n =>
      obtain ⟨a, b, _⟩ := hgood u v n hn
      rw [h.find hg hs ((mem_srt _ _).2 a) ((mem_srt _ _).2 b), hn] at hx
      cases hx
  · obtain ⟨n, h1, h2⟩ := hfind u v x hx
    unfold capE
    rw [h1, h2]
    rfl
  · unfold capE
    cases hn : arcW es u v with
    | none => exact Int.le_refl _
    | some n => exact (hgood u v n hn).2.2.2.1
  · unfold capE
    cases hn : arcW es u v with
    | none => decide
    | some n => have := (hgood u v n hn).2.2.2.2; show n ≤ _; omega
  · cases hx : p.find u u with
    | none => rfl
    | some x =>
      obtain ⟨n, h1, _⟩ := hfind u u x hx
      exact absurd rfl (hgood u u n h1).2.2.1
theorem conv_fl (n : Int) (h : n.natAbs < 9007199254740992) (w : World) : (convert 67 3 (.float .f64 (FLN.fl n))).run Tryz.prog w = .ok (.int .i64 n) w :=
  run_convert_float_int w 67 3 .f64 .i64 (FLN.fl n) n (by rw [Tryz.underlying67]; rfl) Tryz.underlying3 (toInt_fl n h)
set_option maxHeartbeats 4000000 in
set_option maxRecDepth 100000 in
theorem maxflow_any (A1 A2 : Option Addr) (c1 c2 : Nat) (zs : List Int) (es : List S29) (n s t : Nat) (w : World) (hN : Kd.C (Kd.int .i64) w A1 zs.length zs) (hE : Kd.C k29 w A2 es.length es) (hn : n ≤ 900) (he : es.length ≤ 1000000) (hro : readOk zs es = true) (hz : srt zs = idsN n) (hp : ∀ e ∈ es, 0 ≤ e.f2) (hs : s < n) (ht : t < n) (hst : s ≠ t) :
    Calls Tryz.prog 9 #[.agg #[.bool true, .slice A1 zs.length c1, .slice A2 es.length c2], .int .i64 (s : Int), .int .i64 (t : Int)] w fun e w' => ∃ F, e = .returned (.tuple #[.int .i64 F, .bool false]) ∧ MinCut (idsN n) (capE es) s t F ∧ 0 ≤ F ∧ F ≤ 1800000000000000 ∧ Below w.heap.size w w' := by
  have hzl : zs.length = n := by rw [← srt_length, hz]; unfold idsN; rw [toI_len, List.length_range]
  obtain ⟨W, hW⟩ : ∃ W, (w.alloc (.cells #[.bool true, .slice A1 zs.length c1, .slice A2 es.length c2] 26)).alloc (.cells #[.int .i64 (s : Int), .int .i64 (t : Int)] 3) = W := ⟨_, rfl⟩
  have hb : Below w.heap.size w W := by rw [← hW]; exact ((Below.refl _ _).alloc (Nat.le_refl _) _).alloc (by simp) _
  have hw0 : W.heap[w.heap.size]? = some (.cells #[.bool true, .slice A1 zs.length c1, .slice A2 es.length c2] 26 (0, 0)) := by
    rw [← hW]
    rw [Below.heap_alloc _ _ _ (by simp)]
    exact heap_alloc_new _ _
  have h1 : W.heap[w.heap.size + 1]? = some (.cells #[.int .i64 (s : Int), .int .i64 (t : Int)] 3 (0, 0)) := by
    rw [← hW]
    have := heap_alloc_new (w.alloc (.cells #[.bool true, .slice A1 zs.length c1, .slice A2 es.length c2] 26)) (.cells #[.int .i64 (s : Int), .int .i64 (t : Int)] 3)
    simpa using this
  have HN := Aside0.mk (Kd.C_below hN hb)
  have HE := Aside0.mk (Kd.C_below hE hb)
  have HB := Aside0.mk hb
  have HX := Aside0.mk (And.intro hro (And.intro hw0 (And.intro h1 (And.intro hz hp))))
  have hsz : (s : Int) ∈ zs := (mem_srt _ _).1 (by rw [hz]; exact idsN_mem hs)
  have htz : (t : Int) ∈ zs := (mem_srt _ _).1 (by rw [hz]; exact idsN_mem ht)
  have hst2 : ¬ (s : Int) = (t : Int) := fun e => hst (Int.ofNat.inj e)
  have HZL := Aside0.mk hzl
  clear hN hE hb hro h1 hw0 hz hp hzl
  go_enter Tryz.func9, Tryz.ntmps9
  go_wp2_with (first
    | (go_at_call 32; refine (from_good A1 A2 c1 c2 zs es (w.heap.size + 1) (s : Int) (t : Int) W HN.out HE.out (by have := HZL.out; omega) he HX.out.1 hsz htz ((blk_cell HX.out.2.2.1 0).trans rfl) ((blk_cell HX.out.2.2.1 1).trans rfl)).mono ?_; rintro e w1 ⟨base, bp, rfl, hbel, hgr⟩; have hc0 : w1.cell? ⟨w.heap.size, 0, none⟩ = some (.bool true) := (blk_cell ((hbel.block w.heap.size (blk_lt HX.out.2.1)).trans HX.out.2.1) 0).trans rfl; have H1 := Aside0.mk (And.intro hbel hgr); clear hbel hgr))
  obtain ⟨ro, ri, vi, vo, vn, hpa⟩ := H1.out.2.ok
  have hids : (plOf true zs es).ids = idsN n := H1.out.2.adj.ids.trans HX.out.2.2.2.1
  have hil : (plOf true zs es).ids.length = n := by rw [hids]; unfold idsN; rw [toI_len, List.length_range]
  obtain ⟨m, rfl⟩ : ∃ m, n = m + 1 := ⟨n - 1, by omega⟩
  obtain ⟨gI, cI, hvi, hci, hcl, _⟩ := own_cells hpa.ids (by omega)
  have hget : ∀ j, j < m + 1 → (nums .i64 (plOf true zs es).ids)[j]? = some (.int .i64 (j : Int)) := fun j hj => by
    rw [hids]
    unfold nums idsN toI
    rw [List.map_map, List.getElem?_map, List.getElem?_range hj]
    rfl
  have k1 : w1.cell? ⟨bp, 0, none⟩ = some (.slice (some ⟨gI, 0, none⟩) (m + 1) cI) := by rw [blk_cell hpa.blk]; simp [hvi, hil]
  have k2 : w1.cell? ⟨gI, 0, none⟩ = some (.int .i64 0) := hcl 0 _ (hget 0 (by omega))
  have k3 : w1.cell? ⟨gI, m, none⟩ = some (.int .i64 (m : Int)) := hcl m _ (hget m (by omega))
  have HNEG := Aside0.mk (show ∀ i, ∀ a ∈ (plOf true zs es).out.getD i [], ∃ o, FloatKind.f64.format.order a.2 0 = some o ∧ o ≠ .lt from fun i a ha => by
    by_cases hi : i < (srt zs).length
    · obtain ⟨k, x, _, rfl, hx⟩ := (H1.out.2.adj.out i hi a).1 ha
      obtain ⟨e, he1, _, _, rfl⟩ := arcW_mem hx
      have h0 := HX.out.2.2.2.2 e he1
      have hg := (List.all_eq_true.1 (show es.all (goodE zs) = true from by have := HX.out.1; unfold readOk at this; rw [Bool.and_eq_true] at this; exact this.2)) e he1
      unfold goodE at hg
      simp only [Bool.and_eq_true, decide_eq_true_eq, Bool.not_eq_true', decide_eq_false_iff_not] at hg
      have h1 := hg.1.2
      have ho := order_fl e.f2 0 (by omega) (by decide)
      rw [fl_zero] at ho
      refine ⟨_, ho, ?_⟩
      rcases Int.lt_or_eq_of_le h0 with h2 | h2
      · rw [cmp_gt h2]; decide
      · rw [← h2, cmp_eq]; decide
    · rw [List.getD_eq_getElem?_getD, List.getElem?_eq_none (by rw [H1.out.2.adj.lo]; omega)] at ha
      cases ha)
  have HIDS := Aside0.mk hids
  obtain ⟨N, hN⟩ : ∃ N, m + 1 = N := ⟨_, rfl⟩
  rw [hN] at k1
  have hN1 : (N : Int) - 1 = (m : Int) := by omega
  have hN2 : (m : Int) < (N : Int) := by omega
  have hN3 : (N : Int) > 0 := by omega
  have hN4 : 0 < N := by omega
  have hN5 : m < N := by omega
  have hN6 : (0 : Int) ≤ (m : Int) := by omega
  have hw4 : IntKind.i64.wrap (m : Int) = (m : Int) := by rw [IntKind.wrap_i64]; omega
  have HNN := Aside0.mk (And.intro hn hN)
  have hsteq : ((s : Int) == (t : Int)) = false := by rw [beq_eq_false_iff_ne]; exact hst2
  clear hpa hids hil hvi hci hcl hget hN hn
  go_region_held3 (fun w' => w'.cell? ⟨w.heap.size, 0, none⟩ = some (.bool true) ∧ w'.cell? ⟨bp, 0, none⟩ = some (.slice (some ⟨gI, 0, none⟩) N cI) ∧ w'.cell? ⟨gI, 0, none⟩ = some (.int .i64 0) ∧ w'.cell? ⟨gI, m, none⟩ = some (.int .i64 (m : Int)))
    (first | exact ⟨below_cellOf hbel (by assumption), below_cellOf hbel (by assumption), below_cellOf hbel (by assumption), below_cellOf hbel (by assumption)⟩ | go_keep)
    (first | (go_at_call 33; refine (negative_any base bp _ _ (H1.out.2.ok.below (by repeat (first | exact Below.refl _ _ | apply below_drew1))) HNEG.out).mono ?_; rintro e w3 ⟨rfl, hbel⟩; have HB3 := Aside0.mk hbel))
  all_goals
    have HB13 := Aside0.mk (show Below w1.heap.size w1 w3 from (Below.refl _ _).drew.trans (HB3.out.mono (by simp)))
    go_wp2_with (go_at_call 34; refine (dinic_any base bp (m + 1) s t _ (capE es) _ (H1.out.2.ok.below HB13.out) H1.out.2.sorted H1.out.2.good HIDS.out HNN.out.1 (cap_ok H1.out.2.adj H1.out.2.good H1.out.2.hs (by have := HX.out.1; unfold readOk at this; rw [Bool.and_eq_true] at this; exact this.2) HX.out.2.2.2.2) hs ht hst).mono ?_; rintro e w5 ⟨F, rfl, hmin, hF0, hF1, hb5⟩; have H5 := Aside0.mk (And.intro hmin (And.intro hF0 (And.intro hF1 hb5))); have hcv := conv_fl F (by omega); clear hmin hb5)
    go_ret2
    refine ⟨F, rfl, H5.out.1, H5.out.2.1, H5.out.2.2.1, HB.out.trans (Below.mono ?_ HB.out.size)⟩
    exact H1.out.1.trans ((HB13.out.mono H1.out.1.size).trans (H5.out.2.2.2.mono (Nat.le_trans H1.out.1.size HB13.out.size)))
end Go.Proofs.YthkmblgehdofmaaGreat.R

/- The arcs of a graph as a list; the least cut by sets of bits. -/
namespace Go.Proofs.YthkmblgehdofmaaGreat.R
open Go.RowKit Go.Lab Go.Maps Go.Flow Go.Proofs.YthkmblgehdofmaaGreatW.PrintWords PL

def sameE (u v : Int) (f : S29) : Bool := decide (f.f0 = u) && decide (f.f1 = v)
/-- the arcs: of those with the same ends the last one -/
def arcsL : List S29 → List (Int × Int × Int)
  | [] => []
  | e :: r => if r.any (sameE e.f0 e.f1) = true then arcsL r else (e.f0, e.f1, e.f2) :: arcsL r
theorem arcW_fold (u v : Int) : ∀ (es : List S29) (o : Option Int), es.foldl (fun o e => if e.f0 = u ∧ e.f1 = v then some e.f2 else o) o = (arcW es u v).or o
  | [], o => rfl
  | e :: r, o => by
    unfold arcW
    rw [List.foldl_cons, List.foldl_cons, arcW_fold u v r, arcW_fold u v r]
    cases h : arcW r u v with
    | some x => simp
    | none => by_cases hm : e.f0 = u ∧ e.f1 = v <;> simp [hm]
theorem arcW_cons (e : S29) (r : List S29) (u v : Int) : arcW (e :: r) u v = (arcW r u v).or (if e.f0 = u ∧ e.f1 = v then some e.f2 else none) := by
  conv => lhs; unfold arcW
  rw [List.foldl_cons, arcW_fold]
theorem any_same (es : List S29) (u v : Int) : es.any (sameE u v) = (arcW es u v).isSome := by
  rw [Bool.eq_iff_iff, arcW_some, List.any_eq_true]
  constructor
  · rintro ⟨e, h1, h2⟩
    unfold sameE at h2
    rw [Bool.and_eq_true, decide_eq_true_eq, decide_eq_true_eq] at h2
    exact ⟨e, h1, h2.1, h2.2⟩
  · rintro ⟨e, h1, h2, h3⟩
    exact ⟨e, h1, by unfold sameE; rw [decide_eq_true h2, decide_eq_true h3]; rfl⟩
theorem capL_arcs : ∀ (es : List S29) (u v : Int), capL (arcsL es) u v = capE es u v
  | [], u, v => rfl
  | e :: r, u, v => by
    have ih := capL_arcs r u v
    unfold capE at ih ⊢
    rw [arcW_cons]
    unfold arcsL
    rw [any_same]
    by_cases hm : e.f0 = u ∧ e.f1 = v
    · obtain ⟨rfl, rfl⟩ := hm
      cases h : arcW r e.f0 e.f1 with
      | some x => rw [h] at ih; simp only [Option.isSome_some, if_true]; rw [ih]; rfl
      | none =>
        rw [h] at ih
        simp only [Option.isSome_none, Bool.false_eq_true, if_false]
        show (if e.f0 = e.f0 ∧ e.f1 = e.f1 then e.f2 else 0) + capL (arcsL r) e.f0 e.f1 = _
        rw [ih, if_pos ⟨rfl, rfl⟩]
        simp
    · have h1 : (arcW r u v).or (if e.f0 = u ∧ e.f1 = v then some e.f2 else none) = arcW r u v := by rw [if_neg hm]; simp
      rw [h1]
      split
      · exact ih
      · show (if u = e.f0 ∧ v = e.f1 then e.f2 else 0) + capL (arcsL r) u v = _
        rw [if_neg (fun h => hm ⟨h.1.symm, h.2.symm⟩), ih]
        omega
theorem arcsL_mem {es : List S29} {a : Int × Int × Int} (h : a ∈ arcsL es) : ∃ e ∈ es, a = (e.f0, e.f1, e.f2) := by
  induction es with
  | nil => cases h
  | cons e r ih =>
    unfold arcsL at h
    split at h
    · obtain ⟨x, h1, h2⟩ := ih h
      exact ⟨x, by simp [h1], h2⟩
    · rcases List.mem_cons.1 h with rfl | h
      · exact ⟨e, by simp, rfl⟩
      · obtain ⟨x, h1, h2⟩ := ih h
        exact ⟨x, by simp [h1], h2⟩
/-- a set of nodes as bits -/
def setOf (S : Int → Bool) : Nat → Nat
  | 0 => 0
  | k + 1 => setOf S k ||| (if S (k : Int) = true then 2 ^ k else 0)
theorem setOf_lt (S : Int → Bool) : ∀ k, setOf S k < 2 ^ k
  | 0 => by simp [setOf]
  | k + 1 => by
    have ih := setOf_lt S k
    unfold setOf
    refine Nat.or_lt_two_pow (by rw [Nat.pow_succ]; omega) ?_
    split
    · exact Nat.pow_lt_pow_right (by omega) (by omega)
    · exact Nat.two_pow_pos _
theorem setOf_bit (S : Int → Bool) : ∀ (k v : Nat), (setOf S k).testBit v = (decide (v < k) && S (v : Int))
  | 0, v => by simp [setOf]
  | k + 1, v => by
    unfold setOf
    rw [Nat.testBit_or, setOf_bit S k v]
    by_cases hv : v = k
    · subst hv
      cases hS : S (v : Int) <;> simp
    · have h2 : (if S (k : Int) = true then 2 ^ k else 0).testBit v = false := by
        split
        · rw [Nat.testBit_two_pow]; simp [Ne.symm hv]
        · simp
      rw [h2, Bool.or_false]
      by_cases h3 : v < k
      · simp [h3, Nat.lt_succ_of_lt h3]
      · have : ¬ v < k + 1 := by omega
        simp [h3, this]
def bitS (a : Nat) (v : Int) : Bool := a.testBit v.toNat
/-- the cuts of all sets with s, without t -/
def cutBits (l : List (Int × Int × Int)) (n s t : Nat) : List Int := ((List.range (2 ^ n)).filter (fun a => a.testBit s && !a.testBit t)).map (fun a => cutL l (bitS a))
theorem CutOk.min {n s t : Nat} {l : List (Int × Int × Int)} {F : Int} (h : CutOk n l s t F) (hl : ∀ a ∈ l, a.1 ∈ idsN n ∧ a.2.1 ∈ idsN n) (hs : s < n) (ht : t < n) : (cutBits l n s t).min? = some F := by
  rw [List.min?_eq_some_iff]
  constructor
  · obtain ⟨S, h1, h2, h3⟩ := h.is
    unfold cutBits
    refine List.mem_map.2 ⟨setOf S n, List.mem_filter.2 ⟨List.mem_range.2 (setOf_lt S n), ?_⟩, ?_⟩
    · rw [setOf_bit, setOf_bit, h1, h2, decide_eq_true hs, decide_eq_true ht]; rfl
    · rw [h3]
      refine cutL_congr fun a ha => ?_
      obtain ⟨a1, a2⟩ := hl a ha
      obtain ⟨x, hx, e1⟩ := toI_mem a1
      obtain ⟨y, hy, e2⟩ := toI_mem a2
      rw [e1, e2]
      unfold bitS
      rw [Int.toNat_natCast, Int.toNat_natCast, setOf_bit, setOf_bit, decide_eq_true (List.mem_range.1 hx), decide_eq_true (List.mem_range.1 hy)]
      exact ⟨Bool.true_and _, Bool.true_and _⟩
  · intro b hb
    obtain ⟨a, ha, rfl⟩ := List.mem_map.1 hb
    obtain ⟨_, ha2⟩ := List.mem_filter.1 ha
    rw [Bool.and_eq_true, Bool.not_eq_true'] at ha2
    exact h.le (bitS a) (by unfold bitS; rw [Int.toNat_natCast]; exact ha2.1) (by unfold bitS; rw [Int.toNat_natCast]; exact ha2.2)
theorem cut_arcs {zs : List Int} {es : List S29} {n : Nat} (hz : srt zs = idsN n) (he : es.all (goodE zs) = true) : ∀ a ∈ arcsL es, a.1 ∈ idsN n ∧ a.2.1 ∈ idsN n := fun a ha => by
  obtain ⟨e, h1, rfl⟩ := arcsL_mem ha
  have h2 := (List.all_eq_true.1 he) e h1
  unfold goodE at h2
  simp only [Bool.and_eq_true, decide_eq_true_eq] at h2
  rw [← hz]
  exact ⟨(mem_srt _ _).2 h2.1.1.1.1, (mem_srt _ _).2 h2.1.1.1.2⟩
theorem capE_eq (es : List S29) : capL (arcsL es) = capE es := by
  funext u v
  exact capL_arcs es u v
end Go.Proofs.YthkmblgehdofmaaGreat.R

/- impl.MaxFlow, in the printed contracts' form: of good graphs alone. -/
namespace Go.Proofs.YthkmblgehdofmaaGreat.R
open Go.RowKit Go.Lab Go.Maps Go.Flow Go.Proofs.YthkmblgehdofmaaGreatW.PrintWords PL

/-- a graph through which something may flow from s to t -/
def flowB (d : Bool) (zs : List Int) (es : List S29) (s t : Int) : Bool :=
  d && (readOk zs es && (decide (zs.length ≤ 900) && (decide (es.length ≤ 1000000) && (decide (srt zs = idsN zs.length) && (es.all (fun e => decide (0 ≤ e.f2)) && (decide (s ∈ zs) && (decide (t ∈ zs) && !decide (s = t))))))))
theorem flowB_iff {d : Bool} {zs : List Int} {es : List S29} {s t : Int} : flowB d zs es s t = true ↔ (d = true ∧ readOk zs es = true ∧ zs.length ≤ 900 ∧ es.length ≤ 1000000 ∧ srt zs = idsN zs.length ∧ (∀ e ∈ es, 0 ≤ e.f2) ∧ s ∈ zs ∧ t ∈ zs ∧ s ≠ t) := by
  unfold flowB
  simp only [Bool.and_eq_true, decide_eq_true_eq, Bool.not_eq_true', decide_eq_false_iff_not, List.all_eq_true]
theorem read_all {zs : List Int} {es : List S29} (h : readOk zs es = true) : es.all (goodE zs) = true := by
  unfold readOk at h
  rw [Bool.and_eq_true] at h
  exact h.2
end Go.Proofs.YthkmblgehdofmaaGreat.R
namespace Go.Proofs.YthkmblgehdofmaaGreat.PL
open Go.RowKit Go.Lab Go.Flow Go.Proofs.YthkmblgehdofmaaGreatW.PrintWords Go.Proofs.YthkmblgehdofmaaGreatW.PrintLast Go.Proofs.YthkmblgehdofmaaGreatW.PrintMore Go.Proofs.YthkmblgehdofmaaGreat.R
def impl_MaxFlow.f (d : Bool) (zs : List Int) (es : List S29) (s t : Int) : Option (Int × Bool) :=
  if flowB d zs es s t = true then (cutBits (arcsL es) zs.length s.toNat t.toNat).min?.map fun F => (F, false) else none
theorem impl_MaxFlow.eq {d : Bool} {zs : List Int} {es : List S29} {n s t : Nat} {F : Int} (h : flowB d zs es s t = true) (hn : zs.length = n) (hF : CutOk n (arcsL es) s t F) : impl_MaxFlow.f d zs es s t = some (F, false) := by
  obtain ⟨rfl, h1, h2, h3, h4, h5, h6, h7, h8⟩ := flowB_iff.1 h
  subst hn
  have hs : (s : Int) ∈ idsN zs.length := by rw [← h4]; exact (mem_srt _ _).2 h6
  have ht : (t : Int) ∈ idsN zs.length := by rw [← h4]; exact (mem_srt _ _).2 h7
  obtain ⟨s', hs', e1⟩ := toI_mem hs
  obtain ⟨t', ht', e2⟩ := toI_mem ht
  have e1 := Int.ofNat.inj e1
  have e2 := Int.ofNat.inj e2
  subst e1 e2
  unfold impl_MaxFlow.f
  rw [if_pos h, Int.toNat_natCast, Int.toNat_natCast, hF.min (cut_arcs h4 (read_all h1)) (List.mem_range.1 hs') (List.mem_range.1 ht')]
  rfl
theorem impl_MaxFlow.calls (d : Bool) (A1 : Option Addr) (c1 : Nat) (l1 : List Int) (A2 : Option Addr) (c2 : Nat) (l2 : List S29) (s t : Int) (r1 : Int) (r2 : Bool) (w : World) (hr1 : Kd.C (Kd.int .i64) w A1 l1.length l1) (hc1 : l1.length ≤ c1) (hr2 : Kd.C k29 w A2 l2.length l2) (hc2 : l2.length ≤ c2) (h : impl_MaxFlow.f d l1 l2 s t = some (r1, r2)) :
    Calls Tryz.prog 9 #[.agg #[.bool d, .slice A1 l1.length c1, .slice A2 l2.length c2], .int .i64 s, .int .i64 t] w fun e w' => e = .returned (.tuple #[.int .i64 r1, .bool r2]) ∧ Below w.heap.size w w' := by
  have hf : flowB d l1 l2 s t = true := by
    unfold impl_MaxFlow.f at h
    split at h
    · assumption
    · cases h
  have hf' := hf
  obtain ⟨rfl, h1, h2, h3, h4, h5, h6, h7, h8⟩ := flowB_iff.1 hf
  have hs : s ∈ idsN l1.length := by rw [← h4]; exact (mem_srt _ _).2 h6
  have ht : t ∈ idsN l1.length := by rw [← h4]; exact (mem_srt _ _).2 h7
  obtain ⟨s', hs', rfl⟩ := toI_mem hs
  obtain ⟨t', ht', rfl⟩ := toI_mem ht
  have hst : s' ≠ t' := fun e => h8 (by rw [e])
  refine (maxflow_any A1 A2 c1 c2 l1 l2 l1.length s' t' w hr1 hr2 h2 h3 h1 h4 h5 (List.mem_range.1 hs') (List.mem_range.1 ht') hst).mono ?_
  rintro e w' ⟨F, rfl, hm, _, _, hb⟩
  rw [← capE_eq] at hm
  have hc := R.MinCut.list (cut_arcs h4 (read_all h1)) hm
  have h9 := impl_MaxFlow.eq hf' rfl hc
  rw [h9] at h
  have e1 := Option.some.inj h
  have e2 : F = r1 := congrArg Prod.fst e1
  have e3 : false = r2 := congrArg Prod.snd e1
  exact ⟨by rw [← e2, ← e3], hb⟩
/-- what impl.MaxFlow answers is a least cut -/
theorem impl_MaxFlow.ok {d : Bool} {zs : List Int} {es : List S29} {n s t : Nat} (h : flowB d zs es s t = true) (hn : zs.length = n) : ∃ F, CutOk n (arcsL es) s t F ∧ impl_MaxFlow.f d zs es s t = some (F, false) := by
  obtain ⟨rfl, h1, h2, h3, h4, h5, h6, h7, h8⟩ := flowB_iff.1 h
  subst hn
  have hs : (s : Int) ∈ idsN zs.length := by rw [← h4]; exact (mem_srt _ _).2 h6
  have ht : (t : Int) ∈ idsN zs.length := by rw [← h4]; exact (mem_srt _ _).2 h7
  obtain ⟨s', hs', e1⟩ := toI_mem hs
  obtain ⟨t', ht', e2⟩ := toI_mem ht
  have e1 := Int.ofNat.inj e1
  have e2 := Int.ofNat.inj e2
  subst e1 e2
  have hsn := List.mem_range.1 hs'
  have htn := List.mem_range.1 ht'
  have hst : t ≠ s := fun e => h8 (by rw [e])
  have hl := cut_arcs h4 (read_all h1)
  have hne : cutBits (arcsL es) zs.length s t ≠ [] := by
    intro e
    have hm : cutL (arcsL es) (bitS (2 ^ s)) ∈ cutBits (arcsL es) zs.length s t := by
      unfold cutBits
      refine List.mem_map.2 ⟨2 ^ s, List.mem_filter.2 ⟨List.mem_range.2 (Nat.pow_lt_pow_right (by omega) hsn), ?_⟩, rfl⟩
      rw [Nat.testBit_two_pow, Nat.testBit_two_pow]
      simp [Ne.symm hst]
    rw [e] at hm
    cases hm
  obtain ⟨F, hF⟩ : ∃ F, (cutBits (arcsL es) zs.length s t).min? = some F := by
    cases hc : cutBits (arcsL es) zs.length s t with
    | nil => exact absurd hc hne
    | cons a l => exact ⟨_, List.min?_cons'⟩
  have hF' := List.min?_eq_some_iff.1 hF
  have hok : CutOk zs.length (arcsL es) s t F := by
    refine ⟨fun S a b => ?_, ?_⟩
    · have hm : cutL (arcsL es) (bitS (setOf S zs.length)) ∈ cutBits (arcsL es) zs.length s t := by
        unfold cutBits
        refine List.mem_map.2 ⟨setOf S zs.length, List.mem_filter.2 ⟨List.mem_range.2 (setOf_lt S _), ?_⟩, rfl⟩
        rw [setOf_bit, setOf_bit, a, b, decide_eq_true hsn, decide_eq_true htn]; rfl
      have := hF'.2 _ hm
      rw [cutL_congr (T := S) (fun x hx => ?_)] at this
      · exact this
      · obtain ⟨a1, a2⟩ := hl x hx
        obtain ⟨x1, hx1, e1⟩ := toI_mem a1
        obtain ⟨y1, hy1, e2⟩ := toI_mem a2
        rw [e1, e2]
        unfold bitS
        rw [Int.toNat_natCast, Int.toNat_natCast, setOf_bit, setOf_bit, decide_eq_true (List.mem_range.1 hx1), decide_eq_true (List.mem_range.1 hy1)]
        exact ⟨Bool.true_and _, Bool.true_and _⟩
    · obtain ⟨a, ha, e⟩ := List.mem_map.1 hF'.1
      obtain ⟨_, ha2⟩ := List.mem_filter.1 ha
      rw [Bool.and_eq_true, Bool.not_eq_true'] at ha2
      exact ⟨bitS a, by unfold bitS; rw [Int.toNat_natCast]; exact ha2.1, by unfold bitS; rw [Int.toNat_natCast]; exact ha2.2, e.symm⟩
  exact ⟨F, hok, impl_MaxFlow.eq h rfl hok⟩
end Go.Proofs.YthkmblgehdofmaaGreat.PL

/- slices.Clone of ints, and of edges, in the printed contracts' form. -/
namespace Go.Proofs.YthkmblgehdofmaaGreat.Q
open Go.RowKit Go.Lab Go.Proofs.YthkmblgehdofmaaGreatW.PrintWords Go.Proofs.YthkmblgehdofmaaGreatW.PrintLast Go.Proofs.YthkmblgehdofmaaGreatW.PrintMore Go.Proofs.YthkmblgehdofmaaGreat.R

set_option maxHeartbeats 1000000 in
theorem cloneI_some (A : Addr) (c : Nat) (xs : List Int) (w : World) (h : Kd.C (Kd.int .i64) w (some A) xs.length xs) (hb : xs.length * 8 ≤ 140737488355328) :
    Calls Tryz.prog 42 #[.slice (some A) xs.length c] w fun e w' => ∃ v', e = .returned v' ∧ w'.ownsRow w.heap.size 3 1 v' xs.length (nums .i64 xs) ∧ Below w.heap.size w w' := by
  have q22 : ∀ (w : World) (a : Option Addr) (n c n' c' : Nat), (binOp .eql 23 (.slice a n c) (.slice none n' c')).run Tryz.prog w = .ok (.bool a.isNone) w := fun w a n c n' c' => Lib.run_eql_slice_nil w _ _ a n c n' c' Tryz.underlying23
  have hcells := C_int_cells h rfl
  have HC := Aside0.mk hcells
  clear hcells
  have h1 : ∀ u ∈ nums .i64 xs, u.oneCell' = true := by intro u hu; obtain ⟨x, _, rfl⟩ := List.mem_map.1 hu; rfl
  have H1 := Aside0.mk h1
  clear h1
  have hn : xs.length ≤ maxLen := by unfold maxLen; omega
  obtain ⟨i0, hi, hz0, hz1, hz2⟩ := info_parts Tryz.info3
  have HL := Aside0.mk (nums_length .i64 xs)
  have HI := Aside0.mk (And.intro hi (And.intro hz0 (And.intro hz1 hz2)))
  clear hi hz0 hz1 hz2 h
  go_enter Tryz.func42, Tryz.ntmps42
  go_wp2_with (at_builtin; refine wpList_append_own _ rfl _ _ 23 rfl w.heap.size 3 i0 (.int .i64 0) 1 8 Tryz.underlying23 HI.out.1 HI.out.2.1 HI.out.2.2.1 HI.out.2.2.2 rfl (by decide) _ _ _ rfl (World.ownsRow_made w #[] 0 (Nat.le_refl _) (Nat.zero_le _) (by simp)) A xs.length c (nums .i64 xs) rfl ?qc1 ?qc2 ?qc3 ?qc4 ?qc5 ?qc6 ?_)
  case qc1 => rw [HL.out]; omega
  case qc2 =>
    intro j u hj
    exact Lib.cell?_alloc_some _ (HC.out j u hj)
  case qc3 => exact H1.out
  case qc4 => rw [Nat.zero_add]; exact hn
  case qc5 => rw [Nat.zero_add]; exact hb
  case qc6 => simp
  intro v' w1 hown hgrow hnil
  go_wp2
  go_ret
  refine ⟨v', rfl, by simpa using hown, ?_⟩
  exact ((Below.refl _ w).alloc (Nat.le_refl _) _).grown hgrow (by simp) (by intro k hk; simp [Value.ownBlock] at hk; omega)

set_option maxHeartbeats 400000 in
theorem cloneI_none (n c : Nat) (w : World) : Calls Tryz.prog 42 #[.slice none n c] w fun e w' => e = .returned (.slice none 0 0) ∧ w = w' := by
  have q22 : ∀ (w : World) (a : Option Addr) (n c n' c' : Nat), (binOp .eql 23 (.slice a n c) (.slice none n' c')).run Tryz.prog w = .ok (.bool a.isNone) w := fun w a n c n' c' => Lib.run_eql_slice_nil w _ _ a n c n' c' Tryz.underlying23
  go_enter Tryz.func42, Tryz.ntmps42
  go_wp2
  go_ret
  exact ⟨rfl, rfl⟩

/-- slices.Clone at int, of a slice that is read -/
theorem cloneI_any (A : Option Addr) (c : Nat) (xs : List Int) (w : World) (h : Kd.C (Kd.int .i64) w A xs.length xs) (hb : xs.length ≤ 100000) :
    Calls Tryz.prog 42 #[.slice A xs.length c] w fun e w' => ∃ v', e = .returned v' ∧ w'.ownsRow w.heap.size 3 1 v' xs.length (nums .i64 xs) ∧ Below w.heap.size w w' := by
  cases A with
  | none =>
    refine (cloneI_none _ _ w).mono ?_
    rintro e w' ⟨rfl, rfl⟩
    have h0 : xs.length = 0 := by
      rcases Nat.eq_zero_or_pos xs.length with h0 | h0
      · exact h0
      · obtain ⟨ad, e, _⟩ := h.2.2 h0; cases e
    have hx : xs = [] := List.eq_nil_of_length_eq_zero h0
    subst hx
    exact ⟨_, rfl, World.ownsRow_nil _ _ _ _, Below.refl _ _⟩
  | some ad => exact cloneI_some ad c xs w h (by omega)

theorem R_of_ints {w : World} {base : Nat} {e : TypeId} {v : Value} {xs : List Int} (h : w.ownsRow base e 1 v xs.length (nums .i64 xs)) : Kd.R (Kd.int .i64) e w base (fun _ => True) v xs := by
  refine ⟨fun _ _ => trivial, nums .i64 xs, h, by rw [nums_length]; exact (Nat.mul_one _).symm, fun j p hj => ?_⟩
  show List.take 1 (List.drop (j * 1) (nums .i64 xs)) = [.int .i64 p]
  obtain ⟨hl, rfl⟩ := List.getElem?_eq_some_iff.1 hj
  rw [Nat.mul_one, List.drop_eq_getElem_cons (by rw [nums_length]; exact hl)]
  simp [nums]

theorem Tryz.info29 : (Tryz.prog.info? 29).map (fun i => (i.zero, i.size, i.bytes)) = some (some (.agg #[(.int .i64 0), (.int .i64 0), (.int .i64 0)]), 3, 24) := by kernel_rfl
end Go.Proofs.YthkmblgehdofmaaGreat.Q
namespace Go.Proofs.YthkmblgehdofmaaGreat.PL
open Go.RowKit Go.Lab Go.Proofs.YthkmblgehdofmaaGreatW.PrintWords Go.Proofs.YthkmblgehdofmaaGreatW.PrintLast Go.Proofs.YthkmblgehdofmaaGreatW.PrintMore Go.Proofs.YthkmblgehdofmaaGreat.Q
end Go.Proofs.YthkmblgehdofmaaGreat.PL

/- slices.ContainsFunc of edges, at the closures of two laws. -/
namespace Go.Proofs.YthkmblgehdofmaaGreat.R
open Go.RowKit Go.Lab Go.Maps Go.Proofs.YthkmblgehdofmaaGreatW.PrintWords Go.Proofs.YthkmblgehdofmaaGreatW.PrintLast Go.Proofs.YthkmblgehdofmaaGreatW.PrintMore PL

def idxB {α : Type} (p : α → Bool) (l : List α) : Int := match l.findIdx? p with | some i => (i : Int) | none => -1
theorem idxB_none {α : Type} (p : α → Bool) (l : List α) (h : l.any p = false) : idxB p l = -1 := by
  unfold idxB
  rw [List.findIdx?_eq_none_iff.2 (fun x hx => by simpa using (List.any_eq_false.1 h) x hx)]
theorem idxB_at {α : Type} (p : α → Bool) (l : List α) (k : Nat) (hk : k < l.length) (h : (l.take k).any p = false) (hp : p l[k] = true) : idxB p l = (k : Int) := by
  unfold idxB
  have : l.findIdx? p = some k := by
    rw [List.findIdx?_eq_some_iff_getElem]
    refine ⟨hk, hp, fun j hj => ?_⟩
    have := (List.any_eq_false.1 h) l[j] (by rw [List.mem_take_iff_getElem]; exact ⟨j, by omega, rfl⟩)
    simpa using this
  rw [this]
theorem idxB_ge {α : Type} (p : α → Bool) (l : List α) : decide (idxB p l ≥ 0) = l.any p := by
  unfold idxB
  cases h : l.findIdx? p with
  | none =>
    have : l.any p = false := List.any_eq_false.2 (fun x hx => by simpa using (List.findIdx?_eq_none_iff.1 h) x hx)
    rw [this]; rfl
  | some i =>
    obtain ⟨hi, hp, _⟩ := List.findIdx?_eq_some_iff_getElem.1 h
    rw [show l.any p = true from List.any_eq_true.2 ⟨l[i], List.getElem_mem hi, hp⟩]
    exact decide_eq_true (show (i : Int) ≥ 0 by omega)

def pB55(h : S29) : Bool := decide (h.f2 < 0)
set_option maxHeartbeats 1000000 in
theorem c55_any (h : S29) (w : World) : Calls Tryz.prog 55 #[.agg #[.int .i64 h.f0, .int .i64 h.f1, .int .i64 h.f2]] w fun r w' => r = .returned (.bool (pB55 h)) ∧ Below w.heap.size w w' := by
  have hb1 : Below w.heap.size w (w.alloc (.cells #[.int .i64 h.f0, .int .i64 h.f1, .int .i64 h.f2] 29)) := (Below.refl _ _).alloc (Nat.le_refl _) _
  have HB := Aside0.mk hb1
  have HP := Aside0.mk (show pB55 h = decide (h.f2 < 0) from rfl)
  clear hb1
  go_enter Tryz.func55, Tryz.ntmps55
  go_wp2
  go_ret
  exact ⟨by first | rfl | (rw [HP.out]; simp), HB.out⟩
set_option maxHeartbeats 4000000 in
set_option maxRecDepth 100000 in
theorem idx36_55 (X : Option Addr) (cx : Nat) (xs : List S29) (w : World) (hX : Kd.C k29 w X xs.length xs) (hn : xs.length ≤ 1000000) :
    Calls Tryz.prog 36 #[.slice X xs.length cx, .func (.func 55) #[] #[]] w fun r w' => r = .returned (.int .i64 (idxB pB55 xs)) ∧ Below w.heap.size w w' := by
  have HC := Aside0.mk hX
  clear hX
  go_enter Tryz.func36, Tryz.ntmps36
  go_wp2
  go_loopw [8] (fun i wr => ∃ k : Nat, k ≤ xs.length ∧ i = .int .i64 k ∧ Aside0 ((xs.take k).any pB55 = false ∧ Below w.heap.size w wr)) (fun i _ => xs.length - (intOf i).toNat)
  case atStart => exact ⟨0, Nat.zero_le _, rfl, ⟨rfl, Below.refl _ _⟩⟩
  case round =>
    obtain ⟨k, hk, rfl, HR⟩ := hrel
    by_cases hlt : k < xs.length
    · obtain ⟨ad, rfl, hc0, hc1, hc2⟩ := at_T29 (Kd.C_below HC.out HR.out.2) (k : Int) (by omega) (by omega)
      rw [Int.toNat_natCast] at hc0 hc1 hc2
      have hrd : rd_T29 xs (k : Int) = xs[k] := by unfold rd_T29; simp [List.getD_eq_getElem?_getD, hlt]
      have HRD := Aside0.mk hrd
      have HTS := Aside0.mk (show xs.take (k + 1) = xs.take k ++ [rd_T29 xs (k : Int)] by rw [hrd]; exact List.take_succ_eq_append_getElem hlt)
      clear hrd
      generalize rd_T29 xs (k : Int) = b at hc0 hc1 hc2 HTS HRD
      obtain ⟨q, hq⟩ : ∃ q, pB55 b = q := ⟨_, rfl⟩
      have HQ := Aside0.mk hq
      clear hq
      cases q with
      | true =>
        go_wp2_with (go_at_call 55; refine (c55_any b _).mono ?_; rintro e w1 ⟨rfl, hb1⟩; rw [HQ.out]; have HB1 := Aside0.mk hb1; clear hb1)
        go_ret
        refine ⟨?_, HR.out.2.trans (HB1.out.mono HR.out.2.size)⟩
        rw [idxB_at pB55 xs k hlt HR.out.1 (by rw [← HRD.out]; exact HQ.out)]; rfl
      | false =>
        go_wp2_with (go_at_call 55; refine (c55_any b _).mono ?_; rintro e w1 ⟨rfl, hb1⟩; rw [HQ.out]; have HB1 := Aside0.mk hb1; clear hb1)
        go_roundw
        case rel => exact ⟨k + 1, by omega, by go_num, ⟨by rw [HTS.out, List.any_append, HR.out.1, List.any_cons, HQ.out]; rfl, HR.out.2.trans (HB1.out.mono HR.out.2.size)⟩⟩
        case measure => simp [intOf]; omega
    · have hke : k = xs.length := by omega
      have HF := Aside0.mk (show idxB pB55 xs = -1 from idxB_none _ _ (by have := HR.out.1; rw [hke, List.take_length] at this; exact this))
      have HK := Aside0.mk hke
      clear hke
      go_wp2
      go_ret
      exact ⟨by rw [HF.out]; rfl, HR.out.2⟩
theorem cf19_55 (X : Option Addr) (cx : Nat) (xs : List S29) (w : World) (hX : Kd.C k29 w X xs.length xs) (hn : xs.length ≤ 1000000) :
    Calls Tryz.prog 19 #[.slice X xs.length cx, .func (.func 55) #[] #[]] w fun r w' => r = .returned (.bool (xs.any pB55)) ∧ Below w.heap.size w w' := by
  have HA := Aside0.mk (idx36_55 X cx xs w hX hn)
  have HG := Aside0.mk (idxB_ge pB55 xs)
  clear hX
  obtain ⟨q, hq⟩ : ∃ q, idxB pB55 xs = q := ⟨_, rfl⟩
  rw [hq] at HA HG
  clear hq
  go_enter Tryz.func19, Tryz.ntmps19
  go_wp2_with (go_at_call 36; refine HA.out.mono ?_; rintro e w1 ⟨rfl, hb1⟩; have HB := Aside0.mk hb1; clear hb1)
  go_ret
  exact ⟨by rw [← HG.out]; rfl, HB.out⟩

theorem own_from {w : World} {base : Nat} {e : TypeId} {size n : Nat} {v : Value} {xs : List Value} (h : w.ownsRow base e size v n xs) {k : Nat} (hk : v.ownBlock = some k) : base ≤ k := by
  rcases h.2 with ⟨e2, _⟩ | ⟨g', cap, cu, e2, hg, _⟩
  · rw [e2] at hk; cases hk
  · rw [e2] at hk
    have : g' = k := Option.some.inj hk
    omega
theorem own_lower {w : World} {base base' : Nat} {e : TypeId} {size n : Nat} {v : Value} {xs : List Value} (h : w.ownsRow base e size v n xs) (hb : base' ≤ base) : w.ownsRow base' e size v n xs := by
  refine ⟨h.1, ?_⟩
  rcases h.2 with h0 | ⟨g, cap, cu, h1, h2, h3⟩
  · exact .inl h0
  · exact .inr ⟨g, cap, cu, h1, Nat.le_trans hb h2, h3⟩
set_option maxHeartbeats 1000000 in
theorem sunk_any (d : Bool) (A1 A2 : Option Addr) (c1 c2 n1 : Nat) (es : List S29) (w : World) (hE : Kd.C k29 w A2 es.length es) (he : es.length ≤ 1000000) :
    Calls Tryz.prog 35 #[.agg #[.bool d, .slice A1 n1 c1, .slice A2 es.length c2]] w fun r w' => r = .returned (.bool (es.any pB55)) ∧ Below w.heap.size w w' := by
  have hb1 : Below w.heap.size w (w.alloc (.cells #[.bool d, .slice A1 n1 c1, .slice A2 es.length c2] 26)) := (Below.refl _ _).alloc (Nat.le_refl _) _
  have HE := Aside0.mk (Kd.C_below hE hb1)
  have HB := Aside0.mk hb1
  clear hE hb1
  go_enter Tryz.func35, Tryz.ntmps35
  go_wp2_with (go_at_call 19; refine (cf19_55 A2 c2 es _ HE.out he).mono ?_; rintro e w1 ⟨rfl, hb1⟩; have HB1 := Aside0.mk hb1; clear hb1)
  go_ret
  exact ⟨rfl, HB.out.trans (HB1.out.mono (by simp))⟩
set_option maxHeartbeats 1000000 in
theorem nodesOf_any (d : Bool) (A1 A2 : Option Addr) (c1 c2 n2 : Nat) (zs : List Int) (w : World) (hN : Kd.C (Kd.int .i64) w A1 zs.length zs) (hn : zs.length ≤ 100000) :
    Calls Tryz.prog 27 #[.agg #[.bool d, .slice A1 zs.length c1, .slice A2 n2 c2]] w fun r w' => ∃ v, r = .returned v ∧ w'.ownsRow w.heap.size 3 1 v zs.length (nums .i64 (srt zs)) ∧ Below w.heap.size w w' := by
  have hb1 : Below w.heap.size w (w.alloc (.cells #[.bool d, .slice A1 zs.length c1, .slice A2 n2 c2] 26)) := (Below.refl _ _).alloc (Nat.le_refl _) _
  have HN := Aside0.mk (Kd.C_below hN hb1)
  have HB := Aside0.mk hb1
  clear hN hb1
  go_enter Tryz.func27, Tryz.ntmps27
  go_wp2_with (first
    | (go_at_call 42; refine (Q.cloneI_any A1 c1 zs _ HN.out hn).mono ?_; rintro e w1 ⟨v, rfl, ho, hb1⟩; have H1 := Aside0.mk (And.intro ho hb1); clear ho hb1)
    | (go_at_call 43; refine (Q.sort_own _ v zs _ H1.out.1 hn).mono ?_; rintro e w2 ⟨rfl, ho, hg⟩; have H2 := Aside0.mk (And.intro ho hg); clear ho hg))
  go_ret
  refine ⟨_, rfl, own_lower H2.out.1 (by simp), ?_⟩
  exact ((HB.out.trans (H1.out.2.mono (by simp))).grown H2.out.2 (by have := H1.out.2.size; simp at this; omega) (fun k hk => by
    have := own_from H1.out.1 hk
    simp at this
    omega))
end Go.Proofs.YthkmblgehdofmaaGreat.R
namespace Go.Proofs.YthkmblgehdofmaaGreat.PL
open Go.RowKit Go.Lab Go.Proofs.YthkmblgehdofmaaGreatW.PrintWords Go.Proofs.YthkmblgehdofmaaGreatW.PrintLast Go.Proofs.YthkmblgehdofmaaGreatW.PrintMore Go.Proofs.YthkmblgehdofmaaGreat.R Go.Proofs.YthkmblgehdofmaaGreat.Q
def laws_sunk.f (d : Bool) (l1 : List Int) (l2 : List S29) : Option Bool := if l2.length ≤ 1000000 then some (l2.any pB55) else none
theorem laws_sunk.calls (d : Bool) (A1 : Option Addr) (c1 : Nat) (l1 : List Int) (A2 : Option Addr) (c2 : Nat) (l2 : List S29) (r : Bool) (w : World) (hr1 : Kd.C (Kd.int .i64) w A1 l1.length l1) (hc1 : l1.length ≤ c1) (hr2 : Kd.C k29 w A2 l2.length l2) (hc2 : l2.length ≤ c2) (h : laws_sunk.f d l1 l2 = some r) :
    Calls Tryz.prog 35 #[.agg #[.bool d, .slice A1 l1.length c1, .slice A2 l2.length c2]] w fun e w' => e = .returned (.bool r) ∧ Below w.heap.size w w' := by
  unfold laws_sunk.f at h
  split at h
  · injection h with h
    subst h
    exact sunk_any d A1 A2 c1 c2 _ l2 w hr2 (by assumption)
  · cases h
def laws_nodesOf.f (d : Bool) (l1 : List Int) (l2 : List S29) : Option (List Int) := if l1.length ≤ 100000 then some (srt l1) else none
theorem laws_nodesOf.calls (d : Bool) (A1 : Option Addr) (c1 : Nat) (l1 : List Int) (A2 : Option Addr) (c2 : Nat) (l2 : List S29) (r : List Int) (w : World) (hr1 : Kd.C (Kd.int .i64) w A1 l1.length l1) (hc1 : l1.length ≤ c1) (hr2 : Kd.C k29 w A2 l2.length l2) (hc2 : l2.length ≤ c2) (h : laws_nodesOf.f d l1 l2 = some r) :
    Calls Tryz.prog 27 #[.agg #[.bool d, .slice A1 l1.length c1, .slice A2 l2.length c2]] w fun e w' => ∃ v0_ : Value, e = .returned v0_ ∧ Kd.R (Kd.int .i64) 3 w' w.heap.size (fun _ => True) v0_ r ∧ Below w.heap.size w w' := by
  unfold laws_nodesOf.f at h
  split at h
  · injection h with h
    subst h
    refine (nodesOf_any d A1 A2 c1 c2 _ l1 w hr1 (by assumption)).mono ?_
    rintro e w' ⟨v, rfl, ho, hb⟩
    exact ⟨v, rfl, R_of_ints (by rw [srt_length]; exact ho), hb⟩
  · cases h
end Go.Proofs.YthkmblgehdofmaaGreat.PL
