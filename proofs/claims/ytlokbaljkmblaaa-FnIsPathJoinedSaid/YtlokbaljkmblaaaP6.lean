import Derived.Test.YtlokbaljkmblaaaP5
import Derived.Deep.AppendLies
import Derived.Test.YtlokbaljkmblaaaLa
import Derived.Deep.Cut
import Derived.Deep.RegionHeld3
namespace Go.Proofs.Ytlokbaljkmblaaa
open Go.RowKit Go.Lab Go.Proofs.YtlokbaljkmblaaaW.PrintWords Go.Proofs.YtlokbaljkmblaaaW.PrintLast Go.Proofs.YtlokbaljkmblaaaW.PrintMore PFnIsPathJoined

/-- what the law's boxed graph and the old world look like later on -/
structure Lw (w wr : World) (d : Bool) (s1 s2 : Value) : Prop where
  bel : Below w.heap.size w wr
  g : wr.heap[w.heap.size]? = some (.cells #[.bool d, s1, s2] 25 (0, 0))

theorem Lw.below {w wr w1 : World} {d : Bool} {s1 s2 : Value} (h : Lw w wr d s1 s2) (hb : Below wr.heap.size wr w1) : Lw w w1 d s1 s2 :=
  ⟨h.bel.trans (hb.mono h.bel.size), (hb.block _ (blk_lt h.g)).trans h.g⟩
theorem Lw.draw {w wr : World} {d : Bool} {s1 s2 : Value} (h : Lw w wr d s1 s2) : Lw w wr.drew d s1 s2 := h.below ⟨rfl, rfl, rfl, Nat.le_refl _, fun _ _ => rfl⟩
theorem Lw.alloc {w wr : World} {d : Bool} {s1 s2 : Value} (h : Lw w wr d s1 s2) (o : Obj) : Lw w (wr.alloc o) d s1 s2 := h.below ((Below.refl _ _).alloc (Nat.le_refl _) _)
theorem Lw.grown {w wr w1 : World} {d : Bool} {s1 s2 : Value} (h : Lw w wr d s1 s2) {row : Option Nat} (hg : wr.grownBy w1 row) (hr : ∀ k, row = some k → w.heap.size < k) : Lw w w1 d s1 s2 :=
  ⟨h.bel.grown hg h.bel.size (fun k hk => Nat.le_of_lt (hr k hk)), (hg.block _ (blk_lt h.g) (fun e => by have := hr _ e.symm; omega)).trans h.g⟩

theorem news_later {W w3 : World} {x : Value} {t : TypeId} (h : Below (W.alloc (.cells #[x] t)).drew.heap.size (W.alloc (.cells #[x] t)).drew w3) : ∀ j u, [x][j]? = some u → w3.cell? ((⟨W.heap.size, 0, none⟩ : Addr).add j) = some u := by
  intro j u hj
  have hh : w3.heap[W.heap.size]? = some (.cells #[x] t (0, 0)) := (h.block _ (by show W.heap.size < (W.alloc _).heap.size; simp)).trans (heap_alloc_new _ _)
  rw [add_plain, cell_of_row w3 _ j _ _ _ hh]
  simpa using hj

theorem Lw.cells {w wr : World} {d : Bool} {s1 s2 : Value} (h : Lw w wr d s1 s2) : wr.cell? ⟨w.heap.size, 0, none⟩ = some (.bool d) ∧ wr.cell? ⟨w.heap.size, 1, none⟩ = some s1 ∧ wr.cell? ⟨w.heap.size, 2, none⟩ = some s2 :=
  ⟨by rw [blk_cell h.g]; rfl, by rw [blk_cell h.g]; rfl, by rw [blk_cell h.g]; rfl⟩

theorem zz_any (d : Bool) (A1 A2 : Option Addr) (c1 c2 : Nat) (zs : List Int) (es : List S42) (w : World)
    (hN : Kd.C (Kd.int .i64) w A1 zs.length zs) (hE : Kd.C k42 w A2 es.length es) (hcn : zs.length ≤ c1) (hce : es.length ≤ c2) :
    Calls Try.prog 4 #[.agg #[.bool d, .slice A1 zs.length c1, .slice A2 es.length c2]] w fun e w' => e = .returned (.bool (decide (zs.length ≤ 2147483647) && decide (es.length ≤ 2147483647))) ∧ Below w.heap.size w w' := by
  refine laws_zzFits1.calls d A1 c1 zs A2 c2 es _ w hN hcn hE hce ?_
  unfold laws_zzFits1.f
  by_cases h1 : zs.length ≤ 2147483647
  · rw [if_neg (by omega), decide_eq_true h1]
    by_cases h2 : es.length ≤ 2147483647
    · rw [if_neg (by omega), decide_eq_true h2]; rfl
    · rw [if_pos (by omega), decide_eq_false h2]; rfl
  · rw [if_pos (by omega), decide_eq_false h1]; rfl

theorem C_of_own {w : World} {base n c : Nat} {e : TypeId} {A : Option Addr} {xs : List Int} (h : w.ownsRow base e 1 (.slice A n c) n (nums .i64 xs)) (hl : xs.length = n) : Kd.C (Kd.int .i64) w A n xs := by
  obtain ⟨A', c', hv, hr⟩ := own_reads h
  injection hv with e1 e2 e3
  subst e1
  subst hl
  exact Kd.C_of_reads hr

theorem src_of {w : World} {A : Option Addr} {n : Nat} {k : IntKind} {xs : List Int} (h : Kd.C (Kd.int k) w A n xs) : 0 < n → ∃ ad, A = some ad ∧ ∀ j u, (nums k xs)[j]? = some u → w.cell? (ad.add j) = some u := by
  intro h0
  obtain ⟨ad, e, _⟩ := h.2.2 h0
  exact ⟨ad, e, C_int_cells h e⟩

theorem nums_one {k : IntKind} (xs : List Int) : ∀ u ∈ nums k xs, u.oneCell' = true := by
  intro u hu
  obtain ⟨x, _, rfl⟩ := List.mem_map.1 hu
  rfl

theorem one_lit (w : World) (x : Int) {base : Nat} (hb : base ≤ w.heap.size) : (w.alloc (.cells #[.int .i64 x] 3)).ownsRow base 3 1 (.slice (some ⟨w.heap.size, 0, none⟩) 1 1) 1 (nums .i64 [x]) :=
  World.ownsRow_lit w #[.int .i64 x] 1 hb (by unfold maxLen; omega) (by simp)

theorem isPath_len (n : Nat) (d : Bool) (A1 A2 A3 : Option Addr) (c1 c2 c3 : Nat) (zs : List Int) (es : List S42) (xs : List Int) (w : World) (hl : xs.length = n)
    (hN : Kd.C (Kd.int .i64) w A1 zs.length zs) (hE : Kd.C k42 w A2 es.length es) (hX : Kd.C (Kd.int .i64) w A3 n xs) (hn : zs.length ≤ 1000) (he : es.length ≤ 1000000) (hx : n ≤ 1000) (hok : readOk zs es = true) (r : Bool) (hr : (plOf d zs es).path xs = r) :
    Calls Try.prog 6 #[.agg #[.bool d, .slice A1 zs.length c1, .slice A2 es.length c2], .slice A3 n c3] w fun e w' => e = .returned (.tuple #[.bool r, .bool false]) ∧ Below w.heap.size w w' := by
  subst hl hr
  exact isPath_any d A1 A2 A3 c1 c2 c3 zs es xs w hN hE hX hn he hx hok

theorem from_append (p : Pl) (x : Int) : ∀ (la lb : List Int), p.from_ (la ++ x :: lb) = (p.from_ (la ++ [x]) && p.from_ (x :: lb))
  | [], lb => by simp [Pl.from_]
  | [a], lb => by simp [Pl.from_]
  | a :: b :: r, lb => by
    have ih := from_append p x (b :: r) lb
    simp only [List.cons_append] at ih ⊢
    rw [from_cons, from_cons, ih, Bool.and_assoc]

theorem has_ids {p : Pl} {x y : Int} (h : p.has x y = true) : x ∈ p.ids ∧ y ∈ p.ids := by
  unfold Pl.has Pl.find at h
  split at h
  · rename_i hh; exact ⟨hh.1, hh.2.1⟩
  · cases h

/-- two lists, joined at a node -/
theorem path_join (p : Pl) (la lb : List Int) (x : Int) : (p.path (la ++ [x]) && p.path ([x] ++ lb)) = p.path (la ++ [x] ++ lb) := by
  have h1 : ∀ (xs : List Int), xs.length ≠ 1 → p.path xs = p.from_ xs := by
    intro xs hx
    unfold Pl.path
    match xs, hx with
    | [], _ => rfl
    | [_], hx => exact absurd rfl hx
    | _ :: _ :: _, _ => rfl
  rw [List.append_assoc]
  show (p.path (la ++ [x]) && p.path (x :: lb)) = p.path (la ++ x :: lb)
  match la, lb with
  | [], [] => simp
  | [], y :: r =>
    rw [List.nil_append, List.nil_append, h1 (x :: y :: r) (by simp)]
    show (decide (x ∈ p.ids) && _) = _
    rw [from_cons]
    cases hh : p.has x y with
    | false => simp
    | true => simp [(has_ids hh).1]
  | a :: r, [] =>
    rw [h1 (a :: r ++ [x]) (by simp)]
    show (_ && decide (x ∈ p.ids)) = _
    have hx : p.from_ (a :: r ++ [x]) = true → x ∈ p.ids := by
      have : ∀ (r : List Int) (a : Int), p.from_ (a :: (r ++ [x])) = true → x ∈ p.ids := by
        intro r
        induction r with
        | nil => intro a h; rw [List.nil_append, from_cons, Bool.and_eq_true] at h; exact (has_ids h.1).2
        | cons b r ih => intro a h; rw [List.cons_append, from_cons, Bool.and_eq_true] at h; exact ih b h.2
      exact this r a
    cases hh : p.from_ (a :: r ++ [x]) with
    | false => rfl
    | true => simp [hx hh]
  | a :: r, y :: t =>
    rw [h1 (a :: r ++ [x]) (by simp), h1 (x :: y :: t) (by simp), h1 (a :: r ++ x :: y :: t) (by simp)]
    exact (from_append p x (a :: r) (y :: t)).symm

set_option maxHeartbeats 8000000 in
set_option maxRecDepth 100000 in
theorem law_main (d : Bool) (A1 A2 A3 A4 : Option Addr) (c1 c2 c3 c4 : Nat) (zs : List Int) (es : List S42) (la lb : List Int) (x : Int) (w : World)
    (hN : Kd.C (Kd.int .i64) w A1 zs.length zs) (hE : Kd.C k42 w A2 es.length es) (hA : Kd.C (Kd.int .i64) w A3 la.length la) (hB : Kd.C (Kd.int .i64) w A4 lb.length lb)
    (hc1 : zs.length ≤ c1) (hc2 : es.length ≤ c2) (hf : fewOk 40 zs es = true) (hla : la.length ≤ 30) (hlb : lb.length ≤ 30) :
    Calls Try.prog 3 #[.agg #[.bool d, .slice A1 zs.length c1, .slice A2 es.length c2], .slice A3 la.length c3, .slice A4 lb.length c4, .int .i64 x] w fun e w' => e = .returned (.bool true) ∧ Below w.heap.size w w' := by
  have hb1 : Below w.heap.size w (w.alloc (.cells #[.bool d, .slice A1 zs.length c1, .slice A2 es.length c2] 25)) := (Below.refl _ _).alloc (Nat.le_refl _) _
  have hf0 := hf
  unfold fewOk at hf
  simp only [Bool.and_eq_true, decide_eq_true_eq] at hf
  obtain ⟨⟨hz40, he320⟩, hro⟩ := hf
  have hro1 := hro
  unfold readOk at hro1
  rw [Bool.and_eq_true] at hro1
  have HRO := Aside0.mk hro
  have HF := Aside0.mk hf0
  have HN := Aside0.mk hN
  have HE := Aside0.mk hE
  have HA := Aside0.mk hA
  have HB := Aside0.mk hB
  have HZ := Aside0.mk (show (decide (zs.length ≤ 2147483647) && decide (es.length ≤ 2147483647)) = true by rw [decide_eq_true (by omega), decide_eq_true (by omega)]; rfl)
  have HL0 := Aside0.mk (show Lw w (w.alloc (.cells #[.bool d, .slice A1 zs.length c1, .slice A2 es.length c2] 25)) d (.slice A1 zs.length c1) (.slice A2 es.length c2) from ⟨hb1, heap_alloc_new _ _⟩)
  obtain ⟨i0, hi, hz0, hz1, hz2⟩ := info_parts Try.info3
  have HI := Aside0.mk (And.intro hi (And.intro hz0 (And.intro hz1 hz2)))
  have g1 : ¬ ((2147483647 : Int) < (la.length : Int)) := by omega
  have g2 : ¬ ((2147483647 : Int) < (lb.length : Int)) := by omega
  have g3 : ¬ ((30 : Int) < (la.length : Int)) := by omega
  have g4 : ¬ ((30 : Int) < (lb.length : Int)) := by omega
  clear hN hE hA hB hb1 hf0 hro hro1 hi hz0 hz1 hz2
  go_enter Try.func3, Try.ntmps3
  go_wp2_with fail
  refine (zz_any d A1 A2 c1 c2 zs es _ (Kd.C_below HN.out HL0.out.bel) (Kd.C_below HE.out HL0.out.bel) hc1 hc2).mono ?_
  rintro e w1 ⟨rfl, hbel⟩
  rw [HZ.out]
  have HL1 := Aside0.mk (HL0.out.below hbel)
  clear hbel HL0
  obtain ⟨q0, q1, q2⟩ := HL1.out.cells
  go_wp2_with fail
  refine (few_any 40 (by omega) d A1 A2 c1 c2 zs es _ (Kd.C_below HN.out HL1.out.bel) (Kd.C_below HE.out HL1.out.bel) hc1).mono ?_
  rintro e w2 ⟨rfl, hbel⟩
  rw [HF.out]
  have HL2 := Aside0.mk (HL1.out.below hbel)
  clear hbel HL1 q0 q1 q2
  obtain ⟨r1, hr1⟩ : ∃ r, (plOf d zs es).path (la ++ [x]) = r := ⟨_, rfl⟩
  have HR1 := Aside0.mk hr1
  clear hr1
  have hla1 : (la ++ [x]).length = la.length + 1 := by simp
  have HLA := Aside0.mk hla1
  clear hla1
  go_upto_region 5 with fail
  go_cut [9, 10] from 17 (fun s9 s10 w' => s9 = .bool r1 ∧ s10 = .bool false ∧ Aside0 (Lw w w' d (.slice A1 zs.length c1) (.slice A2 es.length c2)))
  case first =>
    obtain ⟨q0, q1, q2⟩ := HL2.out.cells
    have hq := blk_lt HL2.out.g
    go_region_held3 (fun w' => w'.cell? ⟨w.heap.size, 0, none⟩ = some (.bool d) ∧ w'.cell? ⟨w.heap.size, 1, none⟩ = some (.slice A1 zs.length c1) ∧ w'.cell? ⟨w.heap.size, 2, none⟩ = some (.slice A2 es.length c2))
      (first | exact HL5.cells | exact HL4.cells | exact HL3.cells | exact (HL2.out.alloc _).draw.cells | exact HL2.out.draw.cells | go_keep)
      (first
        | (refine step_append_lies _ (by rfl) _ _ _ (by rfl) w.heap.size 3 i0 _ 1 8 Try.underlying22 HI.out.1 HI.out.2.1 HI.out.2.2.1 HI.out.2.2.2 rfl (by omega) v la.length (nums .i64 la) (by rfl) (by exact own_weaken hown (by have := HL2.out.bel.size; simp; omega)) ⟨w2.heap.size, 0, none⟩ 1 1 [.int .i64 x] (by rfl) (by rfl) (by exact news_later hbel) (by simp [Value.oneCell']) (by omega) (by unfold maxLen; omega) (by omega) (by exact HL3.bel.size) _ rfl ?_; intro gg cap w4 hown4 hgr4 hat4 hlt4; replace hown4 : w4.ownsRow w.heap.size 3 1 (.slice (some ⟨gg, 0, none⟩) (la.length + 1) cap) (la.length + 1) (nums .i64 (la ++ [x])) := (by rw [nums_append]; exact hown4); have HL4 : Lw w w4 d (.slice A1 zs.length c1) (.slice A2 es.length c2) := (by exact HL3.grown hgr4 (fun k hk => by have h1 := own_base hown k hk; have h2 := HL2.out.bel.size; have h3 := blk_lt HL2.out.g; simp at h1; omega)))
        | (refine step_append_lies _ (by rfl) _ _ _ (by rfl) w.heap.size 3 i0 _ 1 8 Try.underlying22 HI.out.1 HI.out.2.1 HI.out.2.2.1 HI.out.2.2.2 rfl (by omega) v la.length (nums .i64 la) (by rfl) (by exact (own_weaken hown (by have := HL2.out.bel.size; simp; omega)).alloc _) ⟨w3.heap.size, 0, none⟩ 1 1 [.int .i64 x] (by rfl) (by rfl) (by exact cell_one_new _ _ _) (by simp [Value.oneCell']) (by omega) (by unfold maxLen; omega) (by omega) (by have := HL3.bel.size; simp; omega) _ rfl ?_; intro gg cap w4 hown4 hgr4 hat4 hlt4; replace hown4 : w4.ownsRow w.heap.size 3 1 (.slice (some ⟨gg, 0, none⟩) (la.length + 1) cap) (la.length + 1) (nums .i64 (la ++ [x])) := (by rw [nums_append]; exact hown4); have HL4 : Lw w w4 d (.slice A1 zs.length c1) (.slice A2 es.length c2) := (by exact (HL3.alloc _).grown hgr4 (fun k hk => by have h1 := own_base hown k hk; have h2 := HL2.out.bel.size; have h3 := blk_lt HL2.out.g; simp at h1; omega)))
        | (go_at_call 7; refine (cloneI_any A3 c3 la _ (by first | exact Kd.C_below HA.out HL2.out.draw.bel | exact Kd.C_below HA.out (HL2.out.alloc _).draw.bel) (by omega)).mono ?_; rintro e w3 ⟨v, rfl, hown, hbel⟩; have HL3 : Lw w w3 d (.slice A1 zs.length c1) (.slice A2 es.length c2) := by (first | exact HL2.out.draw.below hbel | exact (HL2.out.alloc _).draw.below hbel))
        | (go_at_call 6; refine (isPath_len (la.length + 1) d A1 A2 (some ⟨gg, 0, none⟩) c1 c2 cap zs es (la ++ [x]) _ HLA.out (Kd.C_below HN.out HL4.bel) (Kd.C_below HE.out HL4.bel) (C_of_own hown4 HLA.out) (by omega) (by omega) (by omega) HRO.out r1 HR1.out).mono ?_; rintro e w5 ⟨rfl, hbel5⟩; have HL5 := HL4.below hbel5))
    all_goals
      go_wp2
      go_meet
      case rel => exact ⟨rfl, rfl, ⟨HL5⟩⟩
  case rest =>
    obtain ⟨rfl, rfl, HLX⟩ := hcut
    clear HL2
    obtain ⟨r2, hr2⟩ : ∃ r, (plOf d zs es).path ([x] ++ lb) = r := ⟨_, rfl⟩
    have HR2 := Aside0.mk hr2
    clear hr2
    have hlb1 : ([x] ++ lb).length = lb.length + 1 := by simp
    have HLB := Aside0.mk hlb1
    clear hlb1
    go_upto_region 6 with fail
    obtain ⟨wx, rfl⟩ : ∃ wx : World, wx = wc := ⟨_, rfl⟩
    go_cut [11, 12] from 17 (fun s9 s10 w' => s9 = .bool r2 ∧ s10 = .bool false ∧ Aside0 (Lw w w' d (.slice A1 zs.length c1) (.slice A2 es.length c2)))
    case first =>
      obtain ⟨q0, q1, q2⟩ := HLX.out.cells
      have hq := blk_lt HLX.out.g
      go_region_held3 (fun w' => w'.cell? ⟨w.heap.size, 0, none⟩ = some (.bool d) ∧ w'.cell? ⟨w.heap.size, 1, none⟩ = some (.slice A1 zs.length c1) ∧ w'.cell? ⟨w.heap.size, 2, none⟩ = some (.slice A2 es.length c2))
        (first | exact HL5.cells | exact HL4.cells | exact (HLX.out.alloc _).draw.cells | exact HLX.out.draw.cells | go_keep)
        (first
          | (refine step_append_src (by rfl) _ _ _ (by rfl) w.heap.size 3 i0 _ 1 8 Try.underlying22 HI.out.1 HI.out.2.1 HI.out.2.2.1 HI.out.2.2.2 rfl (by omega) (.slice (some ⟨wx.heap.size, 0, none⟩) 1 1) 1 (nums .i64 [x]) (by rfl) (by exact own_of_heap (one_lit wx x HLX.out.bel.size) (fun _ _ => rfl)) A4 lb.length c4 (nums .i64 lb) (by rfl) (by rw [nums_length]; omega) (by exact src_of (Kd.C_below HB.out (HLX.out.alloc _).draw.bel)) (nums_one _) (by unfold maxLen; omega) (by omega) (by have := HLX.out.bel.size; simp; omega) ?_; intro v4 w4 hown4 hgr4 hat4; obtain ⟨V4, C4, rfl⟩ := own_slice hown4; rw [Nat.add_comm 1 lb.length] at hown4; rw [Nat.add_comm 1 lb.length]; replace hown4 : w4.ownsRow w.heap.size 3 1 (.slice V4 (lb.length + 1) C4) (lb.length + 1) (nums .i64 ([x] ++ lb)) := (by rw [nums_append]; exact hown4); have HL4 : Lw w w4 d (.slice A1 zs.length c1) (.slice A2 es.length c2) := (by exact (HLX.out.alloc _).draw.grown hgr4 (fun k hk => by simp [Value.ownBlock] at hk; omega)))
          | (go_at_call 6; refine (isPath_len (lb.length + 1) d A1 A2 V4 c1 c2 C4 zs es ([x] ++ lb) _ HLB.out (Kd.C_below HN.out HL4.bel) (Kd.C_below HE.out HL4.bel) (C_of_own hown4 HLB.out) (by omega) (by omega) (by omega) HRO.out r2 HR2.out).mono ?_; rintro e w5 ⟨rfl, hbel5⟩; have HL5 := HL4.below hbel5))
      all_goals
        go_wp2
        go_meet
        case rel => exact ⟨rfl, rfl, ⟨HL5⟩⟩
    case rest =>
      obtain ⟨rfl, rfl, HLY⟩ := hcut
      clear HLX
      obtain ⟨r3, hr3⟩ : ∃ r, (plOf d zs es).path (la ++ [x] ++ lb) = r := ⟨_, rfl⟩
      have HR3 := Aside0.mk hr3
      clear hr3
      have hlc1 : (la ++ [x] ++ lb).length = la.length + 1 + lb.length := by simp; omega
      have HLC := Aside0.mk hlc1
      clear hlc1
      go_upto_region 7 with fail
      obtain ⟨wy, rfl⟩ : ∃ wy : World, wy = wc := ⟨_, rfl⟩
      go_cut [13, 14] from 17 (fun s9 s10 w' => s9 = .bool r3 ∧ s10 = .bool false ∧ Aside0 (Lw w w' d (.slice A1 zs.length c1) (.slice A2 es.length c2)))
      case first =>
        obtain ⟨q0, q1, q2⟩ := HLY.out.cells
        have hq := blk_lt HLY.out.g
        go_region_held3 (fun w' => w'.cell? ⟨w.heap.size, 0, none⟩ = some (.bool d) ∧ w'.cell? ⟨w.heap.size, 1, none⟩ = some (.slice A1 zs.length c1) ∧ w'.cell? ⟨w.heap.size, 2, none⟩ = some (.slice A2 es.length c2))
          (first | exact HL7.cells | exact HL6.cells | exact HL4.cells | exact HL3.cells | exact (HLY.out.alloc _).draw.cells | exact HLY.out.draw.cells | go_keep)
          (first
            | (refine step_append_src (by rfl) _ _ _ (by rfl) w.heap.size 3 i0 _ 1 8 Try.underlying22 HI.out.1 HI.out.2.1 HI.out.2.2.1 HI.out.2.2.2 rfl (by omega) (.slice (some ⟨gg, 0, none⟩) (la.length + 1) cap) (la.length + 1) (nums .i64 (la ++ [x])) (by rfl) (by exact hown4) A4 lb.length c4 (nums .i64 lb) (by rfl) (by rw [nums_length]; omega) (by exact src_of (Kd.C_below HB.out HL4.bel)) (nums_one _) (by unfold maxLen; omega) (by omega) (by exact HL4.bel.size) ?_; intro v6 w6 hown6 hgr6 hat6; obtain ⟨V6, C6, rfl⟩ := own_slice hown6; replace hown6 : w6.ownsRow w.heap.size 3 1 (.slice V6 (la.length + 1 + lb.length) C6) (la.length + 1 + lb.length) (nums .i64 (la ++ [x] ++ lb)) := (by rw [nums_append]; exact hown6); have HL6 : Lw w w6 d (.slice A1 zs.length c1) (.slice A2 es.length c2) := (by exact HL4.grown hgr6 (fun k hk => by simp [Value.ownBlock] at hk; omega)))
            | (refine step_append_lies _ (by rfl) _ _ _ (by rfl) w.heap.size 3 i0 _ 1 8 Try.underlying22 HI.out.1 HI.out.2.1 HI.out.2.2.1 HI.out.2.2.2 rfl (by omega) v la.length (nums .i64 la) (by rfl) (by exact own_weaken hown (by have := HLY.out.bel.size; simp; omega)) ⟨wy.heap.size, 0, none⟩ 1 1 [.int .i64 x] (by rfl) (by rfl) (by exact news_later hbel) (by simp [Value.oneCell']) (by omega) (by unfold maxLen; omega) (by omega) (by exact HL3.bel.size) _ rfl ?_; intro gg cap w4 hown4 hgr4 hat4 hlt4; replace hown4 : w4.ownsRow w.heap.size 3 1 (.slice (some ⟨gg, 0, none⟩) (la.length + 1) cap) (la.length + 1) (nums .i64 (la ++ [x])) := (by rw [nums_append]; exact hown4); have HL4 : Lw w w4 d (.slice A1 zs.length c1) (.slice A2 es.length c2) := (by exact HL3.grown hgr4 (fun k hk => by have h1 := own_base hown k hk; have h2 := HLY.out.bel.size; have h3 := blk_lt HLY.out.g; simp at h1; omega)); have hgg : w.heap.size < gg := (by have h3 := blk_lt HLY.out.g; have h2 := blk_lt HL3.g; rcases hat4 with hq4 | hq4; (have h1 := own_base hown gg hq4; simp at h1; omega); ((try simp at hq4); omega)))
            | (refine step_append_lies _ (by rfl) _ _ _ (by rfl) w.heap.size 3 i0 _ 1 8 Try.underlying22 HI.out.1 HI.out.2.1 HI.out.2.2.1 HI.out.2.2.2 rfl (by omega) v la.length (nums .i64 la) (by rfl) (by exact (own_weaken hown (by have := HLY.out.bel.size; simp; omega)).alloc _) ⟨w3.heap.size, 0, none⟩ 1 1 [.int .i64 x] (by rfl) (by rfl) (by exact cell_one_new _ _ _) (by simp [Value.oneCell']) (by omega) (by unfold maxLen; omega) (by omega) (by have := HL3.bel.size; simp; omega) _ rfl ?_; intro gg cap w4 hown4 hgr4 hat4 hlt4; replace hown4 : w4.ownsRow w.heap.size 3 1 (.slice (some ⟨gg, 0, none⟩) (la.length + 1) cap) (la.length + 1) (nums .i64 (la ++ [x])) := (by rw [nums_append]; exact hown4); have HL4 : Lw w w4 d (.slice A1 zs.length c1) (.slice A2 es.length c2) := (by exact (HL3.alloc _).grown hgr4 (fun k hk => by have h1 := own_base hown k hk; have h2 := HLY.out.bel.size; have h3 := blk_lt HLY.out.g; simp at h1; omega)); have hgg : w.heap.size < gg := (by have h3 := blk_lt HLY.out.g; have h2 := blk_lt HL3.g; rcases hat4 with hq4 | hq4; (have h1 := own_base hown gg hq4; simp at h1; omega); ((try simp at hq4); omega)))
            | (go_at_call 7; refine (cloneI_any A3 c3 la _ (by first | exact Kd.C_below HA.out HLY.out.draw.bel | exact Kd.C_below HA.out (HLY.out.alloc _).draw.bel) (by omega)).mono ?_; rintro e w3 ⟨v, rfl, hown, hbel⟩; have HL3 : Lw w w3 d (.slice A1 zs.length c1) (.slice A2 es.length c2) := by (first | exact HLY.out.draw.below hbel | exact (HLY.out.alloc _).draw.below hbel))
            | (go_at_call 6; refine (isPath_len (la.length + 1 + lb.length) d A1 A2 V6 c1 c2 C6 zs es (la ++ [x] ++ lb) _ HLC.out (Kd.C_below HN.out HL6.bel) (Kd.C_below HE.out HL6.bel) (C_of_own hown6 HLC.out) (by omega) (by omega) (by omega) HRO.out r3 HR3.out).mono ?_; rintro e w7 ⟨rfl, hbel7⟩; have HL7 := HL6.below hbel7))
        all_goals
          go_wp2
          go_meet
          case rel => exact ⟨rfl, rfl, ⟨HL7⟩⟩
      case rest =>
        obtain ⟨rfl, rfl, HLZ⟩ := hcut
        clear HLY
        have hn0 : Kd.C (Kd.int .i64) wc none 0 [] := ⟨rfl, by omega, fun h => absurd h (by omega)⟩
        have HN0 := Aside0.mk hn0
        clear hn0
        obtain ⟨q0, q1, q2⟩ := HLZ.out.cells
        have hfin := path_join (plOf d zs es) la lb x
        rw [HR1.out, HR2.out, HR3.out] at hfin
        have HFIN := Aside0.mk hfin
        clear hfin
        go_wp2_with fail
        refine (isPath_len 0 d A1 A2 none c1 c2 0 zs es [] _ rfl (Kd.C_below HN.out HLZ.out.bel) (Kd.C_below HE.out HLZ.out.bel) HN0.out (by omega) (by omega) (by omega) HRO.out true rfl).mono ?_
        rintro e w8 ⟨rfl, hbel8⟩
        have HL8 := Aside0.mk (HLZ.out.below hbel8)
        clear hbel8
        clear q0 q1 q2
        revert HFIN
        clear HR1 HR2 HR3
        cases r1 <;> cases r2 <;> cases r3 <;> intro HFIN
        all_goals first
          | exact absurd HFIN.out (by decide)
          | (go_wp2; go_ret; exact ⟨rfl, HL8.out.bel⟩)
end Go.Proofs.Ytlokbaljkmblaaa
