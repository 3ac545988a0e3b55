import Derived.Test.YtlokbaljkmblaaaG
import Derived.Deep.RegionLaw
import Derived.Deep.Cut
namespace Go.Proofs.Ytlokbaljkmblaaa
open Go.RowKit Go.Lab Go.Proofs.YtlokbaljkmblaaaW.PrintWords Go.Proofs.YtlokbaljkmblaaaW.PrintLast Go.Proofs.YtlokbaljkmblaaaW.PrintMore

/-- blocks of other types than arcs and rows are as they were -/
def KeepT (w w' : World) : Prop := ∀ (k : Nat) (c : Array Value) (e : TypeId), w.heap[k]? = some (Obj.cells c e (0, 0)) → e ≠ 90 → e ≠ 74 → w'.heap[k]? = w.heap[k]?
theorem KeepT.refl (w : World) : KeepT w w := fun _ _ _ _ _ _ => rfl
theorem KeepT.trans {a b c : World} (h : KeepT a b) (h' : KeepT b c) : KeepT a c := fun k x e hk h1 h2 => (h' k x e ((h k x e hk h1 h2).trans hk) h1 h2).trans (h k x e hk h1 h2)

/-- the bounds of a good row, as set asks for them -/
theorem GoodRow.bounds {n : Nat} {l : List (Int × Nat)} (h : GoodRow n l) (hn : n ≤ 1000) : ∀ a ∈ l, 0 ≤ a.1 ∧ a.1 ≤ 1000 := fun a ha => by have := h.2 a ha; omega

set_option maxHeartbeats 8000000 in
set_option maxRecDepth 100000 in
theorem lay_true (base bp : Nat) (p : Pl) (i k x : Nat) (w : World) (h : PlOk w base bp p) (hg : p.Good) (hi : i < p.ids.length) (hk : k < p.ids.length) (hbase : base ≤ w.heap.size) :
    Calls Try.prog 21 #[.pointer (some ⟨bp, 0, none⟩), .int .i64 i, .int .i64 k, .float .f64 x, .bool true] w fun e w' => e = .returned (.tuple #[]) ∧ PlOk w' base bp (p.lay i k x true) ∧ Below base w w' ∧ KeepT w w' := by
  have HG := Aside0.mk hg
  have hn := hg.n
  have HP := Aside0.mk h
  have HB := Aside0.mk (Below.refl base w)
  have HK := Aside0.mk (KeepT.refl w)
  clear h hg
  go_enter Try.func21, Try.ntmps21
  go_upto_region 0 with fail
  go_cut [] from 10 (fun w' => Aside0 (PlOk w' base bp (p.outs i k x) ∧ Below base w w' ∧ KeepT w w'))
  case first =>
    obtain ⟨ro, ri, vi, vx, g, cap, hi', hp, c1, c2, c3, l1, l2, l3, l4⟩ := HP.out.open_out i hi
    have HPA := Aside0.mk hp
    have hrow := hp.rows.rowA i hi'
    have HROW := Aside0.mk hrow
    have hne1 : some bp ≠ ro[i].ownBlock := fun e => by
      obtain ⟨c, hc⟩ := own_block hrow e.symm
      exact absurd (blk_type hp.blk hc) (by decide)
    have hne2 : some g ≠ ro[i].ownBlock := fun e => by
      obtain ⟨c, hc⟩ := own_block hrow e.symm
      obtain ⟨c', hc'⟩ := own_block hp.rows.a (k := g) rfl
      exact absurd (blk_type hc' hc) (by decide)
    have hbr : ∀ q, ro[i].ownBlock = some q → base ≤ q := fun q hq => own_base hrow q hq
    have HBR := Aside0.mk hbr
    have hx1 : (i : Int) < (ro.length : Int) := by omega
    have hx2 : (0 : Int) ≤ (i : Int) := by omega
    have hx3 : (k : Int) ≤ 1000 := by omega
    clear hp hrow hbr
    obtain ⟨r, hr⟩ : ∃ r, r = ro[i] := ⟨_, rfl⟩
    rw [← hr] at c2 hne1 hne2
    have HR := Aside0.mk hr
    have HL4 := Aside0.mk l4
    have hbw := Nat.le_trans hbase HB.out.size
    clear hr l4
    go_region_law (first | (go_simp; go_at_call 25; refine (set_any base _ (p.out.getD i []) k x _ (by rw [HR.out]; exact HROW.out) (HG.out.out i).1 (Nat.le_trans (HG.out.out i).len hn) (by omega) (by omega) ((HG.out.out i).bounds hn) (by first | exact hbw | simpa using hbw)).mono ?_; rintro e w1 ⟨v', rfl, hown, hgr, hat⟩; obtain ⟨A', c', rfl⟩ := own_slice hown; have d1 := (hgr.cell_far ⟨bp, 1, none⟩ l1 hne1).trans c1; have d2 := (hgr.cell_far ⟨g, i, none⟩ l2 hne2).trans c2; have d3 := (hgr.frozen_far ⟨g, i, none⟩ l2 hne2).trans c3))
    all_goals
      go_wp2
      go_meet
      case rel => exact ⟨⟨_, _, _, _, _, PlAt.put_out HPA.out i hi' _ _ (by rw [← HR.out]; exact (grownBy_drew _ _).trans hgr) hown (by rw [← HR.out]; exact hat)⟩, (HB.out.grown ((grownBy_drew _ _).trans hgr) hbw (fun q hq => HBR.out q (by rw [← HR.out]; exact hq))).setCell l3 _, HK.out.trans (fun q c e hq he1 he2 => put_keep HPA.out.rows i hi' _ (by rw [← HR.out]; exact (grownBy_drew _ _).trans hgr) hq he1 he2)⟩
  case rest =>
    obtain ⟨hpk, hbel, hkeep⟩ := hcut
    obtain ⟨p1, hnp⟩ : ∃ q, q = p.outs i k x := ⟨_, rfl⟩
    rw [← hnp] at hpk
    have HE1 := Aside0.mk hnp
    have HP1 := Aside0.mk hpk
    have HB1 := Aside0.mk hbel
    have HK1 := Aside0.mk hkeep
    have HG1 := Aside0.mk (show p1.Good by rw [hnp]; exact HG.out.outs i k x hk)
    have hn1 := HG1.out.n
    have hi1 : i < p1.ids.length := by rw [hnp]; exact hi
    have hk1 : k < p1.ids.length := by rw [hnp]; exact hk
    clear hpk hbel hkeep hnp
    go_upto_region 1 with fail
    go_cut [] from 10 (fun w' => Aside0 (PlOk w' base bp (p1.inns k i x) ∧ Below base w w' ∧ KeepT w w'))
    case first =>
      obtain ⟨ro, ri, vi, vx, g, cap, hi', hp, c1, c2, c3, l1, l2, l3, l4⟩ := HP1.out.open_inn k hk1
      have HPA := Aside0.mk hp
      have hrow := hp.rows.rowB k hi'
      have HROW := Aside0.mk hrow
      have hne1 : some bp ≠ ri[k].ownBlock := fun e => by
        obtain ⟨c, hc⟩ := own_block hrow e.symm
        exact absurd (blk_type hp.blk hc) (by decide)
      have hne2 : some g ≠ ri[k].ownBlock := fun e => by
        obtain ⟨c, hc⟩ := own_block hrow e.symm
        obtain ⟨c', hc'⟩ := own_block hp.rows.b (k := g) rfl
        exact absurd (blk_type hc' hc) (by decide)
      have hbr : ∀ q, ri[k].ownBlock = some q → base ≤ q := fun q hq => own_base hrow q hq
      have HBR := Aside0.mk hbr
      have hx1 : (k : Int) < (ri.length : Int) := by omega
      have hx2 : (0 : Int) ≤ (k : Int) := by omega
      have hx3 : (i : Int) ≤ 1000 := by omega
      clear hp hrow hbr
      obtain ⟨r, hr⟩ : ∃ r, r = ri[k] := ⟨_, rfl⟩
      rw [← hr] at c2 hne1 hne2
      have HR := Aside0.mk hr
      have HL4 := Aside0.mk l4
      have hbw := Nat.le_trans hbase HB1.out.size
      clear hr l4
      go_region_law (first | (go_simp; go_at_call 25; refine (set_any base _ (p1.inn.getD k []) i x _ (by rw [HR.out]; exact HROW.out) (HG1.out.inn k).1 (Nat.le_trans (HG1.out.inn k).len hn1) (by omega) (by omega) ((HG1.out.inn k).bounds hn1) (by first | exact hbw | simpa using hbw)).mono ?_; rintro e w1 ⟨v', rfl, hown, hgr, hat⟩; obtain ⟨A', c', rfl⟩ := own_slice hown; have d1 := (hgr.cell_far ⟨bp, 2, none⟩ l1 hne1).trans c1; have d2 := (hgr.cell_far ⟨g, k, none⟩ l2 hne2).trans c2; have d3 := (hgr.frozen_far ⟨g, k, none⟩ l2 hne2).trans c3))
      all_goals
        go_wp2
        go_meet
        case rel => exact ⟨⟨_, _, _, _, _, PlAt.put_inn HPA.out k hi' _ _ (by rw [← HR.out]; exact (grownBy_drew _ _).trans hgr) hown (by rw [← HR.out]; exact hat)⟩, (HB1.out.grown ((grownBy_drew _ _).trans hgr) hbw (fun q hq => HBR.out q (by rw [← HR.out]; exact hq))).setCell l3 _, HK1.out.trans (fun q c e hq he1 he2 => put_keep HPA.out.rows.symm k hi' _ (by rw [← HR.out]; exact (grownBy_drew _ _).trans hgr) hq he1 he2)⟩
    case rest =>
      obtain ⟨hpk, hbel, hkeep⟩ := hcut
      obtain ⟨p2, hnp⟩ : ∃ q, q = p1.inns k i x := ⟨_, rfl⟩
      rw [← hnp] at hpk
      have HE2 := Aside0.mk hnp
      have HP2 := Aside0.mk hpk
      have HB2 := Aside0.mk hbel
      have HK2 := Aside0.mk hkeep
      have HG2 := Aside0.mk (show p2.Good by rw [hnp]; exact HG1.out.inns k i x hi1)
      have hn2 := HG2.out.n
      have hi2 : i < p2.ids.length := by rw [hnp]; exact hi1
      have hk2 : k < p2.ids.length := by rw [hnp]; exact hk1
      clear hpk hbel hkeep hnp
      go_wp2
      go_end0
      exact ⟨rfl, (show PlOk _ base bp (p.lay i k x true) by unfold Pl.lay; rw [if_pos rfl, ← HE1.out, ← HE2.out]; exact HP2.out), HB2.out, HK2.out⟩

set_option maxHeartbeats 8000000 in
set_option maxRecDepth 100000 in
theorem lay_false (base bp : Nat) (p : Pl) (i k x : Nat) (w : World) (h : PlOk w base bp p) (hg : p.Good) (hi : i < p.ids.length) (hk : k < p.ids.length) (hbase : base ≤ w.heap.size) :
    Calls Try.prog 21 #[.pointer (some ⟨bp, 0, none⟩), .int .i64 i, .int .i64 k, .float .f64 x, .bool false] w fun e w' => e = .returned (.tuple #[]) ∧ PlOk w' base bp (p.lay i k x false) ∧ Below base w w' ∧ KeepT w w' := by
  have HG := Aside0.mk hg
  have hn := hg.n
  have HP := Aside0.mk h
  have HB := Aside0.mk (Below.refl base w)
  have HK := Aside0.mk (KeepT.refl w)
  clear h hg
  go_enter Try.func21, Try.ntmps21
  go_upto_region 0 with fail
  go_cut [] from 10 (fun w' => Aside0 (PlOk w' base bp (p.outs i k x) ∧ Below base w w' ∧ KeepT w w'))
  case first =>
    obtain ⟨ro, ri, vi, vx, g, cap, hi', hp, c1, c2, c3, l1, l2, l3, l4⟩ := HP.out.open_out i hi
    have HPA := Aside0.mk hp
    have hrow := hp.rows.rowA i hi'
    have HROW := Aside0.mk hrow
    have hne1 : some bp ≠ ro[i].ownBlock := fun e => by
      obtain ⟨c, hc⟩ := own_block hrow e.symm
      exact absurd (blk_type hp.blk hc) (by decide)
    have hne2 : some g ≠ ro[i].ownBlock := fun e => by
      obtain ⟨c, hc⟩ := own_block hrow e.symm
      obtain ⟨c', hc'⟩ := own_block hp.rows.a (k := g) rfl
      exact absurd (blk_type hc' hc) (by decide)
    have hbr : ∀ q, ro[i].ownBlock = some q → base ≤ q := fun q hq => own_base hrow q hq
    have HBR := Aside0.mk hbr
    have hx1 : (i : Int) < (ro.length : Int) := by omega
    have hx2 : (0 : Int) ≤ (i : Int) := by omega
    have hx3 : (k : Int) ≤ 1000 := by omega
    clear hp hrow hbr
    obtain ⟨r, hr⟩ : ∃ r, r = ro[i] := ⟨_, rfl⟩
    rw [← hr] at c2 hne1 hne2
    have HR := Aside0.mk hr
    have HL4 := Aside0.mk l4
    have hbw := Nat.le_trans hbase HB.out.size
    clear hr l4
    go_region_law (first | (go_simp; go_at_call 25; refine (set_any base _ (p.out.getD i []) k x _ (by rw [HR.out]; exact HROW.out) (HG.out.out i).1 (Nat.le_trans (HG.out.out i).len hn) (by omega) (by omega) ((HG.out.out i).bounds hn) (by first | exact hbw | simpa using hbw)).mono ?_; rintro e w1 ⟨v', rfl, hown, hgr, hat⟩; obtain ⟨A', c', rfl⟩ := own_slice hown; have d1 := (hgr.cell_far ⟨bp, 1, none⟩ l1 hne1).trans c1; have d2 := (hgr.cell_far ⟨g, i, none⟩ l2 hne2).trans c2; have d3 := (hgr.frozen_far ⟨g, i, none⟩ l2 hne2).trans c3))
    all_goals
      go_wp2
      go_meet
      case rel => exact ⟨⟨_, _, _, _, _, PlAt.put_out HPA.out i hi' _ _ (by rw [← HR.out]; exact (grownBy_drew _ _).trans hgr) hown (by rw [← HR.out]; exact hat)⟩, (HB.out.grown ((grownBy_drew _ _).trans hgr) hbw (fun q hq => HBR.out q (by rw [← HR.out]; exact hq))).setCell l3 _, HK.out.trans (fun q c e hq he1 he2 => put_keep HPA.out.rows i hi' _ (by rw [← HR.out]; exact (grownBy_drew _ _).trans hgr) hq he1 he2)⟩
  case rest =>
    obtain ⟨hpk, hbel, hkeep⟩ := hcut
    obtain ⟨p1, hnp⟩ : ∃ q, q = p.outs i k x := ⟨_, rfl⟩
    rw [← hnp] at hpk
    have HE1 := Aside0.mk hnp
    have HP1 := Aside0.mk hpk
    have HB1 := Aside0.mk hbel
    have HK1 := Aside0.mk hkeep
    have HG1 := Aside0.mk (show p1.Good by rw [hnp]; exact HG.out.outs i k x hk)
    have hn1 := HG1.out.n
    have hi1 : i < p1.ids.length := by rw [hnp]; exact hi
    have hk1 : k < p1.ids.length := by rw [hnp]; exact hk
    clear hpk hbel hkeep hnp
    go_upto_region 1 with fail
    go_cut [] from 10 (fun w' => Aside0 (PlOk w' base bp (p1.inns k i x) ∧ Below base w w' ∧ KeepT w w'))
    case first =>
      obtain ⟨ro, ri, vi, vx, g, cap, hi', hp, c1, c2, c3, l1, l2, l3, l4⟩ := HP1.out.open_inn k hk1
      have HPA := Aside0.mk hp
      have hrow := hp.rows.rowB k hi'
      have HROW := Aside0.mk hrow
      have hne1 : some bp ≠ ri[k].ownBlock := fun e => by
        obtain ⟨c, hc⟩ := own_block hrow e.symm
        exact absurd (blk_type hp.blk hc) (by decide)
      have hne2 : some g ≠ ri[k].ownBlock := fun e => by
        obtain ⟨c, hc⟩ := own_block hrow e.symm
        obtain ⟨c', hc'⟩ := own_block hp.rows.b (k := g) rfl
        exact absurd (blk_type hc' hc) (by decide)
      have hbr : ∀ q, ri[k].ownBlock = some q → base ≤ q := fun q hq => own_base hrow q hq
      have HBR := Aside0.mk hbr
      have hx1 : (k : Int) < (ri.length : Int) := by omega
      have hx2 : (0 : Int) ≤ (k : Int) := by omega
      have hx3 : (i : Int) ≤ 1000 := by omega
      clear hp hrow hbr
      obtain ⟨r, hr⟩ : ∃ r, r = ri[k] := ⟨_, rfl⟩
      rw [← hr] at c2 hne1 hne2
      have HR := Aside0.mk hr
      have HL4 := Aside0.mk l4
      have hbw := Nat.le_trans hbase HB1.out.size
      clear hr l4
      go_region_law (first | (go_simp; go_at_call 25; refine (set_any base _ (p1.inn.getD k []) i x _ (by rw [HR.out]; exact HROW.out) (HG1.out.inn k).1 (Nat.le_trans (HG1.out.inn k).len hn1) (by omega) (by omega) ((HG1.out.inn k).bounds hn1) (by first | exact hbw | simpa using hbw)).mono ?_; rintro e w1 ⟨v', rfl, hown, hgr, hat⟩; obtain ⟨A', c', rfl⟩ := own_slice hown; have d1 := (hgr.cell_far ⟨bp, 2, none⟩ l1 hne1).trans c1; have d2 := (hgr.cell_far ⟨g, k, none⟩ l2 hne2).trans c2; have d3 := (hgr.frozen_far ⟨g, k, none⟩ l2 hne2).trans c3))
      all_goals
        go_wp2
        go_meet
        case rel => exact ⟨⟨_, _, _, _, _, PlAt.put_inn HPA.out k hi' _ _ (by rw [← HR.out]; exact (grownBy_drew _ _).trans hgr) hown (by rw [← HR.out]; exact hat)⟩, (HB1.out.grown ((grownBy_drew _ _).trans hgr) hbw (fun q hq => HBR.out q (by rw [← HR.out]; exact hq))).setCell l3 _, HK1.out.trans (fun q c e hq he1 he2 => put_keep HPA.out.rows.symm k hi' _ (by rw [← HR.out]; exact (grownBy_drew _ _).trans hgr) hq he1 he2)⟩
    case rest =>
      obtain ⟨hpk, hbel, hkeep⟩ := hcut
      obtain ⟨p2, hnp⟩ : ∃ q, q = p1.inns k i x := ⟨_, rfl⟩
      rw [← hnp] at hpk
      have HE2 := Aside0.mk hnp
      have HP2 := Aside0.mk hpk
      have HB2 := Aside0.mk hbel
      have HK2 := Aside0.mk hkeep
      have HG2 := Aside0.mk (show p2.Good by rw [hnp]; exact HG1.out.inns k i x hi1)
      have hn2 := HG2.out.n
      have hi2 : i < p2.ids.length := by rw [hnp]; exact hi1
      have hk2 : k < p2.ids.length := by rw [hnp]; exact hk1
      clear hpk hbel hkeep hnp
      go_upto_region 3 with fail
      go_cut [] from 10 (fun w' => Aside0 (PlOk w' base bp (p2.outs k i x) ∧ Below base w w' ∧ KeepT w w'))
      case first =>
        obtain ⟨ro, ri, vi, vx, g, cap, hi', hp, c1, c2, c3, l1, l2, l3, l4⟩ := HP2.out.open_out k hk2
        have HPA := Aside0.mk hp
        have hrow := hp.rows.rowA k hi'
        have HROW := Aside0.mk hrow
        have hne1 : some bp ≠ ro[k].ownBlock := fun e => by
          obtain ⟨c, hc⟩ := own_block hrow e.symm
          exact absurd (blk_type hp.blk hc) (by decide)
        have hne2 : some g ≠ ro[k].ownBlock := fun e => by
          obtain ⟨c, hc⟩ := own_block hrow e.symm
          obtain ⟨c', hc'⟩ := own_block hp.rows.a (k := g) rfl
          exact absurd (blk_type hc' hc) (by decide)
        have hbr : ∀ q, ro[k].ownBlock = some q → base ≤ q := fun q hq => own_base hrow q hq
        have HBR := Aside0.mk hbr
        have hx1 : (k : Int) < (ro.length : Int) := by omega
        have hx2 : (0 : Int) ≤ (k : Int) := by omega
        have hx3 : (i : Int) ≤ 1000 := by omega
        clear hp hrow hbr
        obtain ⟨r, hr⟩ : ∃ r, r = ro[k] := ⟨_, rfl⟩
        rw [← hr] at c2 hne1 hne2
        have HR := Aside0.mk hr
        have HL4 := Aside0.mk l4
        have hbw := Nat.le_trans hbase HB2.out.size
        clear hr l4
        go_region_law (first | (go_simp; go_at_call 25; refine (set_any base _ (p2.out.getD k []) i x _ (by rw [HR.out]; exact HROW.out) (HG2.out.out k).1 (Nat.le_trans (HG2.out.out k).len hn2) (by omega) (by omega) ((HG2.out.out k).bounds hn2) (by first | exact hbw | simpa using hbw)).mono ?_; rintro e w1 ⟨v', rfl, hown, hgr, hat⟩; obtain ⟨A', c', rfl⟩ := own_slice hown; have d1 := (hgr.cell_far ⟨bp, 1, none⟩ l1 hne1).trans c1; have d2 := (hgr.cell_far ⟨g, k, none⟩ l2 hne2).trans c2; have d3 := (hgr.frozen_far ⟨g, k, none⟩ l2 hne2).trans c3))
        all_goals
          go_wp2
          go_meet
          case rel => exact ⟨⟨_, _, _, _, _, PlAt.put_out HPA.out k hi' _ _ (by rw [← HR.out]; exact (grownBy_drew _ _).trans hgr) hown (by rw [← HR.out]; exact hat)⟩, (HB2.out.grown ((grownBy_drew _ _).trans hgr) hbw (fun q hq => HBR.out q (by rw [← HR.out]; exact hq))).setCell l3 _, HK2.out.trans (fun q c e hq he1 he2 => put_keep HPA.out.rows k hi' _ (by rw [← HR.out]; exact (grownBy_drew _ _).trans hgr) hq he1 he2)⟩
      case rest =>
        obtain ⟨hpk, hbel, hkeep⟩ := hcut
        obtain ⟨p3, hnp⟩ : ∃ q, q = p2.outs k i x := ⟨_, rfl⟩
        rw [← hnp] at hpk
        have HE3 := Aside0.mk hnp
        have HP3 := Aside0.mk hpk
        have HB3 := Aside0.mk hbel
        have HK3 := Aside0.mk hkeep
        have HG3 := Aside0.mk (show p3.Good by rw [hnp]; exact HG2.out.outs k i x hi2)
        have hn3 := HG3.out.n
        have hi3 : i < p3.ids.length := by rw [hnp]; exact hi2
        have hk3 : k < p3.ids.length := by rw [hnp]; exact hk2
        clear hpk hbel hkeep hnp
        go_upto_region 4 with fail
        obtain ⟨ro, ri, vi, vx, g, cap, hi', hp, c1, c2, c3, l1, l2, l3, l4⟩ := HP3.out.open_inn i hi3
        have HPA := Aside0.mk hp
        have hrow := hp.rows.rowB i hi'
        have HROW := Aside0.mk hrow
        have hne1 : some bp ≠ ri[i].ownBlock := fun e => by
          obtain ⟨c, hc⟩ := own_block hrow e.symm
          exact absurd (blk_type hp.blk hc) (by decide)
        have hne2 : some g ≠ ri[i].ownBlock := fun e => by
          obtain ⟨c, hc⟩ := own_block hrow e.symm
          obtain ⟨c', hc'⟩ := own_block hp.rows.b (k := g) rfl
          exact absurd (blk_type hc' hc) (by decide)
        have hbr : ∀ q, ri[i].ownBlock = some q → base ≤ q := fun q hq => own_base hrow q hq
        have HBR := Aside0.mk hbr
        have hx1 : (i : Int) < (ri.length : Int) := by omega
        have hx2 : (0 : Int) ≤ (i : Int) := by omega
        have hx3 : (k : Int) ≤ 1000 := by omega
        clear hp hrow hbr
        obtain ⟨r, hr⟩ : ∃ r, r = ri[i] := ⟨_, rfl⟩
        rw [← hr] at c2 hne1 hne2
        have HR := Aside0.mk hr
        have HL4 := Aside0.mk l4
        have hbw := Nat.le_trans hbase HB3.out.size
        clear hr l4
        go_region_law (first | (go_simp; go_at_call 25; refine (set_any base _ (p3.inn.getD i []) k x _ (by rw [HR.out]; exact HROW.out) (HG3.out.inn i).1 (Nat.le_trans (HG3.out.inn i).len hn3) (by omega) (by omega) ((HG3.out.inn i).bounds hn3) (by first | exact hbw | simpa using hbw)).mono ?_; rintro e w1 ⟨v', rfl, hown, hgr, hat⟩; obtain ⟨A', c', rfl⟩ := own_slice hown; have d1 := (hgr.cell_far ⟨bp, 2, none⟩ l1 hne1).trans c1; have d2 := (hgr.cell_far ⟨g, i, none⟩ l2 hne2).trans c2; have d3 := (hgr.frozen_far ⟨g, i, none⟩ l2 hne2).trans c3))
        all_goals
          go_wp2
          go_end0
          refine ⟨rfl, ?_, (HB3.out.grown ((grownBy_drew _ _).trans hgr) hbw (fun q hq => HBR.out q (by rw [← HR.out]; exact hq))).setCell l3 _, HK3.out.trans (fun q c e hq he1 he2 => put_keep HPA.out.rows.symm i hi' _ (by rw [← HR.out]; exact (grownBy_drew _ _).trans hgr) hq he1 he2)⟩
          unfold Pl.lay
          rw [if_neg (by decide), ← HE1.out, ← HE2.out, ← HE3.out]
          exact ⟨_, _, _, _, _, PlAt.put_inn HPA.out i hi' _ _ (by rw [← HR.out]; exact (grownBy_drew _ _).trans hgr) hown (by rw [← HR.out]; exact hat)⟩

theorem lay_any (base bp : Nat) (p : Pl) (i k x : Nat) (d : Bool) (w : World) (h : PlOk w base bp p) (hg : p.Good) (hi : i < p.ids.length) (hk : k < p.ids.length) (hbase : base ≤ w.heap.size) :
    Calls Try.prog 21 #[.pointer (some ⟨bp, 0, none⟩), .int .i64 i, .int .i64 k, .float .f64 x, .bool d] w fun e w' => e = .returned (.tuple #[]) ∧ PlOk w' base bp (p.lay i k x d) ∧ Below base w w' ∧ KeepT w w' := by
  cases d
  · exact lay_false base bp p i k x w h hg hi hk hbase
  · exact lay_true base bp p i k x w h hg hi hk hbase
end Go.Proofs.Ytlokbaljkmblaaa
