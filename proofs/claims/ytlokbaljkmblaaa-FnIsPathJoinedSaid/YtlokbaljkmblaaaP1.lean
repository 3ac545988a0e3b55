import Derived.Test.YtlokbaljkmblaaaO
namespace Go.Proofs.Ytlokbaljkmblaaa
open Go.RowKit Go.Lab Go.Proofs.YtlokbaljkmblaaaW.PrintWords Go.Proofs.YtlokbaljkmblaaaW.PrintLast Go.Proofs.YtlokbaljkmblaaaW.PrintMore PFnIsPathJoined

/-- the type of a graph as an interface value -/
def gT (d : Bool) : TypeId := if d then 47 else 48
def gV (d : Bool) (bp : Nat) : Value := .iface (gT d) (.agg #[.pointer (some ⟨bp, 0, none⟩)])

theorem topo_any (d : Bool) (base bp : Nat) (p : Pl) (xs : List Int) (v : Value) (vb : Nat) (w : World) (hl2 : xs.length ≤ 1000) (hv : w.ownsRow vb 52 1 v xs.length (nodeVs xs)) (h : PlOk w base bp p) (hs : p.ids.Pairwise (· < ·)) (hg : p.Good) :
    Calls Try.prog 10 #[gV d bp, v] w fun e w' => e = .returned (.bool (p.path xs)) ∧ Below w.heap.size w w' := by
  match xs, hl2, hv with
  | [], _, hv =>
    obtain ⟨A, c, rfl⟩ := own_slice hv
    refine (topo0 (gV d bp) A c w).mono ?_
    rintro e w' ⟨rfl, rfl⟩
    exact ⟨rfl, Below.refl _ _⟩
  | [x], _, hv =>
    obtain ⟨g, c, rfl, _, _⟩ := hv.form (by simp)
    have hx : w.cell? ⟨g, 0, none⟩ = some (nodeV x) := by
      have := hv.cells (g := g) rfl 0 (nodeV x) rfl
      rw [add_plain] at this
      exact this
    cases d
    · exact topo1U base bp p x g c w hx h hs hg.n
    · exact topo1D base bp p x g c w hx h hs hg.n
  | x :: y :: r, hl2, hv =>
    cases d
    · exact topo2U base bp p (x :: y :: r) v vb w (by simp) hl2 hv h hs hg
    · exact topo2D base bp p (x :: y :: r) v vb w (by simp) hl2 hv h hs hg


theorem keep_box {w w1 : World} {cs : Array Value} {t : TypeId} (h : Below (w.alloc (.cells cs t)).heap.size (w.alloc (.cells cs t)) w1) : w1.heap[w.heap.size]? = some (.cells cs t (0, 0)) :=
  (h.block _ (by simp)).trans (heap_alloc_new _ _)

set_option maxHeartbeats 2000000 in
set_option maxRecDepth 100000 in
theorem open_any (d : Bool) (A1 A2 : Option Addr) (c1 c2 : Nat) (zs : List Int) (es : List S42) (w : World)
    (hN : Kd.C (Kd.int .i64) w A1 zs.length zs) (hE : Kd.C k42 w A2 es.length es) (hn : zs.length ≤ 1000) (he : es.length ≤ 1000000) :
    Calls Try.prog 9 #[.agg #[.bool d, .slice A1 zs.length c1, .slice A2 es.length c2]] w fun e w' => e = .returned (.tuple #[gV d (w.heap.size + 2), .pointer (some ⟨w.heap.size + 2, 0, none⟩), .bool (readOk zs es)]) ∧ Below w.heap.size w w' ∧ (readOk zs es = true → PlOk w' (w.heap.size + 1) (w.heap.size + 2) (plOf d zs es)) := by
  have hb1 : Below w.heap.size w (w.alloc (.cells #[.bool d, .slice A1 zs.length c1, .slice A2 es.length c2] 25)) := (Below.refl _ _).alloc (Nat.le_refl _) _
  have HN := Aside0.mk (Kd.C_below hN hb1)
  have HE := Aside0.mk (Kd.C_below hE hb1)
  have HB1 := Aside0.mk hb1
  clear hN hE hb1
  cases d
  all_goals
    go_enter Try.func9, Try.ntmps9
    go_wp2_with (go_at_call 15; refine (read_any _ A1 A2 c1 c2 zs es _ HN.out HE.out hn he).mono ?_; rintro e w1 ⟨rfl, hbel, hok⟩; have hq := blk_cell (keep_box hbel) 0; replace hq := hq.trans (show _ = some (Value.bool _) from rfl); have HBEL := Aside0.mk hbel; have HOK := Aside0.mk hok; clear hbel hok)
    go_ret3
    exact ⟨rfl, HB1.out.trans (HBEL.out.mono (by simp)), fun h => by simpa using HOK.out h⟩

set_option maxHeartbeats 2000000 in
set_option maxRecDepth 100000 in
theorem isPath_any (d : Bool) (A1 A2 A3 : Option Addr) (c1 c2 c3 : Nat) (zs : List Int) (es : List S42) (xs : List Int) (w : World)
    (hN : Kd.C (Kd.int .i64) w A1 zs.length zs) (hE : Kd.C k42 w A2 es.length es) (hX : Kd.C (Kd.int .i64) w A3 xs.length xs) (hn : zs.length ≤ 1000) (he : es.length ≤ 1000000) (hx : xs.length ≤ 1000) (hok : readOk zs es = true) :
    Calls Try.prog 6 #[.agg #[.bool d, .slice A1 zs.length c1, .slice A2 es.length c2], .slice A3 xs.length c3] w fun e w' => e = .returned (.tuple #[.bool ((plOf d zs es).path xs), .bool false]) ∧ Below w.heap.size w w' := by
  have hb1 : Below w.heap.size w (w.alloc (.cells #[.bool d, .slice A1 zs.length c1, .slice A2 es.length c2] 25)) := (Below.refl _ _).alloc (Nat.le_refl _) _
  have HN := Aside0.mk (Kd.C_below hN hb1)
  have HE := Aside0.mk (Kd.C_below hE hb1)
  have HX := Aside0.mk (Kd.C_below hX hb1)
  have HB1 := Aside0.mk hb1
  have hro := hok
  have hnd : (srt zs).Pairwise (· < ·) := by unfold readOk at hok; rw [Bool.and_eq_true] at hok; exact of_decide_eq_true hok.1
  have hall : es.all (goodE zs) = true := by unfold readOk at hok; rw [Bool.and_eq_true] at hok; exact hok.2
  have HG := Aside0.mk (plOf_good d zs hn hnd es hall)
  have HS := Aside0.mk (show (plOf d zs es).ids.Pairwise (· < ·) by rw [plOf_ids]; exact hnd)
  have HRO := Aside0.mk hro
  clear hN hE hX hb1 hok hro hnd hall
  go_enter Try.func6, Try.ntmps6
  go_wp2_with fail
  refine (open_any d A1 A2 c1 c2 zs es _ HN.out HE.out hn he).mono ?_
  rintro e w1 ⟨rfl, hbel, hok⟩
  rw [HRO.out]
  have HBEL := Aside0.mk hbel
  have HOK := Aside0.mk (show PlOk w1 (w.heap.size + 1 + 1) (w.heap.size + 1 + 2) (plOf d zs es) by simpa using hok HRO.out)
  have HX1 := Aside0.mk (Kd.C_below HX.out hbel)
  clear hbel hok
  go_wp2_with fail
  refine (nodesOf_any A3 c3 xs _ HX1.out (by omega)).mono ?_
  rintro e w2 ⟨v, rfl, hown, hbel2⟩
  have HOWN := Aside0.mk hown
  have HOK2 := Aside0.mk (HOK.out.below hbel2)
  have HBEL2 := Aside0.mk hbel2
  clear hown hbel2
  go_wp2_with fail
  refine (topo_any d (w.heap.size + 1 + 1) (w.heap.size + 1 + 2) (plOf d zs es) xs v _ _ hx HOWN.out HOK2.out HS.out HG.out).mono ?_
  rintro e w3 ⟨rfl, hbel3⟩
  have HBEL3 := Aside0.mk hbel3
  clear hbel3
  go_wp2
  go_ret2
  refine ⟨rfl, ?_⟩
  have h1 := HB1.out.trans (HBEL.out.mono (by simp))
  have h2 := h1.trans (HBEL2.out.mono h1.size)
  exact h2.trans (HBEL3.out.mono h2.size)
end Go.Proofs.Ytlokbaljkmblaaa
