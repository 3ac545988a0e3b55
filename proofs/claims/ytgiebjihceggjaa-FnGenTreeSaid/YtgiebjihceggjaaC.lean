import Derived.Test.YtgiebjihceggjaaB
import Derived.Deep.RegionHeld3
import Derived.BigRegion
import Derived.Deep.Cut
set_option linter.unusedVariables false
set_option linter.unusedSimpArgs false
namespace Go.Proofs.Ytgiebjihceggjaa
open Go.RowKit Go.Proofs.YtgiebjihceggjaaW.PrintWords Go.Proofs.YtgiebjihceggjaaW.PrintLast Go.Proofs.YtgiebjihceggjaaW.PrintMore

/-- a node as an interface value -/
def nodeV (x : Int) : Value := .iface 140 (.int .i64 x)
/-- an edge as an interface value -/
def edgeV (e : Int × Int) : Value := .iface 139 (.agg #[nodeV e.1, nodeV e.2])
theorem Try.info71 : (Try.prog.info? 71).map (fun i => (i.zero, i.size, i.bytes)) = some (some .nilIface, 1, 16) := by kernel_rfl
theorem Try.info61 : (Try.prog.info? 61).map (fun i => (i.zero, i.size, i.bytes)) = some (some .nilIface, 1, 16) := by kernel_rfl

set_option maxHeartbeats 400000 in
theorem len_any (A : Option Addr) (n c : Nat) (w : World) :
    Calls Try.prog 88 #[.slice A n c] w fun e w' => e = .returned (.int .i64 n) ∧ w = w' := by
  go_enter Try.func88, Try.ntmps88
  go_wp2
  go_ret
  exact ⟨rfl, rfl⟩

set_option maxHeartbeats 400000 in
theorem id_any (A : Addr) (n c k : Nat) (x : Int) (w : World) (h : w.cell? (A.add k) = some (.int .i64 x)) (hk : k < n) (hb : n ≤ 100000) :
    Calls Try.prog 87 #[.slice (some A) n c, .int .i64 k] w fun e w' => e = .returned (.int .i64 x) ∧ w = w' := by
  go_enter Try.func87, Try.ntmps87
  go_wp2
  go_ret
  exact ⟨rfl, rfl⟩

set_option maxHeartbeats 400000 in
theorem nodeID_any (n : Int) (w : World) :
    Calls Try.prog 94 #[.int .i64 n] w fun e w' => e = .returned (.int .i64 n) ∧ w = w' := by
  go_enter Try.func94, Try.ntmps94
  go_wp2
  go_ret
  exact ⟨rfl, rfl⟩

set_option maxHeartbeats 400000 in
theorem newEdge_any (bp : Option Addr) (u v : Int) (w : World) :
    Calls Try.prog 81 #[.pointer bp, .iface 140 (.int .i64 u), .iface 140 (.int .i64 v)] w fun e w' => e = .returned (edgeV (u, v)) ∧ w = w' := by
  go_enter Try.func81, Try.ntmps81
  go_wp2
  go_ret
  exact ⟨rfl, rfl⟩

set_option maxHeartbeats 400000 in
theorem edgeFrom_any (u v : Value) (w : World) :
    Calls Try.prog 91 #[.agg #[u, v]] w fun e w' => e = .returned u ∧ Below w.heap.size w w' := by
  go_enter Try.func91, Try.ntmps91
  go_wp2
  go_ret
  exact ⟨rfl, (Below.refl _ _).alloc (Nat.le_refl _) _⟩

set_option maxHeartbeats 400000 in
theorem edgeTo_any (u v : Value) (w : World) :
    Calls Try.prog 93 #[.agg #[u, v]] w fun e w' => e = .returned v ∧ Below w.heap.size w w' := by
  go_enter Try.func93, Try.ntmps93
  go_wp2
  go_ret
  exact ⟨rfl, (Below.refl _ _).alloc (Nat.le_refl _) _⟩

set_option maxHeartbeats 400000 in
theorem indexFunc_none (f : Value) (c : Nat) (w : World) :
    Calls Try.prog 86 #[.slice none 0 c, f] w fun e w' => e = .returned (.int .i64 (-1)) ∧ w = w' := by
  go_enter Try.func86, Try.ntmps86
  go_wp2
  refine wp_loop_rounds 1 ?_
  rw [rounds_succ]
  go_wp2
  go_ret
  exact ⟨rfl, rfl⟩

set_option maxHeartbeats 400000 in
theorem containsFunc_none (f : Value) (c : Nat) (w : World) :
    Calls Try.prog 84 #[.slice none 0 c, f] w fun e w' => e = .returned (.bool false) ∧ w = w' := by
  go_enter Try.func84, Try.ntmps84
  go_wp2_with (go_at_call 86; refine (indexFunc_none _ _ _).mono ?_; rintro e w1 ⟨rfl, rfl⟩)
  go_ret
  exact ⟨rfl, rfl⟩

/-- the builder, and what it holds -/
structure Bld (w : World) (base bp : Nat) (d : Bool) (vn : Value) (ns : List Int) (ve : Value) (es : List (Int × Int)) : Prop where
  blk : w.heap[bp]? = some (.cells #[.bool d, vn, ve, .slice none 0 0] 39 (0, 0))
  hb : base ≤ bp
  ownN : w.ownsRow base 61 1 vn ns.length (ns.map nodeV)
  ownE : w.ownsRow base 71 1 ve es.length (es.map edgeV)

/-- the blocks of numbers stay -/
def Keeps2 (w w' : World) : Prop := ∀ (k : Nat) (c : Array Value), w.heap[k]? = some (Obj.cells c 2 (0, 0)) → w'.heap[k]? = some (Obj.cells c 2 (0, 0))
theorem Keeps2.refl (w : World) : Keeps2 w w := fun _ _ h => h
theorem Keeps2.trans {a b c : World} (h : Keeps2 a b) (k : Keeps2 b c) : Keeps2 a c := fun i x hx => k i x (h i x hx)
theorem Keeps2.of_below {w w' : World} (h : Below w.heap.size w w') : Keeps2 w w' := fun k c hk => (h.block k (blk_lt hk)).trans hk
theorem Keeps2.own {w w' : World} (h : Keeps2 w w') {base size n : Nat} {v : Value} {xs : List Value} (ho : w.ownsRow base 2 size v n xs) : w'.ownsRow base 2 size v n xs := by
  refine own_of_heap ho (fun k hk => ?_)
  obtain ⟨c, hc⟩ := own_block ho hk
  rw [h k c hc, hc]

theorem Bld.below {w w' : World} {base bp : Nat} {d : Bool} {vn : Value} {ns : List Int} {ve : Value} {es : List (Int × Int)} (h : Bld w base bp d vn ns ve es) (hb : Below w.heap.size w w') : Bld w' base bp d vn ns ve es :=
  ⟨(hb.block _ (blk_lt h.blk)).trans h.blk, h.hb, pw_own_below h.ownN hb, pw_own_below h.ownE hb⟩

theorem Try.underlying37' : Try.prog.underlying 37 = some (.slice 71) := Try.underlying37

/-- one edge more -/
theorem Bld.stepE {w w1 : World} {base bp : Nat} {d : Bool} {vn : Value} {ns : List Int} {ve : Value} {es : List (Int × Int)} (h : Bld w base bp d vn ns ve es) {v' : Value} {e : Int × Int}
    (hown : w1.ownsRow base 71 1 v' (es.length + 1) (es.map edgeV ++ [edgeV e])) (hg : w.grownBy w1 ve.ownBlock) :
    Bld (w1.setCell ⟨bp, 2, none⟩ v') base bp d vn ns v' (es ++ [e]) ∧ Keeps2 w (w1.setCell ⟨bp, 2, none⟩ v') ∧ Below base w (w1.setCell ⟨bp, 2, none⟩ v') := by
  have hne : ∀ {k : Nat} {c : Array Value} {t : TypeId}, w.heap[k]? = some (.cells c t (0,0)) → t ≠ 71 → w1.heap[k]? = some (.cells c t (0,0)) := by
    intro k c t hk ht
    rw [hg.block k (blk_lt hk) (fun hc => ?_), hk]
    obtain ⟨c', hc'⟩ := own_block h.ownE hc.symm
    exact ht (blk_type hk hc')
  have hb1 := hne h.blk (by decide)
  refine ⟨⟨?_, h.hb, ?_, ?_⟩, ?_, ?_⟩
  · have := blk_set hb1 2 v'
    simpa using this
  · refine own_of_heap h.ownN (fun k hk => ?_)
    obtain ⟨c, hc⟩ := own_block h.ownN hk
    rw [Below.heap_setCell _ _ _ _ (by rintro rfl; exact absurd (blk_type hc h.blk) (by decide)), hne hc (by decide), hc]
  · have h3 : w1.ownsRow base 71 1 v' (es ++ [e]).length ((es ++ [e]).map edgeV) := by simpa using hown
    refine own_of_heap h3 (fun k hk => ?_)
    obtain ⟨c, hc⟩ := own_block h3 hk
    rw [Below.heap_setCell _ _ _ _ (by rintro rfl; exact absurd (blk_type hc hb1) (by decide))]
  · intro k c hk
    rw [Below.heap_setCell _ _ _ _ (by rintro rfl; exact absurd (blk_type hk h.blk) (by decide))]
    exact hne hk (by decide)
  · have hbb : Below base w w := Below.refl _ _
    have h1 : base ≤ w.heap.size := Nat.le_trans h.hb (Nat.le_of_lt (blk_lt h.blk))
    exact (hbb.grown hg h1 (fun k hk => own_base h.ownE k hk)).setCell h.hb _

/-- one node more -/
theorem Bld.stepN {w w1 : World} {base bp : Nat} {d : Bool} {vn : Value} {ns : List Int} {ve : Value} {es : List (Int × Int)} (h : Bld w base bp d vn ns ve es) {v' : Value} {x : Int}
    (hown : w1.ownsRow base 61 1 v' (ns.length + 1) (ns.map nodeV ++ [nodeV x])) (hg : w.grownBy w1 vn.ownBlock) :
    Bld (w1.setCell ⟨bp, 1, none⟩ v') base bp d v' (ns ++ [x]) ve es ∧ Keeps2 w (w1.setCell ⟨bp, 1, none⟩ v') ∧ Below base w (w1.setCell ⟨bp, 1, none⟩ v') := by
  have hne : ∀ {k : Nat} {c : Array Value} {t : TypeId}, w.heap[k]? = some (.cells c t (0,0)) → t ≠ 61 → w1.heap[k]? = some (.cells c t (0,0)) := by
    intro k c t hk ht
    rw [hg.block k (blk_lt hk) (fun hc => ?_), hk]
    obtain ⟨c', hc'⟩ := own_block h.ownN hc.symm
    exact ht (blk_type hk hc')
  have hb1 := hne h.blk (by decide)
  refine ⟨⟨?_, h.hb, ?_, ?_⟩, ?_, ?_⟩
  · have := blk_set hb1 1 v'
    simpa using this
  · have h3 : w1.ownsRow base 61 1 v' (ns ++ [x]).length ((ns ++ [x]).map nodeV) := by simpa using hown
    refine own_of_heap h3 (fun k hk => ?_)
    obtain ⟨c, hc⟩ := own_block h3 hk
    rw [Below.heap_setCell _ _ _ _ (by rintro rfl; exact absurd (blk_type hc hb1) (by decide))]
  · refine own_of_heap h.ownE (fun k hk => ?_)
    obtain ⟨c, hc⟩ := own_block h.ownE hk
    rw [Below.heap_setCell _ _ _ _ (by rintro rfl; exact absurd (blk_type hc h.blk) (by decide)), hne hc (by decide), hc]
  · intro k c hk
    rw [Below.heap_setCell _ _ _ _ (by rintro rfl; exact absurd (blk_type hk h.blk) (by decide))]
    exact hne hk (by decide)
  · have hbb : Below base w w := Below.refl _ _
    have h1 : base ≤ w.heap.size := Nat.le_trans h.hb (Nat.le_of_lt (blk_lt h.blk))
    exact (hbb.grown hg h1 (fun k hk => own_base h.ownN k hk)).setCell h.hb _
end Go.Proofs.Ytgiebjihceggjaa
