import Derived.Test.YtddklkgcodjijaaGreatAG7
import Derived.Shelf.SlicesE.Reverse
import Derived.Test.YtddklkgcodjijaaGreatAG6
import Derived.Test.YtddklkgcodjijaaGreatAG1
import Derived.Test.YtddklkgcodjijaaGreatAG0
set_option linter.unusedVariables false
set_option linter.unusedSimpArgs false
/- slices.Reverse of nodes, and of lists of nodes. -/
namespace Go.Proofs
open Go.Shelf
def Tryz.laysSlE35_f98_ren : Go.Shelf.Ren := ⟨fun | 35 => 98 | n => n, fun | 22 => 60 | 23 => 88 | 0 => 0 | 3 => 3 | 4 => 4 | n => n, fun | n => n⟩
theorem Tryz.laysSlE35_f98 : Go.Proofs.SlLaysE.n35 Tryz.prog Tryz.laysSlE35_f98_ren := {
  mixed := by kernel_rfl
  f35 := ⟨Tryz.f98.name, by decide, Tryz.func98.trans (congrArg some (by kernel_rfl))⟩
  t0 := Tryz.underlying0
  a0 := Tryz.isAgg0
  z0 := Tryz.sizeOf0
  v0 := Tryz.zeroValue0
  t3 := Tryz.underlying3
  a3 := Tryz.isAgg3
  z3 := Tryz.sizeOf3
  v3 := Tryz.zeroValue3
  t4 := Tryz.underlying4
  a4 := Tryz.isAgg4
  z4 := Tryz.sizeOf4
  v4 := Tryz.zeroValue4
  t22 := Tryz.underlying60
  a22 := Tryz.isAgg60
  z22 := Tryz.sizeOf60
  v22 := Tryz.zeroValue60
  a23 := Tryz.isAgg88
  z23 := Tryz.sizeOf88 }
def Tryz.laysSlE35_f101_ren : Go.Shelf.Ren := ⟨fun | 35 => 101 | n => n, fun | 22 => 121 | 23 => 60 | 0 => 0 | 3 => 3 | 4 => 4 | n => n, fun | n => n⟩
theorem Tryz.laysSlE35_f101 : Go.Proofs.SlLaysE.n35 Tryz.prog Tryz.laysSlE35_f101_ren := {
  mixed := by kernel_rfl
  f35 := ⟨Tryz.f101.name, by decide, Tryz.func101.trans (congrArg some (by kernel_rfl))⟩
  t0 := Tryz.underlying0
  a0 := Tryz.isAgg0
  z0 := Tryz.sizeOf0
  v0 := Tryz.zeroValue0
  t3 := Tryz.underlying3
  a3 := Tryz.isAgg3
  z3 := Tryz.sizeOf3
  v3 := Tryz.zeroValue3
  t4 := Tryz.underlying4
  a4 := Tryz.isAgg4
  z4 := Tryz.sizeOf4
  v4 := Tryz.zeroValue4
  t22 := Tryz.underlying121
  a22 := Tryz.isAgg121
  z22 := Tryz.sizeOf121
  v22 := Tryz.zeroValue121
  a23 := Tryz.isAgg60
  z23 := Tryz.sizeOf60 }
end Go.Proofs
namespace Go.Proofs.YtddklkgcodjijaaGreat.R
open Go.RowKit Go.Lab Go.Maps Go.Proofs.YtddklkgcodjijaaGreatW.PrintWords Go.Proofs.YtddklkgcodjijaaGreatW.PrintLast Go.Proofs.YtddklkgcodjijaaGreatW.PrintMore PL

/-- a value of one cell -/
abbrev OneV := {u : Value // u.oneCell' = true}
instance : Inhabited OneV := ⟨⟨.nilIface, rfl⟩⟩
theorem oneV_list : ∀ (vs : List Value), (∀ u ∈ vs, u.oneCell' = true) → ∃ zs : List OneV, zs.map (·.1) = vs
  | [], _ => ⟨[], rfl⟩
  | v :: vs, h => by
    obtain ⟨zs, e⟩ := oneV_list vs (fun u hu => h u (by simp [hu]))
    exact ⟨⟨v, h v (by simp)⟩ :: zs, by simp [e]⟩
open Go.Sort in
theorem rev_law {F : Nat} {T : TypeId} (base : Nat) (v : Value) (vs : List Value) (w : World) (h : w.ownsRow base T 1 v vs.length vs) (hone : ∀ u ∈ vs, u.oneCell' = true) (hn : vs.length ≤ 100000)
    (h0 : ∀ (a : Option Addr) (cap : Nat) (w : World), Calls Tryz.prog F #[.slice a 0 cap] w fun e w' => e = .returned (.tuple #[]) ∧ w' = w)
    (h1 : ∀ (blk cap : Nat) (zs : List OneV) (w : World), Holds (fun u : OneV => u.1) w blk 0 zs.toArray → zs.length ≤ 9223372036854775807 → Calls Tryz.prog F #[.slice (some ⟨blk, 0, none⟩) zs.length cap] w fun e w' => e = .returned (.tuple #[]) ∧ ∃ n, w' = putRow (fun u : OneV => u.1) (Go.Sort.ahead w n) blk 0 zs.reverse.toArray) :
    Calls Tryz.prog F #[v] w fun e w' => e = .returned (.tuple #[]) ∧ w'.ownsRow base T 1 v vs.length vs.reverse ∧ w.grownBy w' v.ownBlock := by
  by_cases hz : vs.length = 0
  · have hx : vs = [] := List.eq_nil_of_length_eq_zero hz
    subst hx
    obtain ⟨A, c, rfl⟩ := own_slice h
    refine (h0 A c w).mono ?_
    rintro e w' ⟨rfl, rfl⟩
    exact ⟨rfl, h, ⟨rfl, rfl, rfl, Nat.le_refl _, fun _ _ _ => rfl⟩⟩
  · rcases h.2 with ⟨_, hn0⟩ | ⟨g, cap, cur, rfl, hb1, hg, hc1, hc2, hcs, htk⟩
    · exact absurd hn0 hz
    · obtain ⟨zs, rfl⟩ := oneV_list vs hone
      have hgl : g < w.heap.size := blk_lt hg
      rw [List.length_map] at hn hz hc1 htk
      have hH : Holds (fun u : OneV => u.1) w g 0 zs.toArray := by
        intro j hj
        have hj' : j < zs.length := by simpa using hj
        refine ⟨?_, blk_frozen hg _⟩
        rw [Nat.zero_add, blk_cell hg]
        have h2 : (cur.toList.take (zs.length * 1))[j]? = some zs[j].1 := by rw [htk]; simp [hj']
        rw [List.getElem?_take] at h2
        split at h2
        · rw [getElem!_pos zs.toArray j (by simpa using hj)]
          simpa using h2
        · cases h2
      rw [List.length_map]
      refine (h1 g cap zs w hH (by omega)).mono ?_
      rintro e w' ⟨rfl, n, rfl⟩
      have hsz : (putRow (fun u : OneV => u.1) (Go.Sort.ahead w n) g 0 zs.reverse.toArray).heap.size = w.heap.size := by simp [putRow, mapBlock, Go.Sort.ahead]
      have hh : (putRow (fun u : OneV => u.1) (Go.Sort.ahead w n) g 0 zs.reverse.toArray).heap[g]? = some (.cells (putCells (fun u : OneV => u.1) 0 zs.reverse.toArray cur) T (0, 0)) := by
        unfold putRow mapBlock
        have : (Go.Sort.ahead w n).heap = w.heap := rfl
        simp only [this, Array.getElem?_modify, if_true]
        rw [hg]
        rfl
      have hsl : (putCells (fun u : OneV => u.1) 0 zs.reverse.toArray cur).size = cur.size := by simp [putCells]
      refine ⟨rfl, ⟨by simp, .inr ⟨g, cap, _, rfl, hb1, hh, hc1, hc2, by rw [hsl]; exact hcs, ?_⟩⟩, ⟨rfl, rfl, rfl, by rw [hsz]; exact Nat.le_refl _, fun k hk hne => ?_⟩⟩
      · rw [Nat.mul_one, ← List.map_reverse]
        exact putCells_takeE (fun u : OneV => u.1) cur zs.length zs.reverse (by simp) (by omega)
      · have hkg : k ≠ g := fun e => hne (by simp [Value.ownBlock, e])
        unfold putRow mapBlock
        have : (Go.Sort.ahead w n).heap = w.heap := rfl
        simp only [this, Array.getElem?_modify]
        rw [if_neg (Ne.symm hkg)]
open Go.Sort in
theorem revN_own (base : Nat) (v : Value) (vs : List Value) (w : World) (h : w.ownsRow base 88 1 v vs.length vs) (hone : ∀ u ∈ vs, u.oneCell' = true) (hn : vs.length ≤ 100000) :
    Calls Tryz.prog 98 #[v] w fun e w' => e = .returned (.tuple #[]) ∧ w'.ownsRow base 88 1 v vs.length vs.reverse ∧ w.grownBy w' v.ownBlock :=
  rev_law base v vs w h hone hn (fun a cap w => AnyE.slices_Reverse_empty Tryz.laysSlE35_f98 a cap w) (fun blk cap zs w hH hs => AnyE.slices_Reverse Tryz.laysSlE35_f98 (fun u : OneV => u.1) (fun u => u.2) blk 0 cap zs w hH hs)
open Go.Sort in
theorem revL_own (base : Nat) (v : Value) (vs : List Value) (w : World) (h : w.ownsRow base 60 1 v vs.length vs) (hone : ∀ u ∈ vs, u.oneCell' = true) (hn : vs.length ≤ 100000) :
    Calls Tryz.prog 101 #[v] w fun e w' => e = .returned (.tuple #[]) ∧ w'.ownsRow base 60 1 v vs.length vs.reverse ∧ w.grownBy w' v.ownBlock :=
  rev_law base v vs w h hone hn (fun a cap w => AnyE.slices_Reverse_empty Tryz.laysSlE35_f101 a cap w) (fun blk cap zs w hH hs => AnyE.slices_Reverse Tryz.laysSlE35_f101 (fun u : OneV => u.1) (fun u => u.2) blk 0 cap zs w hH hs)
end Go.Proofs.YtddklkgcodjijaaGreat.R

/- Strongly connected components by Tarjan's walk, in plain lists. -/
namespace Go.Proofs.YtddklkgcodjijaaGreat.R

structure TS where
  idx : Nat
  num : Int → Nat
  low : Int → Nat
  stk : List Int
  out : List (List Int)
def updN (f : Int → Nat) (x : Int) (n : Nat) : Int → Nat := fun y => if y = x then n else f y
theorem updN_eq (f : Int → Nat) (x : Int) (n : Nat) : updN f x n x = n := if_pos rfl
theorem updN_ne (f : Int → Nat) {x y : Int} (n : Nat) (h : y ≠ x) : updN f x n y = f y := if_neg h
def TS.enter (s : TS) (v : Int) : TS := ⟨s.idx + 1, updN s.num v (s.idx + 1), updN s.low v (s.idx + 1), s.stk ++ [v], s.out⟩
def TS.lower (s : TS) (v : Int) (n : Nat) : TS := { s with low := updN s.low v (min (s.low v) n) }
def TS.pop (s : TS) (v : Int) : TS := { s with stk := s.stk.takeWhile (fun x => decide (x ≠ v)), out := s.out ++ [(s.stk.dropWhile fun x => decide (x ≠ v)).reverse] }
def TS.leave (s : TS) (v : Int) : TS := if s.low v = s.num v then s.pop v else s
def succsT (rec : Int → TS → Option TS) (v : Int) : List Int → TS → Option TS
  | [], s => some s
  | w :: ws, s =>
    if s.num w = 0 then (rec w s).bind fun s' => succsT rec v ws (s'.lower v (s'.low w))
    else if w ∈ s.stk then succsT rec v ws (s.lower v (s.num w))
    else succsT rec v ws s
/-- one walk from a node, to a depth -/
def strongT (adj : Int → List Int) : Nat → Int → TS → Option TS
  | 0, _, _ => none
  | k + 1, v, s => (succsT (strongT adj k) v (adj v) (s.enter v)).map fun s' => s'.leave v
/-- all nodes, one after the other -/
def allT (adj : Int → List Int) (k : Nat) : List Int → TS → Option TS
  | [], s => some s
  | v :: vs, s => if s.num v = 0 then (strongT adj k v s).bind (allT adj k vs) else allT adj k vs s
def TS.none : TS := ⟨0, fun _ => 0, fun _ => 0, [], []⟩

/-- what holds between the steps; g: the nodes whose walks are under way -/
structure TInv (adj : Int → List Int) (g : List Int) (s : TS) : Prop where
  bd : ∀ x, s.num x ≤ s.idx
  srt : s.stk.Pairwise fun x y => s.num x < s.num y
  vis : ∀ x ∈ s.stk, s.num x ≠ 0
  gray : ∀ x ∈ g, x ∈ s.stk
  fwd : s.stk.Pairwise fun x y => RchW adj x y
  bck : ∀ y ∈ s.stk, ∃ x ∈ g, s.num x ≤ s.num y ∧ RchW adj y x
  cls : ∀ x, s.num x ≠ 0 → x ∉ g → ∀ y ∈ adj x, s.num y ≠ 0
  all : ∀ x, s.num x ≠ 0 ↔ x ∈ s.stk ∨ ∃ c ∈ s.out, x ∈ c
  apart : ∀ x ∈ s.stk, ∀ c ∈ s.out, x ∉ c
  comp : ∀ c ∈ s.out, c.Nodup ∧ ∃ r ∈ c, ∀ y, y ∈ c ↔ RchW adj r y ∧ RchW adj y r
  fin : ∀ c ∈ s.out, ∀ x ∈ c, ∀ y ∈ adj x, ∃ c' ∈ s.out, y ∈ c'
  dis : s.out.Pairwise fun a b => ∀ x ∈ a, x ∉ b

structure TPost (adj : Int → List Int) (g : List Int) (v : Int) (s s' : TS) : Prop where
  inv : TInv adj g s'
  num : ∀ x, s.num x ≠ 0 → s'.num x = s.num x
  low : ∀ x, s.num x ≠ 0 → s'.low x = s.low x
  nv : s'.num v = s.idx + 1
  new : ∃ nw, s'.stk = s.stk ++ nw ∧ ∀ y ∈ nw, ∀ z ∈ s.stk, z ∈ adj y → s'.low v ≤ s.num z
  lo : s'.low v = s.idx + 1 ∨ ∃ z ∈ s.stk, s.num z = s'.low v ∧ RchW adj v z

structure TLoop (adj : Int → List Int) (g : List Int) (v : Int) (done : List Int) (s0 s : TS) : Prop where
  inv : TInv adj (g ++ [v]) s
  stk : ∃ nw, s.stk = s0.stk ++ v :: nw ∧ ∀ y ∈ nw, ∀ z ∈ s0.stk, z ∈ adj y → s.low v ≤ s0.num z
  num : ∀ x, s0.num x ≠ 0 → s.num x = s0.num x
  low : ∀ x, s0.num x ≠ 0 → s.low x = s0.low x
  nv : s.num v = s0.idx + 1
  le : s.low v ≤ s.num v
  lo : s.low v = s.num v ∨ ∃ z ∈ s0.stk, s0.num z = s.low v ∧ RchW adj v z
  dn : ∀ w ∈ done, s.num w ≠ 0 ∧ (w ∈ s0.stk → s.low v ≤ s0.num w)

theorem RchW.one {adj : Int → List Int} {a b : Int} (h : b ∈ adj a) : RchW adj a b := RchW.here.step h

theorem TInv.enter {adj : Int → List Int} {g : List Int} {s : TS} {v : Int} (h : TInv adj g s) (hv : s.num v = 0) (hg : ∀ x ∈ g, RchW adj x v) : TLoop adj g v [] s (s.enter v) := by
  have hne : ∀ x, s.num x ≠ 0 → x ≠ v := fun x hx e => hx (e ▸ hv)
  have hn : ∀ x, s.num x ≠ 0 → (s.enter v).num x = s.num x := fun x hx => updN_ne _ _ (hne x hx)
  have hvv : (s.enter v).num v = s.idx + 1 := updN_eq _ _ _
  have hlv : (s.enter v).low v = s.idx + 1 := updN_eq _ _ _
  refine ⟨⟨fun x => ?_, ?_, fun x hx => ?_, fun x hx => ?_, ?_, fun y hy => ?_, fun x hx hxg y hy => ?_, fun x => ?_, fun x hx c hc => ?_, h.comp, h.fin, h.dis⟩, ⟨[], rfl, fun y hy => by cases hy⟩, hn, fun x hx => updN_ne _ _ (hne x hx), hvv, by rw [hlv, hvv]; exact Nat.le_refl _, .inl (by rw [hlv, hvv]), fun w hw => by cases hw⟩
  · show updN s.num v (s.idx + 1) x ≤ s.idx + 1
    by_cases e : x = v
    · subst e; rw [updN_eq]; exact Nat.le_refl _
    · rw [updN_ne _ _ e]; have := h.bd x; omega
  · show (s.stk ++ [v]).Pairwise _
    refine List.pairwise_append.2 ⟨h.srt.imp_of_mem (fun {a b} ha hb hab => by rw [hn a (h.vis a ha), hn b (h.vis b hb)]; exact hab), List.pairwise_singleton _ _, fun a ha b hb => ?_⟩
    obtain rfl := List.mem_singleton.1 hb
    rw [hn a (h.vis a ha), hvv]
    have := h.bd a
    omega
  · rcases List.mem_append.1 (show x ∈ s.stk ++ [v] from hx) with hx | hx
    · rw [hn x (h.vis x hx)]; exact h.vis x hx
    · obtain rfl := List.mem_singleton.1 hx
      rw [hvv]; omega
  · show x ∈ s.stk ++ [v]
    rcases List.mem_append.1 hx with hx | hx
    · exact List.mem_append.2 (.inl (h.gray x hx))
    · exact List.mem_append.2 (.inr hx)
  · show (s.stk ++ [v]).Pairwise _
    refine List.pairwise_append.2 ⟨h.fwd, List.pairwise_singleton _ _, fun a ha b hb => ?_⟩
    obtain rfl := List.mem_singleton.1 hb
    obtain ⟨x, hx, _, hr⟩ := h.bck a ha
    exact hr.trans (hg x hx)
  · rcases List.mem_append.1 (show y ∈ s.stk ++ [v] from hy) with hy | hy
    · obtain ⟨x, hx, hle, hr⟩ := h.bck y hy
      refine ⟨x, List.mem_append.2 (.inl hx), ?_, hr⟩
      rw [hn x (h.vis x (h.gray x hx)), hn y (h.vis y hy)]
      exact hle
    · obtain rfl := List.mem_singleton.1 hy
      exact ⟨y, by simp, Nat.le_refl _, RchW.here⟩
  · have hxv : x ≠ v := fun e => hxg (by simp [e])
    have hx0 : s.num x ≠ 0 := by rw [show (s.enter v).num x = s.num x from updN_ne _ _ hxv] at hx; exact hx
    have hy0 := h.cls x hx0 (fun hh => hxg (by simp [hh])) y hy
    rw [hn y hy0]
    exact hy0
  · by_cases e : x = v
    · subst e
      rw [hvv]
      exact ⟨fun _ => .inl (by show x ∈ s.stk ++ [x]; simp), fun _ => by omega⟩
    · rw [show (s.enter v).num x = s.num x from updN_ne _ _ e, h.all x]
      show _ ↔ x ∈ s.stk ++ [v] ∨ _
      simp [e]
      rfl
  · rcases List.mem_append.1 (show x ∈ s.stk ++ [v] from hx) with hx | hx
    · exact h.apart x hx c hc
    · obtain rfl := List.mem_singleton.1 hx
      exact fun hh => ((h.all x).2 (.inr ⟨c, hc, hh⟩)) hv

section
variable {adj : Int → List Int} {g done : List Int} {v w : Int} {s0 s s' : TS}

theorem TInv.lower (h : TInv adj g s) (n : Nat) : TInv adj g (s.lower v n) := ⟨h.bd, h.srt, h.vis, h.gray, h.fwd, h.bck, h.cls, h.all, h.apart, h.comp, h.fin, h.dis⟩
theorem lower_low (s : TS) (v : Int) (n : Nat) : (s.lower v n).low v = min (s.low v) n := updN_eq _ _ _
theorem TLoop.vOut (h : TLoop adj g v done s0 s) (hv : s0.num v = 0) (i0 : TInv adj g s0) : v ∉ s0.stk := fun hh => i0.vis v hh hv
/-- numbers on the old stack are less -/
theorem TLoop.olds (h : TLoop adj g v done s0 s) (i0 : TInv adj g s0) {z : Int} (hz : z ∈ s0.stk) : s.num z = s0.num z ∧ s0.num z < s.num v := by
  have h1 := h.num z (i0.vis z hz)
  have h2 := i0.bd z
  have h3 := h.nv
  omega
/-- a node that stands on the stack -/
theorem TLoop.onStk (h : TLoop adj g v done s0 s) (i0 : TInv adj g s0) (hv : s0.num v = 0) (hw : w ∈ adj v) (hs : w ∈ s.stk) : TLoop adj g v (done ++ [w]) s0 (s.lower v (s.num w)) := by
  obtain ⟨nw, e, hc⟩ := h.stk
  have hl := lower_low s v (s.num w)
  refine ⟨h.inv.lower _, ⟨nw, e, fun y hy z hz hzy => by rw [hl]; exact Nat.le_trans (Nat.min_le_left _ _) (hc y hy z hz hzy)⟩, h.num, fun x hx => ?_, h.nv, by rw [hl]; exact Nat.le_trans (Nat.min_le_left _ _) h.le, ?_, fun x hx => ?_⟩
  · show updN s.low v _ x = _
    rw [updN_ne _ _ (show x ≠ v from fun e => hx (by rw [e]; exact hv))]
    exact h.low x hx
  · rw [hl]
    show _ = s.num v ∨ _
    rcases Nat.lt_or_ge (s.num w) (s.low v) with hlt | hge
    · right
      rw [Nat.min_eq_right (Nat.le_of_lt hlt)]
      have hle := h.le
      rw [e] at hs
      rcases List.mem_append.1 hs with hs | hs
      · exact ⟨w, hs, ((h.olds i0 hs).1).symm, RchW.one hw⟩
      · exfalso
        have hsrt := h.inv.srt
        rw [e, List.pairwise_append] at hsrt
        rcases List.mem_cons.1 hs with rfl | hs
        · omega
        · have := (List.pairwise_cons.1 hsrt.2.1).1 w hs
          omega
    · rw [Nat.min_eq_left hge]; exact h.lo
  · rw [hl]
    rcases List.mem_append.1 hx with hx | hx
    · exact ⟨(h.dn x hx).1, fun hh => Nat.le_trans (Nat.min_le_left _ _) ((h.dn x hx).2 hh)⟩
    · obtain rfl := List.mem_singleton.1 hx
      exact ⟨h.inv.vis x hs, fun hh => by rw [← (h.olds i0 hh).1]; exact Nat.min_le_right _ _⟩
/-- a node that is done -/
theorem TLoop.gone (h : TLoop adj g v done s0 s) (i0 : TInv adj g s0) (hn : s.num w ≠ 0) (hs : w ∉ s.stk) : TLoop adj g v (done ++ [w]) s0 s := by
  refine ⟨h.inv, h.stk, h.num, h.low, h.nv, h.le, h.lo, fun x hx => ?_⟩
  rcases List.mem_append.1 hx with hx | hx
  · exact h.dn x hx
  · obtain rfl := List.mem_singleton.1 hx
    obtain ⟨nw, e, _⟩ := h.stk
    exact ⟨hn, fun hh => absurd (by rw [e]; exact List.mem_append.2 (.inl hh)) hs⟩
/-- a new node was walked from -/
theorem TLoop.walked (h : TLoop adj g v done s0 s) (i0 : TInv adj g s0) (hv : s0.num v = 0) (hw : w ∈ adj v) (hn : s.num w = 0) (p : TPost adj (g ++ [v]) w s s') : TLoop adj g v (done ++ [w]) s0 (s'.lower v (s'.low w)) := by
  obtain ⟨nw, e, hc⟩ := h.stk
  obtain ⟨nw2, e2, hc2⟩ := p.new
  have hl := lower_low s' v (s'.low w)
  have nv0 : s.num v ≠ 0 := by rw [h.nv]; omega
  have nv' : s'.num v = s.num v := p.num v nv0
  have lv' : s'.low v = s.low v := p.low v nv0
  rw [lv'] at hl
  have old : ∀ z ∈ s0.stk, s.num z = s0.num z ∧ s.num z ≠ 0 ∧ z ∈ s.stk := fun z hz => ⟨(h.olds i0 hz).1, by rw [(h.olds i0 hz).1]; exact i0.vis z hz, by rw [e]; exact List.mem_append.2 (.inl hz)⟩
  have hbig : s.num v ≤ s.idx := h.inv.bd v
  refine ⟨p.inv.lower _, ⟨nw ++ nw2, by show s'.stk = _; rw [e2, e]; simp, fun y hy z hz hzy => ?_⟩, fun x hx => ?_, fun x hx => ?_, by show s'.num v = _; rw [nv', h.nv], ?_, ?_, fun x hx => ?_⟩
  · rw [hl]
    rcases List.mem_append.1 hy with hy | hy
    · exact Nat.le_trans (Nat.min_le_left _ _) (hc y hy z hz hzy)
    · have := hc2 y hy z (old z hz).2.2 hzy
      rw [(old z hz).1] at this
      exact Nat.le_trans (Nat.min_le_right _ _) this
  · show s'.num x = _
    have := h.num x hx
    rw [p.num x (by rw [this]; exact hx)]
    exact this
  · show updN s'.low v _ x = _
    rw [updN_ne _ _ (show x ≠ v from fun e => hx (by rw [e]; exact hv)), p.low x (by rw [h.num x hx]; exact hx)]
    exact h.low x hx
  · rw [hl]
    show _ ≤ s'.num v
    rw [nv']
    exact Nat.le_trans (Nat.min_le_left _ _) h.le
  · rw [hl]
    show _ = s'.num v ∨ _
    rw [nv']
    rcases p.lo with he | ⟨z, hz, hzn, hzr⟩
    · rw [he, Nat.min_eq_left (by have := h.le; omega)]
      exact h.lo
    · rcases Nat.lt_or_ge (s'.low w) (s.low v) with hlt | hge
      · right
        rw [Nat.min_eq_right (Nat.le_of_lt hlt)]
        have hle := h.le
        rw [e] at hz
        rcases List.mem_append.1 hz with hz | hz
        · exact ⟨z, hz, by rw [← (h.olds i0 hz).1]; exact hzn, (RchW.one hw).trans hzr⟩
        · exfalso
          have hsrt := h.inv.srt
          rw [e, List.pairwise_append] at hsrt
          rcases List.mem_cons.1 hz with rfl | hz
          · omega
          · have := (List.pairwise_cons.1 hsrt.2.1).1 z hz
            omega
      · rw [Nat.min_eq_left hge]; exact h.lo
  · rw [hl]
    show s'.num x ≠ 0 ∧ _
    rcases List.mem_append.1 hx with hx | hx
    · exact ⟨by rw [p.num x (h.dn x hx).1]; exact (h.dn x hx).1, fun hh => Nat.le_trans (Nat.min_le_left _ _) ((h.dn x hx).2 hh)⟩
    · obtain rfl := List.mem_singleton.1 hx
      exact ⟨by rw [p.nv]; omega, fun hh => absurd hn (old x hh).2.1⟩

theorem cut_at (old nw : List Int) (v : Int) (h : v ∉ old) : (old ++ v :: nw).takeWhile (fun x => decide (x ≠ v)) = old ∧ (old ++ v :: nw).dropWhile (fun x => decide (x ≠ v)) = v :: nw := by
  induction old with
  | nil => simp
  | cons a old ih =>
    have ha : a ≠ v := fun e => h (by simp [e])
    have := ih (fun hh => h (by simp [hh]))
    constructor
    · rw [List.cons_append, List.takeWhile_cons, if_pos (by simpa using ha), this.1]
    · rw [List.cons_append, List.dropWhile_cons, if_pos (by simpa using ha), this.2]

/-- a node's walk ends -/
theorem TLoop.leave (h : TLoop adj g v done s0 s) (i0 : TInv adj g s0) (hv : s0.num v = 0) (hg : ∀ x ∈ g, RchW adj x v) (hd : ∀ w ∈ adj v, w ∈ done) : TPost adj g v s0 (s.leave v) := by
  obtain ⟨nw, e, hc⟩ := h.stk
  have hvo := h.vOut hv i0
  have inv := h.inv
  have hsrt := inv.srt
  have hfwd := inv.fwd
  rw [e, List.pairwise_append] at hsrt hfwd
  have hvs := List.pairwise_cons.1 hsrt.2.1
  have hvf := List.pairwise_cons.1 hfwd.2.1
  have hgo : ∀ x ∈ g, x ∈ s0.stk := i0.gray
  have hvg : v ∉ g := fun hh => hvo (hgo v hh)
  -- a node above v comes back to v
  have back : ∀ y ∈ nw, RchW adj y v := fun y hy => by
    obtain ⟨x, hx, _, hr⟩ := inv.bck y (by rw [e]; simp [hy])
    rcases List.mem_append.1 hx with hx | hx
    · exact hr.trans (hg x hx)
    · obtain rfl := List.mem_singleton.1 hx
      exact hr
  have vdone : ∀ w ∈ adj v, s.num w ≠ 0 := fun w hw => (h.dn w (hd w hw)).1
  have cls' : ∀ x, s.num x ≠ 0 → x ∉ g → ∀ y ∈ adj x, s.num y ≠ 0 := fun x hx hxg y hy => by
    by_cases ev : x = v
    · subst ev; exact vdone y hy
    · exact inv.cls x hx (by simp [hxg, ev]) y hy
  unfold TS.leave
  by_cases hlow : s.low v = s.num v
  · rw [if_pos hlow]
    obtain ⟨t1, t2⟩ := cut_at s0.stk nw v hvo
    have ep : s.pop v = ⟨s.idx, s.num, s.low, s0.stk, s.out ++ [(v :: nw).reverse]⟩ := by
      unfold TS.pop
      rw [e, t1, t2]
    rw [ep]
    -- no edge leads down
    have stay : ∀ y ∈ v :: nw, ∀ z ∈ adj y, z ∈ v :: nw ∨ ∃ c ∈ s.out, z ∈ c := fun y hy z hz => by
      have hz0 : s.num z ≠ 0 := by
        rcases List.mem_cons.1 hy with hyv | hy2
        · exact vdone z (by rw [← hyv]; exact hz)
        · refine inv.cls y (inv.vis y (by rw [e]; simp [hy2])) (fun hh => ?_) z hz
          have h2 := hvs.1 y hy2
          rcases List.mem_append.1 hh with hh | hh
          · have h1 := hsrt.2.2 y (hgo y hh) y (by simp [hy2])
            omega
          · rw [List.mem_singleton.1 hh] at h2
            omega
      rcases (inv.all z).1 hz0 with hs | hs
      · rw [e] at hs
        rcases List.mem_append.1 hs with hs2 | hs2
        · exfalso
          have h1 := h.olds i0 hs2
          rcases List.mem_cons.1 hy with hyv | hy2
          · have := (h.dn z (hd z (by rw [← hyv]; exact hz))).2 hs2
            omega
          · have := hc y hy2 z hs2 hz
            omega
        · exact .inl hs2
      · exact .inr hs
    have reach : ∀ z, RchW adj v z → z ∈ v :: nw ∨ ∃ c ∈ s.out, z ∈ c := fun z hz => hz (fun z => z ∈ v :: nw ∨ ∃ c ∈ s.out, z ∈ c) (.inl (by simp)) fun u hu x hx => by
      rcases hu with hu | ⟨c, hc1, hc2⟩
      · exact stay u hu x hx
      · exact .inr (inv.fin c hc1 u hc2 x hx)
    have fins : ∀ z, (∃ c ∈ s.out, z ∈ c) → ∀ y, RchW adj z y → ∃ c ∈ s.out, y ∈ c := fun z hz y hy => hy (fun y => ∃ c ∈ s.out, y ∈ c) hz fun u ⟨c, hc1, hc2⟩ x hx => inv.fin c hc1 u hc2 x hx
    have vfree : ∀ x ∈ v :: nw, ∀ c ∈ s.out, x ∉ c := fun x hx c hc => inv.apart x (by rw [e]; exact List.mem_append.2 (.inr hx)) c hc
    have hcomp : ∀ y, y ∈ (v :: nw).reverse ↔ RchW adj v y ∧ RchW adj y v := fun y => by
      rw [List.mem_reverse]
      constructor
      · intro hy
        rcases List.mem_cons.1 hy with rfl | hy
        · exact ⟨RchW.here, RchW.here⟩
        · exact ⟨hvf.1 y hy, back y hy⟩
      · rintro ⟨h1, h2⟩
        rcases reach y h1 with hy | hy
        · exact hy
        · obtain ⟨c, hc1, hc2⟩ := fins y hy v h2
          exact absurd hc2 (vfree v (by simp) c hc1)
    have hnd : (v :: nw).reverse.Nodup := by
      refine (List.reverse_perm _).nodup_iff.2 ?_
      exact hsrt.2.1.imp (fun {a b} hab e => by subst e; omega)
    have olds : ∀ x ∈ s0.stk, x ∈ s.stk := fun x hx => by rw [e]; exact List.mem_append.2 (.inl hx)
    refine ⟨⟨inv.bd, hsrt.1, fun x hx => inv.vis x (olds x hx), hgo, hfwd.1, fun y hy => ?_, cls', fun x => ?_, fun x hx c hc => ?_, fun c hc => ?_, fun c hc x hx y hy => ?_, ?_⟩, h.num, h.low, h.nv, ⟨[], by simp, fun y hy => by cases hy⟩, .inl (by show s.low v = _; rw [hlow, h.nv])⟩
    · obtain ⟨x, hx, hle, hr⟩ := inv.bck y (olds y hy)
      rcases List.mem_append.1 hx with hx | hx
      · exact ⟨x, hx, hle, hr⟩
      · obtain rfl := List.mem_singleton.1 hx
        have := (h.olds i0 hy)
        have h5 : s.num x ≤ s.num y := hle
        omega
    · show s.num x ≠ 0 ↔ x ∈ s0.stk ∨ ∃ c ∈ s.out ++ [(v :: nw).reverse], x ∈ c
      rw [inv.all x, e]
      constructor
      · rintro (hx | ⟨c, hc, hx⟩)
        · rcases List.mem_append.1 hx with hx | hx
          · exact .inl hx
          · exact .inr ⟨_, by simp, List.mem_reverse.2 hx⟩
        · exact .inr ⟨c, by simp [hc], hx⟩
      · rintro (hx | ⟨c, hc, hx⟩)
        · exact .inl (List.mem_append.2 (.inl hx))
        · rcases List.mem_append.1 hc with hc | hc
          · exact .inr ⟨c, hc, hx⟩
          · obtain rfl := List.mem_singleton.1 hc
            exact .inl (List.mem_append.2 (.inr (List.mem_reverse.1 hx)))
    · rcases List.mem_append.1 (show c ∈ s.out ++ [(v :: nw).reverse] from hc) with hc | hc
      · exact inv.apart x (olds x hx) c hc
      · obtain rfl := List.mem_singleton.1 hc
        intro hh
        have := hsrt.2.2 x hx x (List.mem_reverse.1 hh)
        omega
    · rcases List.mem_append.1 (show c ∈ s.out ++ [(v :: nw).reverse] from hc) with hc | hc
      · exact inv.comp c hc
      · obtain rfl := List.mem_singleton.1 hc
        exact ⟨hnd, v, by simp, hcomp⟩
    · show ∃ c' ∈ s.out ++ [(v :: nw).reverse], y ∈ c'
      rcases List.mem_append.1 (show c ∈ s.out ++ [(v :: nw).reverse] from hc) with hc | hc
      · obtain ⟨c', h1, h2⟩ := inv.fin c hc x hx y hy
        exact ⟨c', by simp [h1], h2⟩
      · obtain rfl := List.mem_singleton.1 hc
        rcases stay x (List.mem_reverse.1 hx) y hy with h1 | ⟨c', h1, h2⟩
        · exact ⟨_, by simp, List.mem_reverse.2 h1⟩
        · exact ⟨c', by simp [h1], h2⟩
    · refine List.pairwise_append.2 ⟨inv.dis, List.pairwise_singleton _ _, fun a ha b hb x hx => ?_⟩
      obtain rfl := List.mem_singleton.1 hb
      exact fun hh => vfree x (List.mem_reverse.1 hh) a ha hx
  · rw [if_neg hlow]
    obtain ⟨z, hz, hzn, hzr⟩ := h.lo.resolve_left hlow
    refine ⟨⟨inv.bd, inv.srt, inv.vis, fun x hx => by rw [e]; exact List.mem_append.2 (.inl (hgo x hx)), inv.fwd, fun y hy => ?_, cls', inv.all, inv.apart, inv.comp, inv.fin, inv.dis⟩, h.num, h.low, h.nv, ⟨v :: nw, e, fun y hy z hz hzy => ?_⟩, .inr ⟨z, hz, hzn, hzr⟩⟩
    · obtain ⟨x, hx, hle, hr⟩ := inv.bck y hy
      rcases List.mem_append.1 hx with hx | hx
      · exact ⟨x, hx, hle, hr⟩
      · obtain rfl := List.mem_singleton.1 hx
        obtain ⟨x', hx', hle', hr'⟩ := inv.bck z (by rw [e]; exact List.mem_append.2 (.inl hz))
        have h1 := h.olds i0 hz
        rcases List.mem_append.1 hx' with hx' | hx'
        · exact ⟨x', hx', by omega, (hr.trans hzr).trans hr'⟩
        · obtain rfl := List.mem_singleton.1 hx'
          omega
    · rcases List.mem_cons.1 hy with rfl | hy
      · exact (h.dn z (hd z hzy)).2 hz
      · exact hc y hy z hz hzy
end

theorem succs_ok {adj : Int → List Int} {g : List Int} {v : Int} {s0 : TS} (i0 : TInv adj g s0) (hv : s0.num v = 0) (hg : ∀ x ∈ g, RchW adj x v) (rec : Int → TS → Option TS)
    (hrec : ∀ w s s', TInv adj (g ++ [v]) s → s.num w = 0 → (∀ x ∈ g ++ [v], RchW adj x w) → rec w s = some s' → TPost adj (g ++ [v]) w s s') :
    ∀ (ws done : List Int) (s r : TS), (∀ w ∈ ws, w ∈ adj v) → TLoop adj g v done s0 s → succsT rec v ws s = some r → TLoop adj g v (done ++ ws) s0 r := by
  intro ws
  induction ws with
  | nil => intro done s r _ h hr; simp only [succsT, Option.some.injEq] at hr; subst hr; simpa using h
  | cons w ws ih =>
    intro done s r hws h hr
    have hw := hws w (by simp)
    have hws' : ∀ x ∈ ws, x ∈ adj v := fun x hx => hws x (by simp [hx])
    rw [show done ++ w :: ws = (done ++ [w]) ++ ws by simp]
    unfold succsT at hr
    by_cases hn : s.num w = 0
    · rw [if_pos hn] at hr
      obtain ⟨s', hs', hr'⟩ := Option.bind_eq_some_iff.1 hr
      have p := hrec w s s' h.inv hn (fun x hx => by
        rcases List.mem_append.1 hx with hx | hx
        · exact (hg x hx).step hw
        · obtain rfl := List.mem_singleton.1 hx
          exact RchW.one hw) hs'
      exact ih _ _ _ hws' (h.walked i0 hv hw hn p) hr'
    · rw [if_neg hn] at hr
      by_cases hs : w ∈ s.stk
      · rw [if_pos hs] at hr
        exact ih _ _ _ hws' (h.onStk i0 hv hw hs) hr
      · rw [if_neg hs] at hr
        exact ih _ _ _ hws' (h.gone i0 hn hs) hr

theorem strongT_ok (adj : Int → List Int) : ∀ (k : Nat) (g : List Int) (v : Int) (s r : TS), TInv adj g s → s.num v = 0 → (∀ x ∈ g, RchW adj x v) → strongT adj k v s = some r → TPost adj g v s r := by
  intro k
  induction k with
  | zero => intro g v s r _ _ _ h; simp [strongT] at h
  | succ k ih =>
    intro g v s r i hv hg h
    unfold strongT at h
    obtain ⟨s', hs', rfl⟩ := Option.map_eq_some_iff.1 h
    have hl := succs_ok i hv hg (strongT adj k) (fun w s s' a b c d => ih (g ++ [v]) w s s' a b c d) (adj v) [] (s.enter v) s' (fun _ h => h) (i.enter hv hg) hs'
    exact hl.leave i hv hg (fun w hw => by simpa using hw)

theorem allT_ok (adj : Int → List Int) (k : Nat) : ∀ (vs : List Int) (s r : TS), TInv adj [] s → allT adj k vs s = some r → TInv adj [] r ∧ (∀ x, s.num x ≠ 0 → r.num x ≠ 0) ∧ ∀ v ∈ vs, r.num v ≠ 0 := by
  intro vs
  induction vs with
  | nil => intro s r i h; simp only [allT, Option.some.injEq] at h; subst h; exact ⟨i, fun _ h => h, fun v hv => by cases hv⟩
  | cons v vs ih =>
    intro s r i h
    unfold allT at h
    by_cases hn : s.num v = 0
    · rw [if_pos hn] at h
      obtain ⟨s', hs', hr'⟩ := Option.bind_eq_some_iff.1 h
      have p := strongT_ok adj k [] v s s' i hn (fun x hx => by cases hx) hs'
      obtain ⟨a, b, c⟩ := ih s' r p.inv hr'
      refine ⟨a, fun x hx => b x (by rw [p.num x hx]; exact hx), fun x hx => ?_⟩
      rcases List.mem_cons.1 hx with rfl | hx
      · exact b x (by rw [p.nv]; omega)
      · exact c x hx
    · rw [if_neg hn] at h
      obtain ⟨a, b, c⟩ := ih s r i h
      refine ⟨a, b, fun x hx => ?_⟩
      rcases List.mem_cons.1 hx with rfl | hx
      · exact b x hn
      · exact c x hx
theorem TInv.none (adj : Int → List Int) : TInv adj [] TS.none :=
  ⟨fun _ => Nat.le_refl _, List.Pairwise.nil, fun x hx => (by cases hx), fun x hx => (by cases hx), List.Pairwise.nil, fun x hx => (by cases hx), fun x hx => absurd rfl hx, fun x => ⟨fun h => absurd rfl h, fun h => (by rcases h with h | ⟨c, h, _⟩ <;> cases h)⟩, fun x hx => (by cases hx), fun x hx => (by cases hx), fun x hx => (by cases hx), List.Pairwise.nil⟩

/-- what comes of all: the strongly connected components, each once -/
structure SccOk (adj : Int → List Int) (ns : List Int) (out : List (List Int)) : Prop where
  comp : ∀ c ∈ out, c.Nodup ∧ ∃ r ∈ c, ∀ y, y ∈ c ↔ RchW adj r y ∧ RchW adj y r
  all : ∀ v ∈ ns, ∃ c ∈ out, v ∈ c
  dis : out.Pairwise fun a b => ∀ x ∈ a, x ∉ b
theorem sccs_ok {adj : Int → List Int} {k : Nat} {ns : List Int} {r : TS} (h : allT adj k ns TS.none = some r) : SccOk adj ns r.out ∧ r.stk = [] := by
  obtain ⟨i, _, hv⟩ := allT_ok adj k ns TS.none r (TInv.none adj) h
  have hs : r.stk = [] := by
    cases e : r.stk with
    | nil => rfl
    | cons a l =>
      obtain ⟨x, hx, _⟩ := i.bck a (by rw [e]; simp)
      cases hx
  refine ⟨⟨i.comp, fun v hvm => ?_, i.dis⟩, hs⟩
  rcases (i.all v).1 (hv v hvm) with h1 | h1
  · rw [hs] at h1; cases h1
  · exact h1
end Go.Proofs.YtddklkgcodjijaaGreat.R

/- What Components answers, in plain lists. -/
namespace Go.Proofs.YtddklkgcodjijaaGreat.R
open Go.RowKit Go.Lab Go.Proofs.YtddklkgcodjijaaGreatW.PrintWords PL Q

theorem srt_lt {xs : List Int} (h : xs.Nodup) : (srt xs).Pairwise (· < ·) := by
  have h1 : (srt xs).Nodup := (srt_perm xs).nodup_iff.2 h
  have h2 := srt_le xs
  rw [List.pairwise_iff_getElem] at h2 ⊢
  intro i j hi hj hij
  have h3 := h2 i j hi hj hij
  have h4 : (srt xs)[i] ≠ (srt xs)[j] := fun e => by
    have := (List.pairwise_iff_getElem.1 h1) i j hi hj hij
    exact this e
  omega
theorem srt_nodup {xs : List Int} (h : (srt xs).Pairwise (· < ·)) : xs.Nodup := by
  refine (srt_perm xs).nodup_iff.1 (h.imp (fun h => ?_))
  omega
end Go.Proofs.YtddklkgcodjijaaGreat.R

/- Tarjan's walk ends; what it finds where edges go both ways; what it finds where there is no circle. -/
namespace Go.Proofs.YtddklkgcodjijaaGreat.R
open Go.RowKit Go.Lab Go.Proofs.YtddklkgcodjijaaGreatW.PrintWords PL Q

/-- how many nodes were not come to yet -/
def unv (ns : List Int) (s : TS) : Nat := ns.countP fun x => decide (s.num x = 0)
/-- s' goes on from s -/
def Grew (ns : List Int) (s s' : TS) : Prop := (∀ x, s.num x ≠ 0 → s'.num x ≠ 0) ∧ ∀ x, s'.num x ≠ 0 → s.num x ≠ 0 ∨ x ∈ ns
theorem Grew.refl (ns : List Int) (s : TS) : Grew ns s s := ⟨fun _ h => h, fun _ h => .inl h⟩
theorem Grew.trans {ns : List Int} {a b c : TS} (h : Grew ns a b) (k : Grew ns b c) : Grew ns a c :=
  ⟨fun x hx => k.1 x (h.1 x hx), fun x hx => (k.2 x hx).elim (fun h2 => h.2 x h2) .inr⟩
theorem Grew.unv {ns : List Int} {s s' : TS} (h : Grew ns s s') : unv ns s' ≤ unv ns s :=
  List.countP_mono_left fun x _ hx => by
    rw [decide_eq_true_iff] at hx ⊢
    exact Classical.byContradiction fun hn => h.1 x hn hx
theorem count_less {p q : Int → Bool} {v : Int} (hq : ∀ x, q x = true → p x = true ∧ x ≠ v) (hv : p v = true) : ∀ ns : List Int, v ∈ ns → ns.countP q + 1 ≤ ns.countP p := by
  have hle : ∀ ns : List Int, ns.countP q ≤ ns.countP p := fun ns => List.countP_mono_left fun x _ hx => (hq x hx).1
  intro ns
  induction ns with
  | nil => intro h; cases h
  | cons a ns ih =>
    intro h
    by_cases e : a = v
    · subst e
      have hqa : q a = false := by
        cases hqa : q a with
        | false => rfl
        | true => exact absurd rfl (hq a hqa).2
      rw [List.countP_cons_of_pos hv, List.countP_cons_of_neg (by rw [hqa]; simp)]
      have := hle ns
      omega
    · have h2 : v ∈ ns := by
        rcases List.mem_cons.1 h with rfl | h
        · exact absurd rfl e
        · exact h
      have := ih h2
      rw [List.countP_cons, List.countP_cons]
      by_cases ha : q a = true
      · rw [if_pos ha, if_pos (hq a ha).1]; omega
      · rw [if_neg ha]
        split <;> omega
theorem enter_grew {ns : List Int} {s : TS} {v : Int} (hv : v ∈ ns) : Grew ns s (s.enter v) := by
  refine ⟨fun x hx => ?_, fun x hx => ?_⟩
  · show updN s.num v (s.idx + 1) x ≠ 0
    by_cases e : x = v
    · subst e; rw [updN_eq]; omega
    · rw [updN_ne _ _ e]; exact hx
  · by_cases e : x = v
    · subst e; exact .inr hv
    · rw [show (s.enter v).num x = s.num x from updN_ne _ _ e] at hx; exact .inl hx
theorem enter_unv {ns : List Int} {s : TS} {v : Int} (hv : v ∈ ns) (hn : s.num v = 0) : unv ns (s.enter v) + 1 ≤ unv ns s := by
  refine count_less (v := v) (fun x hx => ?_) (by simpa using hn) ns hv
  rw [decide_eq_true_iff] at hx ⊢
  have e : x ≠ v := fun e => by subst e; rw [show (s.enter x).num x = s.idx + 1 from updN_eq _ _ _] at hx; omega
  rw [show (s.enter v).num x = s.num x from updN_ne _ _ e] at hx
  exact ⟨hx, e⟩
theorem leave_num (s : TS) (v : Int) : (s.leave v).num = s.num := by
  unfold TS.leave
  split <;> rfl

theorem succs_ends {ns : List Int} (rec : Int → TS → Option TS) (k : Nat) (v : Int) (hrec : ∀ w s, w ∈ ns → s.num w = 0 → unv ns s ≤ k → ∃ r, rec w s = some r ∧ Grew ns s r) :
    ∀ (ws : List Int) (s : TS), (∀ w ∈ ws, w ∈ ns) → unv ns s ≤ k → ∃ r, succsT rec v ws s = some r ∧ Grew ns s r := by
  intro ws
  induction ws with
  | nil => intro s _ _; exact ⟨s, rfl, Grew.refl _ _⟩
  | cons w ws ih =>
    intro s hws hu
    have hw' : ∀ x ∈ ws, x ∈ ns := fun x hx => hws x (by simp [hx])
    by_cases hn : s.num w = 0
    · obtain ⟨r, hr, hg⟩ := hrec w s (hws w (by simp)) hn hu
      have hg2 : Grew ns s (r.lower v (r.low w)) := ⟨hg.1, hg.2⟩
      obtain ⟨r2, hr2, hg3⟩ := ih (r.lower v (r.low w)) hw' (Nat.le_trans hg2.unv hu)
      exact ⟨r2, by rw [succsT, if_pos hn, hr]; exact hr2, hg2.trans hg3⟩
    · by_cases hs : w ∈ s.stk
      · obtain ⟨r2, hr2, hg3⟩ := ih (s.lower v (s.num w)) hw' hu
        exact ⟨r2, by rw [succsT, if_neg hn, if_pos hs]; exact hr2, hg3⟩
      · obtain ⟨r2, hr2, hg3⟩ := ih s hw' hu
        exact ⟨r2, by rw [succsT, if_neg hn, if_neg hs]; exact hr2, hg3⟩

theorem strongT_ends {adj : Int → List Int} {ns : List Int} (hin : ∀ u, ∀ x ∈ adj u, x ∈ ns) : ∀ (k : Nat) (v : Int) (s : TS), v ∈ ns → s.num v = 0 → unv ns s ≤ k → ∃ r, strongT adj k v s = some r ∧ Grew ns s r := by
  intro k
  induction k with
  | zero =>
    intro v s hv hn hu
    have := enter_unv hv hn
    omega
  | succ k ih =>
    intro v s hv hn hu
    have h1 := enter_unv hv hn
    obtain ⟨r, hr, hg⟩ := succs_ends (strongT adj k) k v (fun w s a b c => ih w s a b c) (adj v) (s.enter v) (fun w hw => hin v w hw) (by omega)
    have hg2 := (enter_grew (s := s) hv).trans hg
    exact ⟨r.leave v, by rw [strongT, hr]; rfl, ⟨fun x hx => by rw [leave_num]; exact hg2.1 x hx, fun x hx => hg2.2 x (by rw [leave_num] at hx; exact hx)⟩⟩

theorem allT_ends {adj : Int → List Int} {ns : List Int} (hin : ∀ u, ∀ x ∈ adj u, x ∈ ns) (k : Nat) : ∀ (vs : List Int) (s : TS), (∀ v ∈ vs, v ∈ ns) → unv ns s ≤ k → ∃ r, allT adj k vs s = some r ∧ Grew ns s r := by
  intro vs
  induction vs with
  | nil => intro s _ _; exact ⟨s, rfl, Grew.refl _ _⟩
  | cons v vs ih =>
    intro s hvs hu
    have hv' : ∀ x ∈ vs, x ∈ ns := fun x hx => hvs x (by simp [hx])
    by_cases hn : s.num v = 0
    · obtain ⟨r, hr, hg⟩ := strongT_ends hin k v s (hvs v (by simp)) hn hu
      obtain ⟨r2, hr2, hg2⟩ := ih r hv' (Nat.le_trans hg.unv hu)
      exact ⟨r2, by rw [allT, if_pos hn, hr]; exact hr2, hg.trans hg2⟩
    · obtain ⟨r2, hr2, hg2⟩ := ih s hv' hu
      exact ⟨r2, by rw [allT, if_neg hn]; exact hr2, hg2⟩

end Go.Proofs.YtddklkgcodjijaaGreat.R

/- Maps of numbers; what is struck from a set. -/
namespace Go.Proofs.YtddklkgcodjijaaGreat.R
open Go.RowKit Go.Lab Go.Maps Go.Proofs.YtddklkgcodjijaaGreatW.PrintWords Go.Proofs.YtddklkgcodjijaaGreatW.PrintLast Go.Proofs.YtddklkgcodjijaaGreatW.PrintMore PL

theorem ownsMap_tight {P : Program} {k : TypeId} {R : Value → Option (DataW Unit × List MemPlace)} {w : World} {b n m : Nat} {D : DataW Unit} (h : w.ownsMap P k R b n D) (hm : Maps.size D ≤ m) : w.ownsMap P k R b m D := by
  obtain ⟨es, clock, hb, F, hs, rfl⟩ := h
  exact ⟨es, clock, hb, F, by simpa [Maps.size, length_sorted] using hm, rfl⟩
theorem size_put_there {D : DataW Unit} {k : Lit} {d : DataW Unit} (h : Maps.has D k = true) : Maps.size (D.put k d) ≤ Maps.size D := by
  cases D with
  | map es =>
    rw [DataW.put_eq, Maps.size_eq, Maps.size_eq]
    unfold ChangeMaps.putKey
    rw [length_insert]
    rw [Maps.has_eq, List.any_eq_true] at h
    obtain ⟨p, hp, hk⟩ := h
    have := List.length_filter_lt_length_iff_exists.2 ⟨p, hp, show ¬ ChangeMaps.notKey k p = true from by unfold ChangeMaps.notKey; rw [hk]; simp⟩
    omega
  | _ => simp [Maps.has] at h

/-- block gm is a map with these numbers, 0 where none stands; at most m stand -/
structure NumOk (w : World) (gm : Nat) (f : Int → Nat) (m : Nat) : Prop where
  ex : ∃ D : DataW Unit, w.ownsMap Tryz.prog 2 (plainElem Tryz.prog 3) gm m D ∧ (∀ x, D.atKey (.int .i64 x) (.lit (.int .i64 0)) = .lit (.int .i64 (f x))) ∧ ∀ x, Maps.has D (.int .i64 x) = decide (f x ≠ 0)
section
variable {w w1 : World} {gm m : Nat} {f : Int → Nat}
theorem NumOk.lt (h : NumOk w gm f m) : gm < w.heap.size := by
  obtain ⟨D, h1, _⟩ := h.ex
  exact h1.lt
theorem NumOk.stay (h : NumOk w gm f m) (hm : w1.heap[gm]? = w.heap[gm]?) : NumOk w1 gm f m := by
  obtain ⟨D, ⟨es, clock, hb, hr⟩, h2, h3⟩ := h.ex
  exact ⟨D, ⟨es, clock, hm.trans hb, hr⟩, h2, h3⟩
theorem NumOk.made (w : World) : NumOk (w.alloc (.map #[] 0)) w.heap.size (fun _ => 0) 0 :=
  ⟨.map [], World.ownsMap_made _ _ _ _, fun x => by rfl, fun x => by simp [Maps.has]⟩
theorem NumOk.cells_ne (h : NumOk w gm f m) {k : Nat} {c : Array Value} {t : TypeId} (hk : w.heap[k]? = some (.cells c t (0, 0))) : k ≠ gm := fun e => by
  obtain ⟨D, ⟨es, clock, hb, _⟩, _⟩ := h.ex
  rw [e, hb] at hk
  cases hk
theorem zero3 (w : World) : (zeroValue 3).run Tryz.prog w = .ok (.int .i64 0) w := by kernel_rfl
theorem NumOk.look (h : NumOk w gm f m) {x : Int} (hw : (Lit.int .i64 x).wf = true) : (Instr.lookup 164 (.map (some gm)) (.int .i64 x) false).run Tryz.prog w = .ok (.int .i64 (f x : Int)) w := by
  obtain ⟨D, hown, hat, _⟩ := h.ex
  have hkey : keyOf Tryz.prog 2 (.int .i64 x) = some (.int .i64 x) := keyOf_int_mk Tryz.underlying2 hw
  obtain ⟨c, hrun, hc, _⟩ := hown.lookup_int lawS2 Tryz.underlying164 Tryz.underlying3 (zero3 w) hkey
  rw [hat x] at hc
  have hc2 : (f x : Int) = c := (Lit.int.inj (DataW.lit.inj hc)).2
  rw [hc2]
  exact hrun
theorem NumOk.put (h : NumOk w gm f m) {x : Int} (hw : (Lit.int .i64 x).wf = true) {n : Nat} (hn : n ≠ 0) (hnw : (Lit.int .i64 (n : Int)).wf = true) (hm : m < 100000) :
    ∃ w', (Instr.mapUpdate 164 (.map (some gm)) (.int .i64 x) (.int .i64 (n : Int))).run Tryz.prog w = .ok () w' ∧ NumOk w' gm (updN f x n) (if f x = 0 then m + 1 else m) ∧ w.grownBy w' (some gm) := by
  obtain ⟨D, hown, hat, hhas⟩ := h.ex
  have hkey : keyOf Tryz.prog 2 (.int .i64 x) = some (.int .i64 x) := keyOf_int_mk Tryz.underlying2 hw
  have hD := hown.isMap
  obtain ⟨w', hrun, hown', hg⟩ := hown.update lawS2 Tryz.underlying164 (by unfold maxLen; omega) hkey (plainElem_int Tryz.underlying3 hnw)
  refine ⟨w', hrun, ⟨D.put (.int .i64 x) (.lit (.int .i64 (n : Int))), ?_, fun y => ?_, fun y => ?_⟩, hg⟩
  · by_cases h0 : f x = 0
    · rw [if_pos h0]; exact hown'
    · rw [if_neg h0]
      have h2 := hown.size_le
      have h3 := size_put_there (d := .lit (.int .i64 (n : Int))) (show Maps.has D (.int .i64 x) = true by rw [hhas x]; exact decide_eq_true h0)
      exact ownsMap_tight hown' (by omega)
  · by_cases e : y = x
    · subst e
      rw [Maps.atKey_put_same hD (show WideAt.IsKeyLit (.int .i64 y) from trivial), updN_eq]
    · rw [Maps.atKey_put_other (fun e2 => e (by injection e2)), hat y, updN_ne _ _ e]
  · by_cases e : y = x
    · subst e
      rw [Maps.has_put_same hD (show WideAt.IsKeyLit (.int .i64 y) from trivial), updN_eq, decide_eq_true hn]
    · rw [Maps.has_put_other (fun e2 => e (by injection e2)), hhas y, updN_ne _ _ e]
end

theorem size_del_there {D : DataW Unit} {k : Lit} (h : Maps.has D k = true) : Maps.size (D.del k) + 1 ≤ Maps.size D := by
  cases D with
  | map es =>
    rw [DataW.del_eq, Maps.size_eq, Maps.size_eq]
    rw [Maps.has_eq, List.any_eq_true] at h
    obtain ⟨p, hp, hk⟩ := h
    exact List.length_filter_lt_length_iff_exists.2 ⟨p, hp, by unfold ChangeMaps.notKey; rw [hk]; simp⟩
  | _ => simp [Maps.has] at h

set_option maxHeartbeats 1000000 in
set_option maxRecDepth 100000 in
/-- a number is struck from a set -/
theorem remove_any (gm : Nat) (vis : List Int) (x : Int) (w : World) (h : SetOk w gm (vis ++ [x])) (hw : (Lit.int .i64 x).wf = true) (hx : x ∉ vis) :
    Calls Tryz.prog 137 #[.map (some gm), .int .i64 x] w fun e w' => e = .returned (.tuple #[]) ∧ SetOk w' gm vis ∧ w.grownBy w' (some gm) := by
  obtain ⟨n, D, hown, hn, hh⟩ := h.ex
  have hkey : keyOf Tryz.prog 2 (.int .i64 x) = some (.int .i64 x) := keyOf_int_mk Tryz.underlying2 hw
  have HH := Aside0.mk hh
  have HM := Aside0.mk (And.intro hown.isMap hown.size_le)
  clear hh
  go_enter Tryz.func137, Tryz.ntmps137
  go_wp2_with (at_delete; refine wpList_delete_own _ rfl _ _ 154 2 rfl 234 lawS2 Tryz.underlying154 (unitElem (H := Unit)) gm n D rfl hown _ _ rfl hkey ?_; intro w1 hown1 hturn1; have HG := Aside0.mk (And.intro hown1 hturn1); clear hown1 hturn1)
  go_end0
  have hlen : (vis ++ [x]).length = vis.length + 1 := by simp
  have hsz := size_del_there (k := .int .i64 x) (show Maps.has D (.int .i64 x) = true by rw [HH.out x]; simp)
  have h2 := HM.out.2
  refine ⟨rfl, ⟨vis.length, _, ownsMap_tight HG.out.1 (by omega), Nat.le_refl _, fun y => ?_⟩, World.mapTurned.grown HG.out.2⟩
  by_cases hy : y = x
  · subst hy
    rw [Maps.has_del_same, decide_eq_false hx]
  · rw [Maps.has_del_other (fun e => hy (by injection e)), HH.out y]
    simp [hy]
end Go.Proofs.YtddklkgcodjijaaGreat.R

/- All nodes of an iterator. -/
namespace Go.Proofs.YtddklkgcodjijaaGreat.R
open Go.RowKit Go.Lab Go.Maps Go.Proofs.YtddklkgcodjijaaGreatW.PrintWords Go.Proofs.YtddklkgcodjijaaGreatW.PrintLast Go.Proofs.YtddklkgcodjijaaGreatW.PrintMore PL

theorem meth_OLen (a : Addr) (w : World) : (method 396 275 (.pointer (some a)) "Len").run Tryz.prog w = .ok (244, .pointer (some a)) w := by kernel_rfl
theorem meth_OSlice (a : Addr) (w : World) : (method 396 275 (.pointer (some a)) "NodeSlice").run Tryz.prog w = .ok (247, .pointer (some a)) w := by kernel_rfl
theorem OIt.cells0 {lo B : Nat} {w : World} {b : Nat} {xs : List Int} {k : Nat} (h : OIt lo B w b xs k) : ∃ A c, w.cell? ⟨b, 0, none⟩ = some (.int .i64 ((k : Int) - 1)) ∧ w.cell? ⟨b, 1, none⟩ = some (.slice A xs.length c) ∧ w.frozen? ⟨b, 0, none⟩ = false ∧ xs.length ≤ c ∧
    w.ownsRow lo 88 1 (.slice A xs.length c) xs.length (nodeVs xs) ∧ (∀ q, (Value.slice A xs.length c).ownBlock = some q → q < B) ∧ (0 < xs.length → ∃ g, A = some ⟨g, 0, none⟩) := by
  obtain ⟨v, h1, h2, h3⟩ := h.ex
  obtain ⟨A, c, rfl⟩ := own_slice h2
  refine ⟨A, c, (blk_cell h1 0).trans rfl, (blk_cell h1 1).trans rfl, blk_frozen h1 0, ?_, h2, h3, fun h0 => ?_⟩
  · rcases h2.2 with ⟨e, h0⟩ | ⟨g, cap, cur, e, h4, h5, h6, h7, _⟩
    · omega
    · simp only [Value.slice.injEq] at e
      omega
  · rcases h2.2 with ⟨e, h9⟩ | ⟨g, cap, cur, e, _⟩
    · omega
    · simp only [Value.slice.injEq] at e
      exact ⟨g, e.1⟩

set_option maxHeartbeats 4000000 in
set_option maxRecDepth 100000 in
theorem olen_any (lo B b : Nat) (xs : List Int) (w : World) (h : OIt lo B w b xs 0) (hl : xs.length ≤ 100000) :
    Calls Tryz.prog 244 #[.pointer (some ⟨b, 0, none⟩)] w fun e w' => e = .returned (.int .i64 xs.length) ∧ ∃ n, w' = w.drewN n := by
  obtain ⟨A, c, h0, h1, hf, hc, hown, hB, hA⟩ := h.cells0
  have HA := Aside0.mk hA
  have h0' : w.cell? ⟨b, 0, none⟩ = some (.int .i64 (-1)) := h0
  clear h h0 hown hB hA
  have hd : decide ((-1 : Int) ≥ (xs.length : Int)) = false := decide_eq_false (by omega)
  have hd2 : decide ((xs.length : Int) ≤ -1) = false := decide_eq_false (by omega)
  have hz : (0 : Int) ≤ (xs.length : Int) := by omega
  have hcc : (xs.length : Int) ≤ (c : Int) := by omega
  by_cases hn : 0 < xs.length
  · obtain ⟨g, rfl⟩ := HA.out hn
    go_enter Tryz.func244, Tryz.ntmps244
    go_wp2_with fail
    go_quiet (fail)
    go_wp2_with fail
    go_quiet (fail)
    go_wp2
    go_ret
    exact ⟨by simp, _, World.drewN_drewN _ _ _⟩
  · have he : xs.length = 0 := by omega
    rw [he]
    rw [he] at h1 hd hd2
    clear hz hcc hn
    go_enter Tryz.func244, Tryz.ntmps244
    go_wp2_with fail
    go_quiet (fail)
    go_wp2_with fail
    go_quiet (fail)
    go_wp2
    go_ret
    exact ⟨by simp, _, World.drewN_drewN _ _ _⟩

set_option maxHeartbeats 4000000 in
set_option maxRecDepth 100000 in
theorem oslice_any (lo B b : Nat) (xs : List Int) (w : World) (h : OIt lo B w b xs 0) (hl : xs.length ≤ 100000) (hn : 0 < xs.length) :
    Calls Tryz.prog 247 #[.pointer (some ⟨b, 0, none⟩)] w fun e w' => ∃ v, e = .returned v ∧ w'.ownsRow lo 88 1 v xs.length (nodeVs xs) ∧ (∀ q, v.ownBlock = some q → q < B) ∧ Mid lo B w w' := by
  have HO := Aside0.mk h
  obtain ⟨A, c, h0, h1, hf, hc, hown, hB, hA⟩ := h.cells0
  obtain ⟨g, rfl⟩ := hA hn
  have HX := Aside0.mk (And.intro hown hB)
  have h0' : w.cell? ⟨b, 0, none⟩ = some (.int .i64 (-1)) := h0
  have hb := h.lt
  have hb2 := h.hb
  clear h h0 hown hB hA
  have hd : decide ((-1 : Int) ≥ (xs.length : Int)) = false := decide_eq_false (by omega)
  have hd2 : decide ((xs.length : Int) ≤ -1) = false := decide_eq_false (by omega)
  have hz : (0 : Int) ≤ (xs.length : Int) := by omega
  have hcc : (xs.length : Int) ≤ (c : Int) := by omega
  go_enter Tryz.func247, Tryz.ntmps247
  go_wp2_with fail
  go_quiet (fail)
  go_wp2
  go_ret
  refine ⟨_, rfl, own_of_heap HX.out.1 fun k hk => ?_, HX.out.2, (Mid.drewN lo B w nq).trans (Mid.set _ _ _ hb2.1 hb2.2)⟩
  refine (Below.heap_setCell _ _ _ _ (fun e => ?_))
  obtain ⟨c1, hc1⟩ := own_block HX.out.1 hk
  obtain ⟨v, hv, _⟩ := HO.out.ex
  have e2 : k = b := e
  subst e2
  exact absurd (blk_type hc1 hv) (by decide)

theorem noSlicer (a : Addr) (w : World) : (Instr.typeAssert (.iface 275 (.pointer (some a))) 136 200 true).run Tryz.prog w = .ok (.tuple #[.iface 275 (.pointer (some a)), .bool true]) w := by kernel_rfl
theorem it_nil (a : Addr) (w : World) : (binOp .eql 136 (.iface 275 (.pointer (some a))) .nilIface).run Tryz.prog w = .ok (.bool false) w := by kernel_rfl
set_option maxHeartbeats 4000000 in
set_option maxRecDepth 100000 in
/-- graph.NodesOf over an iterator at its beginning -/
theorem nodesOf_any (lo B b : Nat) (xs : List Int) (w : World) (h : OIt lo B w b xs 0) (hl : xs.length ≤ 100000) :
    Calls Tryz.prog 96 #[.iface 275 (.pointer (some ⟨b, 0, none⟩))] w fun e w' => ∃ v, e = .returned v ∧ w'.ownsRow lo 88 1 v xs.length (nodeVs xs) ∧ (∀ q, v.ownBlock = some q → q < B) ∧ Mid lo B w w' := by
  have HO := Aside0.mk h
  have m1 := meth_OLen ⟨b, 0, none⟩
  have m2 := meth_OSlice ⟨b, 0, none⟩
  have t1 := noSlicer ⟨b, 0, none⟩
  have t2 := it_nil ⟨b, 0, none⟩
  clear h
  by_cases hn : 0 < xs.length
  · have hd : ((xs.length : Int) == 0) = false := by rw [beq_eq_false_iff_ne]; omega
    have hd2 : decide ((xs.length : Int) < 0) = false := decide_eq_false (by omega)
    go_enter Tryz.func96, Tryz.ntmps96
    go_wp2_with (first
      | (go_at_call 244; refine (olen_any lo B b xs _ HO.out hl).mono ?_; rintro e w1 ⟨rfl, n1, hw1⟩; have H1 := Aside0.mk (show OIt lo B w1 b xs 0 by subst hw1; exact HO.out.far (fun _ _ _ => rfl)); have HM := Aside0.mk (show Mid lo B w w1 by subst hw1; exact Mid.drewN lo B w n1); clear hw1)
      | (go_at_call 247; refine (oslice_any lo B b xs _ H1.out hl hn).mono ?_; rintro e w2 ⟨v, rfl, h1, h2, h3⟩; have H2 := Aside0.mk (And.intro h1 (And.intro h2 h3)); clear h1 h2 h3))
    go_ret
    exact ⟨v, rfl, H2.out.1, H2.out.2.1, HM.out.trans H2.out.2.2⟩
  · have he : xs = [] := List.eq_nil_of_length_eq_zero (by omega)
    subst he
    go_enter Tryz.func96, Tryz.ntmps96
    go_wp2_with (go_at_call 244; refine (olen_any lo B b [] _ HO.out hl).mono ?_; rintro e w1 ⟨rfl, n1, hw1⟩; have HM := Aside0.mk (show Mid lo B w w1 by subst hw1; exact Mid.drewN lo B w n1); clear hw1; rw [show ((([] : List Int).length : Nat) : Int) = 0 from rfl])
    go_ret
    exact ⟨_, rfl, World.ownsRow_nil _ _ _ _, fun q hq => by simp [Value.ownBlock] at hq, HM.out⟩
end Go.Proofs.YtddklkgcodjijaaGreat.R

/- The state of one walk breadth first of a walk through all. -/
namespace Go.Proofs.YtddklkgcodjijaaGreat.R
open Go.RowKit Go.Lab Go.Maps Go.Proofs.YtddklkgcodjijaaGreatW.PrintWords Go.Proofs.YtddklkgcodjijaaGreatW.PrintLast Go.Proofs.YtddklkgcodjijaaGreatW.PrintMore PL

theorem KeepF.imp {M M' : Nat → Prop} {w w' : World} (h : KeepF M w w') (hm : ∀ k, M k → M' k) : KeepF M' w w' :=
  ⟨h.os, h.tape, h.output, h.size, fun k hk hn => h.block k hk (fun hM => hn (hm k hM))⟩
end Go.Proofs.YtddklkgcodjijaaGreat.R

/- Tarjan's object: its state between any two stores, and how each store turns it. -/
namespace Go.Proofs.YtddklkgcodjijaaGreat.R
open Go.RowKit Go.Lab Go.Maps Go.Proofs.YtddklkgcodjijaaGreatW.PrintWords Go.Proofs.YtddklkgcodjijaaGreatW.PrintLast Go.Proofs.YtddklkgcodjijaaGreatW.PrintMore PL

/-- where the object lies: block gt, its maps in blocks gi, gl, gs; and the world (w0), the stack's and the result's values when a call began -/
structure TA where
  gt : Nat
  gi : Nat
  gl : Nat
  gs : Nat
  lo : Nat
  fv : Value
  w0 : World
  st0 : Value
  ov0 : Value
/-- which blocks a call turns -/
def TA.M (c : TA) (k : Nat) : Prop := k = c.gt ∨ k = c.gi ∨ k = c.gl ∨ k = c.gs ∨ c.st0.ownBlock = some k ∨ c.ov0.ownBlock = some k
structure TQ (c : TA) (w : World) (ix : Nat) (fi fl : Int → Nat) (mi ml : Nat) (sl stk : List Int) (out : List (List Int)) (st ov : Value) (rows : List Value) : Prop where
  blk : w.heap[c.gt]? = some (.cells #[c.fv, .int .i64 (ix : Int), .map (some c.gi), .map (some c.gl), .map (some c.gs), st, ov] 166 (0, 0))
  ni : NumOk w c.gi fi mi
  nl : NumOk w c.gl fl ml
  set : SetOk w c.gs sl
  own : w.ownsRow c.lo 88 1 st stk.length (nodeVs stk)
  out : RwsV kpN c.lo w ov rows out
  sep : ∀ v ∈ rows, ∀ k, v.ownBlock = some k → st.ownBlock ≠ some k
  d1 : c.gi ≠ c.gl
  d2 : c.gi ≠ c.gs
  d3 : c.gl ≠ c.gs
  lt : c.gt < c.lo ∧ c.gi < c.lo ∧ c.gl < c.lo ∧ c.gs < c.lo
  lo0 : c.lo ≤ c.w0.heap.size
  kp : KeepF c.M c.w0 w
  s0 : st.ownBlock = c.st0.ownBlock ∨ ∀ k, st.ownBlock = some k → c.w0.heap.size ≤ k
  o0 : ov.ownBlock = c.ov0.ownBlock ∨ ∀ k, ov.ownBlock = some k → c.w0.heap.size ≤ k
  rs : rows.Pairwise fun u v => ∀ k, u.ownBlock = some k → v.ownBlock ≠ some k
section
variable {c : TA} {w w1 wa : World} {ix ix' mi ml mi' ml' : Nat} {fi fl fi' fl' : Int → Nat} {sl sl' stk stk' : List Int} {out out' : List (List Int)} {st st' ov ov' : Value} {rows rows' : List Value}
theorem TQ.L (h : TQ c w ix fi fl mi ml sl stk out st ov rows) : c.lo ≤ w.heap.size := Nat.le_trans h.lo0 h.kp.size
theorem TQ.stLt (h : TQ c w ix fi fl mi ml sl stk out st ov rows) {k : Nat} (hk : st.ownBlock = some k) : c.lo ≤ k ∧ k < w.heap.size := by
  obtain ⟨cc, hc⟩ := own_block h.own hk; exact ⟨own_base h.own k hk, blk_lt hc⟩
theorem TQ.ovLt (h : TQ c w ix fi fl mi ml sl stk out st ov rows) {k : Nat} (hk : ov.ownBlock = some k) : c.lo ≤ k ∧ k < w.heap.size := by
  obtain ⟨cc, hc⟩ := own_block h.out.own hk; exact ⟨own_base h.out.own k hk, blk_lt hc⟩
theorem TQ.rowLt (h : TQ c w ix fi fl mi ml sl stk out st ov rows) {v : Value} (hv : v ∈ rows) {k : Nat} (hk : v.ownBlock = some k) : c.lo ≤ k ∧ k < w.heap.size := by
  obtain ⟨i, hi, rfl⟩ := List.mem_iff_getElem.1 hv
  obtain ⟨cc, hc⟩ := own_block (h.out.each i hi) hk; exact ⟨own_base (h.out.each i hi) k hk, blk_lt hc⟩
theorem TQ.ovNe (h : TQ c w ix fi fl mi ml sl stk out st ov rows) {k : Nat} (hk : ov.ownBlock = some k) : st.ownBlock ≠ some k ∧ ∀ v ∈ rows, v.ownBlock ≠ some k := by
  obtain ⟨cc, hc⟩ := own_block h.out.own hk
  refine ⟨fun e => ?_, fun v hv e => ?_⟩
  · obtain ⟨c2, hc2⟩ := own_block h.own e
    exact absurd (blk_type hc hc2) (by decide)
  · obtain ⟨i, hi, rfl⟩ := List.mem_iff_getElem.1 hv
    obtain ⟨c2, hc2⟩ := own_block (h.out.each i hi) e
    exact absurd (blk_type hc hc2) (by decide)
theorem TQ.gtNe (h : TQ c w ix fi fl mi ml sl stk out st ov rows) : c.gt ≠ c.gi ∧ c.gt ≠ c.gl ∧ c.gt ≠ c.gs :=
  ⟨h.ni.cells_ne h.blk, h.nl.cells_ne h.blk, h.set.cells_ne h.blk⟩
theorem TQ.outKeep (h : TQ c w ix fi fl mi ml sl stk out st ov rows) (h6 : ∀ k, ov.ownBlock = some k → w1.heap[k]? = w.heap[k]?) (h7 : ∀ v ∈ rows, ∀ k, v.ownBlock = some k → w1.heap[k]? = w.heap[k]?) : RwsV kpN c.lo w1 ov rows out :=
  ⟨own_of_heap h.out.own h6, h.out.len, fun i hi => own_of_heap (h.out.each i hi) fun k hk => h7 _ (List.getElem_mem hi) k hk⟩
theorem TQ.stay (h : TQ c w ix fi fl mi ml sl stk out st ov rows) (hk : KeepF c.M w w1) (h1 : w1.heap[c.gt]? = w.heap[c.gt]?) (h2 : w1.heap[c.gi]? = w.heap[c.gi]?) (h3 : w1.heap[c.gl]? = w.heap[c.gl]?) (h4 : w1.heap[c.gs]? = w.heap[c.gs]?) (h5 : ∀ k, st.ownBlock = some k → w1.heap[k]? = w.heap[k]?) (h6 : ∀ k, ov.ownBlock = some k → w1.heap[k]? = w.heap[k]?) (h7 : ∀ v ∈ rows, ∀ k, v.ownBlock = some k → w1.heap[k]? = w.heap[k]?) : TQ c w1 ix fi fl mi ml sl stk out st ov rows :=
  ⟨h1.trans h.blk, h.ni.stay h2, h.nl.stay h3, h.set.stay h4, own_of_heap h.own h5, h.outKeep h6 h7, h.sep, h.d1, h.d2, h.d3, h.lt, h.lo0, h.kp.trans hk, h.s0, h.o0, h.rs⟩
theorem TQ.below (h : TQ c w ix fi fl mi ml sl stk out st ov rows) (hb : Below w.heap.size w w1) : TQ c w1 ix fi fl mi ml sl stk out st ov rows :=
  h.stay (KeepF.of_below hb) (hb.block _ (blk_lt h.blk)) (hb.block _ h.ni.lt) (hb.block _ h.nl.lt) (hb.block _ h.set.lt) (fun k hk => hb.block k (h.stLt hk).2) (fun k hk => hb.block k (h.ovLt hk).2) (fun v hv k hk => hb.block k (h.rowLt hv hk).2)
theorem TQ.cells (h : TQ c w ix fi fl mi ml sl stk out st ov rows) : w.cell? ⟨c.gt, 0, none⟩ = some c.fv ∧ w.cell? ⟨c.gt, 1, none⟩ = some (.int .i64 (ix : Int)) ∧ w.cell? ⟨c.gt, 2, none⟩ = some (.map (some c.gi)) ∧ w.cell? ⟨c.gt, 3, none⟩ = some (.map (some c.gl)) ∧ w.cell? ⟨c.gt, 4, none⟩ = some (.map (some c.gs)) ∧ w.cell? ⟨c.gt, 5, none⟩ = some st ∧ w.cell? ⟨c.gt, 6, none⟩ = some ov :=
  ⟨(blk_cell h.blk 0).trans rfl, (blk_cell h.blk 1).trans rfl, (blk_cell h.blk 2).trans rfl, (blk_cell h.blk 3).trans rfl, (blk_cell h.blk 4).trans rfl, (blk_cell h.blk 5).trans rfl, (blk_cell h.blk 6).trans rfl⟩
/-- what is turned in one block of its own leaves all others -/
theorem TQ.side (h : TQ c w ix fi fl mi ml sl stk out st ov rows) {g : Nat} (hg : w.grownBy w1 (some g)) (hl : g < c.lo) : (∀ k, st.ownBlock = some k → w1.heap[k]? = w.heap[k]?) ∧ (∀ k, ov.ownBlock = some k → w1.heap[k]? = w.heap[k]?) ∧ ∀ v ∈ rows, ∀ k, v.ownBlock = some k → w1.heap[k]? = w.heap[k]? :=
  ⟨fun k hk => hg.block k (h.stLt hk).2 (fun e => by have := (h.stLt hk).1; have := Option.some.inj e; omega), fun k hk => hg.block k (h.ovLt hk).2 (fun e => by have := (h.ovLt hk).1; have := Option.some.inj e; omega), fun v hv k hk => hg.block k (h.rowLt hv hk).2 (fun e => by have := (h.rowLt hv hk).1; have := Option.some.inj e; omega)⟩
theorem TQ.kpOf (h : TQ c w ix fi fl mi ml sl stk out st ov rows) {g : Nat} (hg : w.grownBy w1 (some g)) (hm : c.M g) : KeepF c.M c.w0 w1 := h.kp.trans (KeepF.of_grown hg (fun k hk => by rw [← Option.some.inj hk]; exact hm))
/-- the count goes up -/
theorem TQ.setIx (h : TQ c w ix fi fl mi ml sl stk out st ov rows) (n : Int) (hn : n = (ix' : Int)) : TQ c (w.setCell ⟨c.gt, 1, none⟩ (.int .i64 n)) ix' fi fl mi ml sl stk out st ov rows := by
  subst hn
  have hg := grown_set w c.gt 1 (.int .i64 (ix' : Int))
  have hne := h.gtNe
  obtain ⟨l1, l2, l3, l4⟩ := h.lt
  obtain ⟨a1, a2, a3⟩ := h.side hg l1
  exact ⟨blk_put (cs := #[c.fv, .int .i64 (ix : Int), .map (some c.gi), .map (some c.gl), .map (some c.gs), st, ov]) h.blk 1 _ rfl, h.ni.stay (hg.block _ h.ni.lt (fun e => hne.1 (Option.some.inj e).symm)), h.nl.stay (hg.block _ h.nl.lt (fun e => hne.2.1 (Option.some.inj e).symm)), h.set.stay (hg.block _ h.set.lt (fun e => hne.2.2 (Option.some.inj e).symm)), own_of_heap h.own a1, h.outKeep a2 a3, h.sep, h.d1, h.d2, h.d3, h.lt, h.lo0, h.kpOf hg (.inl rfl), h.s0, h.o0, h.rs⟩
/-- a number is told -/
theorem TQ.putI (h : TQ c w ix fi fl mi ml sl stk out st ov rows) (hn : NumOk w1 c.gi fi' mi') (hg : w.grownBy w1 (some c.gi)) : TQ c w1 ix fi' fl mi' ml sl stk out st ov rows := by
  have hne := h.gtNe
  obtain ⟨a1, a2, a3⟩ := h.side hg h.lt.2.1
  exact ⟨(hg.block _ (blk_lt h.blk) (fun e => hne.1 (Option.some.inj e))).trans h.blk, hn, h.nl.stay (hg.block _ h.nl.lt (fun e => h.d1 (Option.some.inj e).symm)), h.set.stay (hg.block _ h.set.lt (fun e => h.d2 (Option.some.inj e).symm)), own_of_heap h.own a1, h.outKeep a2 a3, h.sep, h.d1, h.d2, h.d3, h.lt, h.lo0, h.kpOf hg (.inr (.inl rfl)), h.s0, h.o0, h.rs⟩
/-- a low number is told -/
theorem TQ.putL (h : TQ c w ix fi fl mi ml sl stk out st ov rows) (hn : NumOk w1 c.gl fl' ml') (hg : w.grownBy w1 (some c.gl)) : TQ c w1 ix fi fl' mi ml' sl stk out st ov rows := by
  have hne := h.gtNe
  obtain ⟨a1, a2, a3⟩ := h.side hg h.lt.2.2.1
  exact ⟨(hg.block _ (blk_lt h.blk) (fun e => hne.2.1 (Option.some.inj e))).trans h.blk, h.ni.stay (hg.block _ h.ni.lt (fun e => h.d1 (Option.some.inj e))), hn, h.set.stay (hg.block _ h.set.lt (fun e => h.d3 (Option.some.inj e).symm)), own_of_heap h.own a1, h.outKeep a2 a3, h.sep, h.d1, h.d2, h.d3, h.lt, h.lo0, h.kpOf hg (.inr (.inr (.inl rfl))), h.s0, h.o0, h.rs⟩
/-- the set of the stack's nodes is turned -/
theorem TQ.setS (h : TQ c w ix fi fl mi ml sl stk out st ov rows) (hn : SetOk w1 c.gs sl') (hg : w.grownBy w1 (some c.gs)) : TQ c w1 ix fi fl mi ml sl' stk out st ov rows := by
  have hne := h.gtNe
  obtain ⟨a1, a2, a3⟩ := h.side hg h.lt.2.2.2
  exact ⟨(hg.block _ (blk_lt h.blk) (fun e => hne.2.2 (Option.some.inj e))).trans h.blk, h.ni.stay (hg.block _ h.ni.lt (fun e => h.d2 (Option.some.inj e))), h.nl.stay (hg.block _ h.nl.lt (fun e => h.d3 (Option.some.inj e))), hn, own_of_heap h.own a1, h.outKeep a2 a3, h.sep, h.d1, h.d2, h.d3, h.lt, h.lo0, h.kpOf hg (.inr (.inr (.inr (.inl rfl)))), h.s0, h.o0, h.rs⟩
theorem TQ.Mst (h : TQ c w ix fi fl mi ml sl stk out st ov rows) {k : Nat} (hk : st.ownBlock = some k) : c.M k ∨ c.w0.heap.size ≤ k := by
  rcases h.s0 with e | e
  · exact .inl (.inr (.inr (.inr (.inr (.inl (e ▸ hk))))))
  · exact .inr (e k hk)
theorem TQ.Mov (h : TQ c w ix fi fl mi ml sl stk out st ov rows) {k : Nat} (hk : ov.ownBlock = some k) : c.M k ∨ c.w0.heap.size ≤ k := by
  rcases h.o0 with e | e
  · exact .inl (.inr (.inr (.inr (.inr (.inr (e ▸ hk))))))
  · exact .inr (e k hk)
/-- blocks of its own that are turned count for the call -/
theorem keep_more {M : Nat → Prop} {w0 w w1 : World} {row : Option Nat} (h : KeepF M w0 w) (hg : w.grownBy w1 row) (hm : ∀ k, row = some k → M k ∨ w0.heap.size ≤ k) : KeepF M w0 w1 :=
  ⟨hg.os.trans h.os, hg.tape.trans h.tape, hg.output.trans h.output, Nat.le_trans h.size hg.size, fun k hk hn => (hg.block k (Nat.lt_of_lt_of_le hk h.size) (fun e => by
    rcases hm k e.symm with h1 | h1
    · exact hn h1
    · omega)).trans (h.block k hk hn)⟩
/-- the stack is another value -/
theorem TQ.setSt (h : TQ c w ix fi fl mi ml sl stk out st ov rows) (hg : w.grownBy w1 st.ownBlock) (ho : w1.ownsRow c.lo 88 1 st' stk'.length (nodeVs stk')) (hat : st'.ownBlock = st.ownBlock ∨ ∀ q, st'.ownBlock = some q → w.heap.size ≤ q) : TQ c (w1.setCell ⟨c.gt, 5, none⟩ st') ix fi fl mi ml sl stk' out st' ov rows := by
  have hg2 := grown_set w1 c.gt 5 st'
  have hne := h.gtNe
  obtain ⟨l1, l2, l3, l4⟩ := h.lt
  have stn : ∀ k, k < c.lo → some k ≠ st.ownBlock := fun k hk e => by have := (h.stLt e.symm).1; omega
  have k1 : ∀ k, k < w.heap.size → k ≠ c.gt → st.ownBlock ≠ some k → (w1.setCell ⟨c.gt, 5, none⟩ st').heap[k]? = w.heap[k]? := fun k a b d => (hg2.block k (Nat.lt_of_lt_of_le a hg.size) (fun e => b (Option.some.inj e))).trans (hg.block k a (fun e => d e.symm))
  have hblk : w1.heap[c.gt]? = some (.cells #[c.fv, .int .i64 (ix : Int), .map (some c.gi), .map (some c.gl), .map (some c.gs), st, ov] 166 (0, 0)) := (hg.block _ (blk_lt h.blk) (stn _ l1)).trans h.blk
  have kl : ∀ k, k < c.lo → k < w.heap.size → k ≠ c.gt → (w1.setCell ⟨c.gt, 5, none⟩ st').heap[k]? = w.heap[k]? := fun k a b d => k1 k b d (fun e => stn k a e.symm)
  refine ⟨blk_put (cs := #[c.fv, .int .i64 (ix : Int), .map (some c.gi), .map (some c.gl), .map (some c.gs), st, ov]) hblk 5 _ rfl, h.ni.stay (kl _ l2 h.ni.lt (Ne.symm hne.1)), h.nl.stay (kl _ l3 h.nl.lt (Ne.symm hne.2.1)), h.set.stay (kl _ l4 h.set.lt (Ne.symm hne.2.2)), own_of_heap ho (fun k hk => ?_), h.outKeep (fun k hk => k1 k (h.ovLt hk).2 (by have := (h.ovLt hk).1; omega) (h.ovNe hk).1) (fun v hv k hk => k1 k (h.rowLt hv hk).2 (by have := (h.rowLt hv hk).1; omega) (h.sep v hv k hk)), fun v hv k hk hs => ?_, h.d1, h.d2, h.d3, h.lt, h.lo0, keep_more (keep_more h.kp hg (fun k hk => h.Mst hk)) hg2 (fun k hk => .inl (.inl (Option.some.inj hk).symm)), ?_, h.o0, h.rs⟩
  · refine Below.heap_setCell _ _ _ _ (fun e => ?_)
    have e2 : k = c.gt := e
    have := own_base ho k hk
    omega
  · rcases hat with e | e
    · exact h.sep v hv k hk (e ▸ hs)
    · have := e k hs
      have := (h.rowLt hv hk).2
      omega
  · rcases hat with e | e
    · rw [e]; exact h.s0
    · exact .inr fun k hk => Nat.le_trans h.kp.size (e k hk)
/-- a component is laid down -/
theorem TQ.setOv (h : TQ c w ix fi fl mi ml sl stk out st ov rows) (hg : w.grownBy w1 ov.ownBlock) (ho : RwsV kpN c.lo w1 ov' rows' out') (hsep : ∀ v ∈ rows', ∀ k, v.ownBlock = some k → st.ownBlock ≠ some k) (hrs : rows'.Pairwise fun u v => ∀ k, u.ownBlock = some k → v.ownBlock ≠ some k) (hat : ov'.ownBlock = ov.ownBlock ∨ ∀ q, ov'.ownBlock = some q → w.heap.size ≤ q) : TQ c (w1.setCell ⟨c.gt, 6, none⟩ ov') ix fi fl mi ml sl stk out' st ov' rows' := by
  have hg2 := grown_set w1 c.gt 6 ov'
  have hne := h.gtNe
  obtain ⟨l1, l2, l3, l4⟩ := h.lt
  have stn : ∀ k, k < c.lo → some k ≠ ov.ownBlock := fun k hk e => by have := (h.ovLt e.symm).1; omega
  have k1 : ∀ k, k < w.heap.size → k ≠ c.gt → ov.ownBlock ≠ some k → (w1.setCell ⟨c.gt, 6, none⟩ ov').heap[k]? = w.heap[k]? := fun k a b d => (hg2.block k (Nat.lt_of_lt_of_le a hg.size) (fun e => b (Option.some.inj e))).trans (hg.block k a (fun e => d e.symm))
  have hblk : w1.heap[c.gt]? = some (.cells #[c.fv, .int .i64 (ix : Int), .map (some c.gi), .map (some c.gl), .map (some c.gs), st, ov] 166 (0, 0)) := (hg.block _ (blk_lt h.blk) (stn _ l1)).trans h.blk
  have kl : ∀ k, k < c.lo → k < w.heap.size → k ≠ c.gt → (w1.setCell ⟨c.gt, 6, none⟩ ov').heap[k]? = w.heap[k]? := fun k a b d => k1 k b d (fun e => stn k a e.symm)
  have low : ∀ k, c.lo ≤ k → (w1.setCell ⟨c.gt, 6, none⟩ ov').heap[k]? = w1.heap[k]? := fun k hk => Below.heap_setCell _ _ _ _ (fun e => by have e2 : k = c.gt := e; omega)
  refine ⟨blk_put (cs := #[c.fv, .int .i64 (ix : Int), .map (some c.gi), .map (some c.gl), .map (some c.gs), st, ov]) hblk 6 _ rfl, h.ni.stay (kl _ l2 h.ni.lt (Ne.symm hne.1)), h.nl.stay (kl _ l3 h.nl.lt (Ne.symm hne.2.1)), h.set.stay (kl _ l4 h.set.lt (Ne.symm hne.2.2)), own_of_heap h.own (fun k hk => k1 k (h.stLt hk).2 (by have := (h.stLt hk).1; omega) (fun e => (h.ovNe e).1 hk)), ⟨own_of_heap ho.own (fun k hk => low k (own_base ho.own k hk)), ho.len, fun i hi => own_of_heap (ho.each i hi) (fun k hk => low k (own_base (ho.each i hi) k hk))⟩, hsep, h.d1, h.d2, h.d3, h.lt, h.lo0, keep_more (keep_more h.kp hg (fun k hk => h.Mov hk)) hg2 (fun k hk => .inl (.inl (Option.some.inj hk).symm)), h.s0, ?_, hrs⟩
  rcases hat with e | e
  · rw [e]; exact h.o0
  · exact .inr fun k hk => Nat.le_trans h.kp.size (e k hk)
end
/-- the object as the plain state tells it -/
def TO (c : TA) (w : World) (s : TS) (st ov : Value) (rows : List Value) : Prop := TQ c w s.idx s.num s.low s.idx s.idx s.stk s.stk s.out st ov rows
end Go.Proofs.YtddklkgcodjijaaGreat.R

/- Bounds of Tarjan's walk. -/
namespace Go.Proofs.YtddklkgcodjijaaGreat.R
open Go.RowKit Go.Lab

/-- bounds between the steps -/
structure TB (ns : List Int) (s : TS) : Prop where
  idx : s.idx + unv ns s ≤ ns.length
  len : s.out.length + s.stk.length ≤ s.idx
  zero : ∀ x, s.low x = 0 ↔ s.num x = 0
  low : ∀ x, s.low x ≤ s.idx
  num : ∀ x, s.num x ≤ s.idx
  within : ∀ x, s.num x ≠ 0 → x ∈ ns
section
variable {ns : List Int} {s : TS} {v : Int}
theorem TB.none (ns : List Int) : TB ns TS.none := ⟨by show 0 + _ ≤ _; rw [Nat.zero_add]; exact List.countP_le_length, Nat.le_refl _, fun _ => Iff.rfl, fun _ => Nat.le_refl _, fun _ => Nat.le_refl _, fun x h => absurd rfl h⟩
theorem TB.enter (h : TB ns s) (hv : v ∈ ns) (hn : s.num v = 0) : TB ns (s.enter v) := by
  have h1 := enter_unv hv hn
  have hi := h.idx
  have hl := h.len
  refine ⟨by show s.idx + 1 + _ ≤ _; omega, by show s.out.length + (s.stk ++ [v]).length ≤ s.idx + 1; rw [List.length_append, List.length_singleton]; omega, fun x => ?_, fun x => ?_, fun x => ?_, fun x hx => ?_⟩
  · show updN s.low v (s.idx + 1) x = 0 ↔ updN s.num v (s.idx + 1) x = 0
    by_cases e : x = v
    · subst e; rw [updN_eq, updN_eq]
    · rw [updN_ne _ _ e, updN_ne _ _ e]; exact h.zero x
  · show updN s.low v (s.idx + 1) x ≤ s.idx + 1
    by_cases e : x = v
    · subst e; rw [updN_eq]; exact Nat.le_refl _
    · rw [updN_ne _ _ e]; have := h.low x; omega
  · show updN s.num v (s.idx + 1) x ≤ s.idx + 1
    by_cases e : x = v
    · subst e; rw [updN_eq]; exact Nat.le_refl _
    · rw [updN_ne _ _ e]; have := h.num x; omega
  · by_cases e : x = v
    · subst e; exact hv
    · rw [show (s.enter v).num x = s.num x from updN_ne _ _ e] at hx; exact h.within x hx
theorem TB.lower (h : TB ns s) (n : Nat) (hn : n ≠ 0) (hv : s.num v ≠ 0) : TB ns (s.lower v n) := by
  have h0 : s.low v ≠ 0 := fun e => hv ((h.zero v).1 e)
  refine ⟨h.idx, h.len, fun x => ?_, fun x => ?_, h.num, h.within⟩
  · show updN s.low v (min (s.low v) n) x = 0 ↔ s.num x = 0
    by_cases e : x = v
    · subst e; rw [updN_eq]
      exact ⟨fun e => by omega, fun e => absurd e hv⟩
    · rw [updN_ne _ _ e]; exact h.zero x
  · show updN s.low v (min (s.low v) n) x ≤ s.idx
    by_cases e : x = v
    · subst e; rw [updN_eq]; exact Nat.le_trans (Nat.min_le_left _ _) (h.low x)
    · rw [updN_ne _ _ e]; exact h.low x
theorem TB.leave (h : TB ns s) {old nw : List Int} (e : s.stk = old ++ v :: nw) (hv : v ∉ old) : TB ns (s.leave v) := by
  unfold TS.leave
  split
  · obtain ⟨t1, t2⟩ := cut_at old nw v hv
    refine ⟨h.idx, ?_, h.zero, h.low, h.num, h.within⟩
    have hl := h.len
    show (s.out ++ [(s.stk.dropWhile _).reverse]).length + (s.stk.takeWhile _).length ≤ s.idx
    rw [e] at hl ⊢
    rw [t1]
    simp only [List.length_append, List.length_cons, List.length_nil] at hl ⊢
    omega
  · exact h
end
theorem succs_tb {adj : Int → List Int} {ns g : List Int} {v : Int} {s0 : TS} (hin : ∀ u, ∀ x ∈ adj u, x ∈ ns) (i0 : TInv adj g s0) (hv : s0.num v = 0) (hg : ∀ x ∈ g, RchW adj x v) (k : Nat)
    (hrec : ∀ w s s', TInv adj (g ++ [v]) s → s.num w = 0 → (∀ x ∈ g ++ [v], RchW adj x w) → w ∈ ns → TB ns s → strongT adj k w s = some s' → TB ns s') :
    ∀ (ws done : List Int) (s r : TS), (∀ w ∈ ws, w ∈ adj v) → TLoop adj g v done s0 s → TB ns s → succsT (strongT adj k) v ws s = some r → TB ns r := by
  intro ws
  induction ws with
  | nil => intro done s r _ _ hb hr; simp only [succsT, Option.some.injEq] at hr; subst hr; exact hb
  | cons w ws ih =>
    intro done s r hws h hb hr
    have hw := hws w (by simp)
    have hws' : ∀ x ∈ ws, x ∈ adj v := fun x hx => hws x (by simp [hx])
    have nv0 : s.num v ≠ 0 := by rw [h.nv]; omega
    unfold succsT at hr
    by_cases hn : s.num w = 0
    · rw [if_pos hn] at hr
      obtain ⟨s', hs', hr'⟩ := Option.bind_eq_some_iff.1 hr
      have hgw : ∀ x ∈ g ++ [v], RchW adj x w := fun x hx => by
        rcases List.mem_append.1 hx with hx | hx
        · exact (hg x hx).step hw
        · obtain rfl := List.mem_singleton.1 hx
          exact RchW.one hw
      have p := strongT_ok adj k (g ++ [v]) w s s' h.inv hn hgw hs'
      have hb' := hrec w s s' h.inv hn hgw (hin v w hw) hb hs'
      exact ih _ _ _ hws' (h.walked i0 hv hw hn p) (hb'.lower _ (fun e => by have h1 := (hb'.zero w).1 e; rw [p.nv] at h1; omega) (by rw [p.num v nv0]; exact nv0)) hr'
    · rw [if_neg hn] at hr
      by_cases hs : w ∈ s.stk
      · rw [if_pos hs] at hr
        exact ih _ _ _ hws' (h.onStk i0 hv hw hs) (hb.lower _ hn nv0) hr
      · rw [if_neg hs] at hr
        exact ih _ _ _ hws' (h.gone i0 hn hs) hb hr
theorem strongT_tb {adj : Int → List Int} {ns : List Int} (hin : ∀ u, ∀ x ∈ adj u, x ∈ ns) : ∀ (k : Nat) (g : List Int) (v : Int) (s r : TS), TInv adj g s → s.num v = 0 → (∀ x ∈ g, RchW adj x v) → v ∈ ns → TB ns s → strongT adj k v s = some r → TB ns r := by
  intro k
  induction k with
  | zero => intro g v s r _ _ _ _ _ h; simp [strongT] at h
  | succ k ih =>
    intro g v s r i hv hg hvn hb h
    unfold strongT at h
    obtain ⟨s', hs', rfl⟩ := Option.map_eq_some_iff.1 h
    have hl := succs_ok i hv hg (strongT adj k) (fun w s s' a b c d => strongT_ok adj k (g ++ [v]) w s s' a b c d) (adj v) [] (s.enter v) s' (fun _ h => h) (i.enter hv hg) hs'
    have hb' := succs_tb hin i hv hg k (fun w s s' a b c d e f => ih (g ++ [v]) w s s' a b c d e f) (adj v) [] (s.enter v) s' (fun _ h => h) (i.enter hv hg) (hb.enter hvn hv) hs'
    obtain ⟨nw, e, _⟩ := hl.stk
    exact hb'.leave e (fun hh => i.vis v hh hv)
end Go.Proofs.YtddklkgcodjijaaGreat.R

/- A call of strongconnect inside another one; the successors' row. -/
namespace Go.Proofs.YtddklkgcodjijaaGreat.R
open Go.RowKit Go.Lab Go.Maps Go.Proofs.YtddklkgcodjijaaGreatW.PrintWords Go.Proofs.YtddklkgcodjijaaGreatW.PrintLast Go.Proofs.YtddklkgcodjijaaGreatW.PrintMore PL

/-- the same object, a new beginning -/
def TA.at (c : TA) (w : World) (st ov : Value) : TA := ⟨c.gt, c.gi, c.gl, c.gs, c.lo, c.fv, w, st, ov⟩
section
variable {c : TA} {w w1 : World} {ix mi ml ix' mi' ml' : Nat} {fi fl fi' fl' : Int → Nat} {sl sl' stk stk' : List Int} {out out' : List (List Int)} {st st' ov ov' : Value} {rows rows' : List Value}
theorem TQ.restart (h : TQ c w ix fi fl mi ml sl stk out st ov rows) : TQ (c.at w st ov) w ix fi fl mi ml sl stk out st ov rows :=
  ⟨h.blk, h.ni, h.nl, h.set, h.own, h.out, h.sep, h.d1, h.d2, h.d3, h.lt, h.L, ⟨rfl, rfl, rfl, Nat.le_refl _, fun _ _ _ => rfl⟩, .inl rfl, .inl rfl, h.rs⟩
theorem TQ.resume (h : TQ c w ix fi fl mi ml sl stk out st ov rows) (h2 : TQ (c.at w st ov) w1 ix' fi' fl' mi' ml' sl' stk' out' st' ov' rows') : TQ c w1 ix' fi' fl' mi' ml' sl' stk' out' st' ov' rows' := by
  refine ⟨h2.blk, h2.ni, h2.nl, h2.set, h2.own, h2.out, h2.sep, h.d1, h.d2, h.d3, h.lt, h.lo0, ?_, ?_, ?_, h2.rs⟩
  · have k1 := h.kp
    have k2 := h2.kp
    refine ⟨k2.os.trans k1.os, k2.tape.trans k1.tape, k2.output.trans k1.output, Nat.le_trans k1.size k2.size, fun k hk hn => ?_⟩
    refine (k2.block k (Nat.lt_of_lt_of_le hk k1.size) (fun hm => ?_)).trans (k1.block k hk hn)
    rcases hm with e | e | e | e | e | e
    · exact hn (.inl e)
    · exact hn (.inr (.inl e))
    · exact hn (.inr (.inr (.inl e)))
    · exact hn (.inr (.inr (.inr (.inl e))))
    · rcases h.Mst e with e2 | e2
      · exact hn e2
      · omega
    · rcases h.Mov e with e2 | e2
      · exact hn e2
      · omega
  · rcases h2.s0 with e | e
    · have e' : st'.ownBlock = st.ownBlock := e
      rw [e']; exact h.s0
    · exact .inr fun k hk => Nat.le_trans h.kp.size (e k hk)
  · rcases h2.o0 with e | e
    · have e' : ov'.ownBlock = ov.ownBlock := e
      rw [e']; exact h.o0
    · exact .inr fun k hk => Nat.le_trans h.kp.size (e k hk)
end

/-- a row that is read alone: it stays, whatever the object does -/
structure SRow (c : TA) (w : World) (vv st ov : Value) (xs : List Int) : Prop where
  own : w.ownsRow c.lo 88 1 vv xs.length (nodeVs xs)
  st : ∀ q, vv.ownBlock = some q → st.ownBlock ≠ some q
  ov : ∀ q, vv.ownBlock = some q → ov.ownBlock ≠ some q
section
variable {c : TA} {w w1 : World} {ix mi ml ix' mi' ml' : Nat} {fi fl fi' fl' : Int → Nat} {sl sl' stk stk' : List Int} {out out' : List (List Int)} {vv st st' ov ov' : Value} {rows rows' : List Value} {xs : List Int}
theorem SRow.lt (h : SRow c w vv st ov xs) {q : Nat} (hq : vv.ownBlock = some q) : c.lo ≤ q ∧ q < w.heap.size := by
  obtain ⟨cc, hc⟩ := own_block h.own hq
  exact ⟨own_base h.own q hq, blk_lt hc⟩
theorem SRow.below (h : SRow c w vv st ov xs) (hb : Below w.heap.size w w1) : SRow c w1 vv st ov xs :=
  ⟨own_of_heap h.own fun k hk => hb.block k (h.lt hk).2, h.st, h.ov⟩
/-- what is turned in one of the object's own blocks leaves it -/
theorem SRow.grown (h : SRow c w vv st ov xs) {g : Nat} (hg : w.grownBy w1 (some g)) (hl : g < c.lo) : SRow c w1 vv st ov xs :=
  ⟨own_of_heap h.own fun k hk => hg.block k (h.lt hk).2 (fun e => by have := (h.lt hk).1; have := Option.some.inj e; omega), h.st, h.ov⟩
/-- a call inside leaves it -/
theorem SRow.call (h : SRow c w vv st ov xs) (hq : TQ c w ix fi fl mi ml sl stk out st ov rows) (h2 : TQ (c.at w st ov) w1 ix' fi' fl' mi' ml' sl' stk' out' st' ov' rows') : SRow c w1 vv st' ov' xs := by
  obtain ⟨l1, l2, l3, l4⟩ := hq.lt
  refine ⟨own_of_heap h.own fun k hk => h2.kp.block k (h.lt hk).2 (fun hm => ?_), fun q hq2 => ?_, fun q hq2 => ?_⟩
  · have := (h.lt hk).1
    rcases hm with e | e | e | e | e | e
    · have e2 : k = c.gt := e; omega
    · have e2 : k = c.gi := e; omega
    · have e2 : k = c.gl := e; omega
    · have e2 : k = c.gs := e; omega
    · exact h.st k hk e
    · exact h.ov k hk e
  · rcases h2.s0 with e | e
    · have e' : st'.ownBlock = st.ownBlock := e
      rw [e']; exact h.st q hq2
    · intro e2
      have h3 : w.heap.size ≤ q := e q e2
      have := (h.lt hq2).2
      omega
  · rcases h2.o0 with e | e
    · have e' : ov'.ownBlock = ov.ownBlock := e
      rw [e']; exact h.ov q hq2
    · intro e2
      have h3 : w.heap.size ≤ q := e q e2
      have := (h.lt hq2).2
      omega
theorem SRow.cell (h : SRow c w vv st ov xs) {i : Nat} (hi : i < xs.length) : ∃ g cc, vv = .slice (some ⟨g, 0, none⟩) xs.length cc ∧ w.cell? ⟨g, i, none⟩ = some (.iface 272 (.int .i64 xs[i])) := by
  obtain ⟨g, cc, e, _, hc, _⟩ := own_cells h.own (by omega)
  refine ⟨g, cc, e, hc i _ ?_⟩
  unfold nodeVs
  rw [List.getElem?_map, List.getElem?_eq_getElem hi]
  rfl
end

/-- the loop over the successors, at the i-th one -/
def TLp (adj : Int → List Int) (ns : List Int) (c : TA) (g : List Int) (v : Int) (s r1 : TS) (k : Nat) (vv : Value) (wr : World) (i : Nat) : Prop :=
  ∃ s1 done ws st1 ov1 rows1, adj v = done ++ ws ∧ done.length = i ∧ TLoop adj g v done s s1 ∧ TB ns s1 ∧ succsT (strongT adj k) v ws s1 = some r1 ∧ TO c wr s1 st1 ov1 rows1 ∧ SRow c wr vv st1 ov1 (adj v)
end Go.Proofs.YtddklkgcodjijaaGreat.R

/- The stack is popped: the row of the component's nodes, and the object beside it. -/
namespace Go.Proofs.YtddklkgcodjijaaGreat.R
open Go.RowKit Go.Lab Go.Maps Go.Proofs.YtddklkgcodjijaaGreatW.PrintWords Go.Proofs.YtddklkgcodjijaaGreatW.PrintLast Go.Proofs.YtddklkgcodjijaaGreatW.PrintMore PL

/-- the row of the nodes popped so far: made in this call, apart from all that the object holds -/
structure PRow (c : TA) (w : World) (vv st ov : Value) (rows : List Value) (xs : List Int) : Prop where
  own : w.ownsRow c.lo 88 1 vv xs.length (nodeVs xs)
  nw : ∀ q, vv.ownBlock = some q → c.w0.heap.size ≤ q
  st : ∀ q, vv.ownBlock = some q → st.ownBlock ≠ some q
  ov : ∀ q, vv.ownBlock = some q → ov.ownBlock ≠ some q
  rw' : ∀ q, vv.ownBlock = some q → ∀ u ∈ rows, u.ownBlock ≠ some q
section
variable {c : TA} {w w1 : World} {ix mi ml : Nat} {fi fl : Int → Nat} {sl sl' stk pre : List Int} {out : List (List Int)} {vv vv' st st' ov : Value} {rows : List Value} {xs : List Int} {x : Int}
theorem TQ.cutSt {g cap n : Nat} (h : TQ c w ix fi fl mi ml sl (pre ++ [x]) out (.slice (some ⟨g, 0, none⟩) n cap) ov rows) (hn : n = pre.length + 1) :
    TQ c (w.setCell ⟨c.gt, 5, none⟩ (.slice (some ⟨g, 0, none⟩) pre.length cap)) ix fi fl mi ml sl pre out (.slice (some ⟨g, 0, none⟩) pre.length cap) ov rows := by
  subst hn
  have ho := h.own
  rw [List.length_append, List.length_singleton] at ho
  have h2 := own_cut ho (m := pre.length) (by omega)
  have e : (nodeVs (pre ++ [x])).take pre.length = nodeVs pre := by
    rw [nodeVs_append]
    exact List.take_left' (nodeVs_len pre)
  rw [e] at h2
  exact h.setSt (World.grownBy.refl _ _) h2 (.inl rfl)
theorem PRow.lt (h : PRow c w vv st ov rows xs) {q : Nat} (hq : vv.ownBlock = some q) : c.lo ≤ q ∧ q < w.heap.size := by
  obtain ⟨cc, hc⟩ := own_block h.own hq
  exact ⟨own_base h.own q hq, blk_lt hc⟩
theorem PRow.below (h : PRow c w vv st ov rows xs) (hb : Below w.heap.size w w1) : PRow c w1 vv st ov rows xs :=
  ⟨own_of_heap h.own fun k hk => hb.block k (h.lt hk).2, h.nw, h.st, h.ov, h.rw'⟩
theorem PRow.grown (h : PRow c w vv st ov rows xs) {g : Nat} (hg : w.grownBy w1 (some g)) (hl : g < c.lo) : PRow c w1 vv st ov rows xs :=
  ⟨own_of_heap h.own fun k hk => hg.block k (h.lt hk).2 (fun e => by have := (h.lt hk).1; have := Option.some.inj e; omega), h.nw, h.st, h.ov, h.rw'⟩
theorem PRow.stIs (h : PRow c w vv st ov rows xs) (e : st'.ownBlock = st.ownBlock) : PRow c w vv st' ov rows xs :=
  ⟨h.own, h.nw, fun q hq => by rw [e]; exact h.st q hq, h.ov, h.rw'⟩
/-- the row grows: the object stays -/
theorem TQ.beside (h : TQ c w ix fi fl mi ml sl stk out st ov rows) (r : PRow c w vv st ov rows xs) (hg : w.grownBy w1 vv.ownBlock) : TQ c w1 ix fi fl mi ml sl stk out st ov rows := by
  obtain ⟨l1, l2, l3, l4⟩ := h.lt
  have low : ∀ k, k < c.lo → k < w.heap.size → w1.heap[k]? = w.heap[k]? := fun k a b => hg.block k b (fun e => by have := (r.lt e.symm).1; omega)
  exact ⟨(low _ l1 (blk_lt h.blk)).trans h.blk, h.ni.stay (low _ l2 h.ni.lt), h.nl.stay (low _ l3 h.nl.lt), h.set.stay (low _ l4 h.set.lt),
    own_of_heap h.own (fun k hk => hg.block k (h.stLt hk).2 (fun e => r.st k e.symm hk)),
    h.outKeep (fun k hk => hg.block k (h.ovLt hk).2 (fun e => r.ov k e.symm hk)) (fun v hv k hk => hg.block k (h.rowLt hv hk).2 (fun e => r.rw' k e.symm v hv hk)),
    h.sep, h.d1, h.d2, h.d3, h.lt, h.lo0, keep_more h.kp hg (fun k hk => .inr (r.nw k hk)), h.s0, h.o0, h.rs⟩
theorem PRow.more (h : TQ c w ix fi fl mi ml sl stk out st ov rows) (r : PRow c w vv st ov rows xs) (ho : w1.ownsRow c.lo 88 1 vv' (xs.length + 1) (nodeVs xs ++ [.iface 272 (.int .i64 x)])) (hat : vv'.ownBlock = vv.ownBlock ∨ ∀ q, vv'.ownBlock = some q → w.heap.size ≤ q) : PRow c w1 vv' st ov rows (xs ++ [x]) := by
  have ho2 : w1.ownsRow c.lo 88 1 vv' (xs ++ [x]).length (nodeVs (xs ++ [x])) := by
    rw [List.length_append, List.length_singleton, nodeVs_append]; exact ho
  rcases hat with e | e
  · exact ⟨ho2, fun q hq => r.nw q (e ▸ hq), fun q hq => r.st q (e ▸ hq), fun q hq => r.ov q (e ▸ hq), fun q hq => r.rw' q (e ▸ hq)⟩
  · exact ⟨ho2, fun q hq => Nat.le_trans h.kp.size (e q hq), fun q hq e2 => by have := (h.stLt e2).2; have := e q hq; omega, fun q hq e2 => by have := (h.ovLt e2).2; have := e q hq; omega, fun q hq u hu e2 => by have := (h.rowLt hu e2).2; have := e q hq; omega⟩
/-- the row is laid down in the object's result -/
theorem TQ.lay (h : TQ c w ix fi fl mi ml sl stk out st ov rows) (r : PRow c w vv st ov rows xs) {ov' : Value} (hg : w.grownBy w1 ov.ownBlock) (ho : w1.ownsRow c.lo 60 1 ov' (rows.length + 1) (rows ++ [vv])) (hat : ov'.ownBlock = ov.ownBlock ∨ ∀ q, ov'.ownBlock = some q → w.heap.size ≤ q) :
    TQ c (w1.setCell ⟨c.gt, 6, none⟩ ov') ix fi fl mi ml sl stk (out ++ [xs]) st ov' (rows ++ [vv]) := by
  refine h.setOv hg (RwsV.snoc (by rw [List.length_append, List.length_singleton]; exact ho) h.out.len (fun i hi => own_of_heap (h.out.each i hi) fun k hk => hg.block k (h.rowLt (List.getElem_mem hi) hk).2 (fun e => (h.ovNe e.symm).2 _ (List.getElem_mem hi) hk)) (own_of_heap r.own fun k hk => hg.block k (r.lt hk).2 (fun e => r.ov k hk e.symm))) (fun v hv k hk => ?_) (List.pairwise_append.2 ⟨h.rs, List.pairwise_singleton _ _, fun a ha b hb k hk e => by rw [List.mem_singleton] at hb; subst hb; exact r.rw' k e a ha hk⟩) hat
  rcases List.mem_append.1 hv with hv | hv
  · exact h.sep v hv k hk
  · obtain rfl := List.mem_singleton.1 hv
    exact r.st k hk
theorem PRow.nil (c : TA) (w : World) (st ov : Value) (rows : List Value) : PRow c w (.slice none 0 0) st ov rows [] :=
  ⟨World.ownsRow_nil _ _ _ _, fun q hq => by simp [Value.ownBlock] at hq, fun q hq => by simp [Value.ownBlock] at hq, fun q hq => by simp [Value.ownBlock] at hq, fun q hq => by simp [Value.ownBlock] at hq⟩
end
/-- the pop's loop: rest is still on the stack behind v, xs is popped -/
def TPop (c : TA) (s1 : TS) (old : List Int) (v : Int) (vv : Value) (w : World) (rest : List Int) : Prop :=
  ∃ xs st ov rows, s1.stk = old ++ v :: (rest ++ xs.reverse) ∧ TQ c w s1.idx s1.num s1.low s1.idx s1.idx (old ++ v :: rest) (old ++ v :: rest) s1.out st ov rows ∧ PRow c w vv st ov rows xs
/-- how many elements a slice has -/
def lenOf : Value → Nat
  | .slice _ n _ => n
  | _ => 0
theorem snoc_of {α : Type} : ∀ {l : List α}, l ≠ [] → ∃ pre x, l = pre ++ [x]
  | l, h => ⟨l.dropLast, l.getLast h, (List.dropLast_concat_getLast h).symm⟩
theorem last_is {old rest pre : List Int} {v x : Int} (h : old ++ v :: rest = pre ++ [x]) : (rest = [] ∧ pre = old ∧ x = v) ∨ ∃ rest', rest = rest' ++ [x] ∧ pre = old ++ v :: rest' := by
  by_cases hr : rest = []
  · subst hr
    have h2 := List.append_inj' h rfl
    exact .inl ⟨rfl, h2.1.symm, by have := h2.2; simpa using this.symm⟩
  · obtain ⟨p, y, rfl⟩ := snoc_of hr
    have h1 : (old ++ v :: p) ++ [y] = pre ++ [x] := by rw [← h]; simp
    have h2 := List.append_inj' h1 rfl
    have e : y = x := by simpa using h2.2
    exact .inr ⟨p, by rw [e], h2.1.symm⟩
theorem stk_nodup {adj : Int → List Int} {g : List Int} {s : TS} (h : TInv adj g s) : s.stk.Nodup := h.srt.imp fun {a b} hab e => by subst e; omega
end Go.Proofs.YtddklkgcodjijaaGreat.R

/- topo.sortedFrom: its state, and how each step turns it. -/
namespace Go.Proofs.YtddklkgcodjijaaGreat.R
open Go.RowKit Go.Lab Go.Maps Go.Proofs.YtddklkgcodjijaaGreatW.PrintWords Go.Proofs.YtddklkgcodjijaaGreatW.PrintLast Go.Proofs.YtddklkgcodjijaaGreatW.PrintMore PL

/-- values that are nodes, or none -/
def NVs (vs : List Value) : Prop := ∀ u ∈ vs, u = .nilIface ∨ ∃ x : Int, u = .iface 272 (.int .i64 x)
theorem NVs.one {vs : List Value} (h : NVs vs) : ∀ u ∈ vs, u.oneCell' = true := fun u hu => by
  rcases h u hu with rfl | ⟨x, rfl⟩ <;> rfl
/-- what stands in the order for a component -/
def slotV (p : List Int) : Value := if p.length = 1 then .iface 272 (.int .i64 (p.headD 0)) else .nilIface
theorem slotV_one (x : Int) : slotV [x] = .iface 272 (.int .i64 x) := rfl
theorem slotV_ne {p : List Int} (h : p.length ≠ 1) : slotV p = .nilIface := if_neg h
theorem slotV_NVs (ps : List (List Int)) : NVs (ps.map slotV) := fun u hu => by
  obtain ⟨p, _, rfl⟩ := List.mem_map.1 hu
  unfold slotV
  split
  · exact .inr ⟨_, rfl⟩
  · exact .inl rfl
theorem zip_take (rows : List Value) (out : List (List Int)) (i : Nat) (hr : i < rows.length) (ho : i < out.length) : (rows.zip out).take (i + 1) = (rows.zip out).take i ++ [(rows[i], out[i])] := by
  rw [List.take_succ_eq_append_getElem (by rw [List.length_zip]; omega)]
  simp
/-- the components, each a row apart; the order so far; and those that are no single nodes -/
structure SFr (w0 : World) (lo : Nat) (rows : List Value) (lv : Value) (out : List (List Int)) (wr : World) (sv cv : Value) (vs : List Value) (rows2 : List Value) (out' : List (List Int)) : Prop where
  oO : RwsV kpN lo wr lv rows out'
  sO : wr.ownsRow w0.heap.size 88 1 sv vs.length vs
  cO : wr.ownsRow w0.heap.size 60 1 cv rows2.length rows2
  nil : rows2 = [] → cv = .slice none 0 0
  bl : Below lo w0 wr
  b1 : ∀ k, lv.ownBlock = some k → k < w0.heap.size
  b2 : ∀ u ∈ rows, ∀ k, u.ownBlock = some k → k < w0.heap.size
  rs : rows.Pairwise fun u v => ∀ k, u.ownBlock = some k → v.ownBlock ≠ some k
section
variable {w0 : World} {lo : Nat} {rows : List Value} {lv : Value} {out : List (List Int)} {wr w1 : World} {sv sv' : Value} {vs : List Value} {cv cv' : Value} {rows2 : List Value} {out' : List (List Int)} {u : Value}
theorem SFr.start (h : RwsV kpN lo w0 lv rows out) (hs : rows.Pairwise fun u v => ∀ k, u.ownBlock = some k → v.ownBlock ≠ some k) (hlo : lo ≤ w0.heap.size) (hg : w0.grownBy wr none) (ho : wr.ownsRow w0.heap.size 88 1 sv 0 []) : SFr w0 lo rows lv out wr sv (.slice none 0 0) [] [] out := by
  have b1 : ∀ k, lv.ownBlock = some k → k < w0.heap.size := fun k hk => by obtain ⟨c, hc⟩ := own_block h.own hk; exact blk_lt hc
  have b2 : ∀ u ∈ rows, ∀ k, u.ownBlock = some k → k < w0.heap.size := fun u hu k hk => by
    obtain ⟨i, hi, rfl⟩ := List.mem_iff_getElem.1 hu
    obtain ⟨c, hc⟩ := own_block (h.each i hi) hk
    exact blk_lt hc
  exact ⟨⟨own_of_heap h.own fun k hk => hg.block k (b1 k hk) (by simp), h.len, fun i hi => own_of_heap (h.each i hi) fun k hk => hg.block k (b2 _ (List.getElem_mem hi) k hk) (by simp)⟩, ho, World.ownsRow_nil _ _ _ _, fun _ => rfl, ⟨hg.os, hg.tape, hg.output, hg.size, fun k hk => hg.block k (by omega) (by simp)⟩, b1, b2, hs⟩
theorem SFr.L (h : SFr w0 lo rows lv out wr sv cv vs rows2 out') : w0.heap.size ≤ wr.heap.size := h.bl.size
theorem SFr.svLt (h : SFr w0 lo rows lv out wr sv cv vs rows2 out') {k : Nat} (hk : sv.ownBlock = some k) : w0.heap.size ≤ k ∧ k < wr.heap.size := by
  obtain ⟨c, hc⟩ := own_block h.sO hk; exact ⟨own_base h.sO k hk, blk_lt hc⟩
theorem SFr.cvLt (h : SFr w0 lo rows lv out wr sv cv vs rows2 out') {k : Nat} (hk : cv.ownBlock = some k) : w0.heap.size ≤ k ∧ k < wr.heap.size := by
  obtain ⟨c, hc⟩ := own_block h.cO hk; exact ⟨own_base h.cO k hk, blk_lt hc⟩
theorem SFr.scNe (h : SFr w0 lo rows lv out wr sv cv vs rows2 out') {k : Nat} (hk : cv.ownBlock = some k) : sv.ownBlock ≠ some k := fun e => by
  obtain ⟨c, hc⟩ := own_block h.cO hk
  obtain ⟨c2, hc2⟩ := own_block h.sO e
  exact absurd (blk_type hc hc2) (by decide)
theorem SFr.old (h : SFr w0 lo rows lv out wr sv cv vs rows2 out') {o : Option Nat} (hg : wr.grownBy w1 o) (ho : ∀ k, o = some k → w0.heap.size ≤ k) (hlo : lo ≤ w0.heap.size) : RwsV kpN lo w1 lv rows out' ∧ Below lo w0 w1 := by
  have kk : ∀ k, k < w0.heap.size → w1.heap[k]? = wr.heap[k]? := fun k hk => hg.block k (Nat.lt_of_lt_of_le hk h.L) (fun e => by have := ho k e.symm; omega)
  exact ⟨⟨own_of_heap h.oO.own fun k hk => kk k (h.b1 k hk), h.oO.len, fun i hi => own_of_heap (h.oO.each i hi) fun k hk => kk k (h.b2 _ (List.getElem_mem hi) k hk)⟩,
    ⟨hg.os.trans h.bl.os, hg.tape.trans h.bl.tape, hg.output.trans h.bl.output, Nat.le_trans h.bl.size hg.size, fun k hk => (kk k (by omega)).trans (h.bl.block k hk)⟩⟩
/-- the order grows -/
theorem SFr.growS (h : SFr w0 lo rows lv out wr sv cv vs rows2 out') (hlo : lo ≤ w0.heap.size) (hg : wr.grownBy w1 sv.ownBlock) (ho : w1.ownsRow w0.heap.size 88 1 sv' (vs.length + 1) (vs ++ [u])) : SFr w0 lo rows lv out w1 sv' cv (vs ++ [u]) rows2 out' := by
  obtain ⟨a, b⟩ := h.old hg (fun k hk => (h.svLt hk).1) hlo
  exact ⟨a, by rw [List.length_append, List.length_singleton]; exact ho, own_of_heap h.cO fun k hk => hg.block k (h.cvLt hk).2 (fun e => h.scNe hk e.symm), h.nil, b, h.b1, h.b2, h.rs⟩
/-- a component that is no single node is laid down -/
theorem SFr.growC (h : SFr w0 lo rows lv out wr sv cv vs rows2 out') (hlo : lo ≤ w0.heap.size) (hg : wr.grownBy w1 cv.ownBlock) (ho : w1.ownsRow w0.heap.size 60 1 cv' (rows2.length + 1) (rows2 ++ [u])) : SFr w0 lo rows lv out w1 sv cv' vs (rows2 ++ [u]) out' := by
  obtain ⟨a, b⟩ := h.old hg (fun k hk => (h.cvLt hk).1) hlo
  exact ⟨a, own_of_heap h.sO fun k hk => hg.block k (h.svLt hk).2 (fun e => h.scNe e.symm hk), by rw [List.length_append, List.length_singleton]; exact ho, fun e => by simp at e, b, h.b1, h.b2, h.rs⟩
/-- a component is sorted -/
theorem SFr.turned (h : SFr w0 lo rows lv out wr sv cv vs rows2 out') (hlo : lo ≤ w0.heap.size) {i : Nat} (hi : i < rows.length) {ys : List Int} (hl : ys.length = (out'.getD i []).length) (hg : wr.grownBy w1 rows[i].ownBlock) (ho : w1.ownsRow lo 88 1 rows[i] (out'.getD i []).length (nodeVs ys)) : SFr w0 lo rows lv out w1 sv cv vs rows2 (out'.set i ys) := by
  have hlen := h.oO.len
  have hio : i < out'.length := by omega
  have hb := h.b2 _ (List.getElem_mem hi)
  have hbl : ∀ k, rows[i].ownBlock = some k → lo ≤ k := fun k hk => own_base (h.oO.each i hi) k hk
  have hap : ∀ j (hj : j < rows.length), j ≠ i → ∀ k, rows[j].ownBlock = some k → rows[i].ownBlock ≠ some k := fun j hj hne k hk e => by
    have hp := List.pairwise_iff_getElem.1 h.rs
    rcases Nat.lt_or_ge j i with h1 | h1
    · exact hp j i hj hi h1 k hk e
    · exact hp i j hi hj (by omega) k e hk
  refine ⟨⟨own_of_heap h.oO.own fun k hk => hg.block k (by obtain ⟨c, hc⟩ := own_block h.oO.own hk; exact blk_lt hc) (fun e => ?_), by rw [List.length_set]; exact hlen, fun j hj => ?_⟩, own_of_heap h.sO fun k hk => hg.block k (h.svLt hk).2 (fun e => by have := hb k e.symm; have := (h.svLt hk).1; omega), own_of_heap h.cO fun k hk => hg.block k (h.cvLt hk).2 (fun e => by have := hb k e.symm; have := (h.cvLt hk).1; omega), h.nil, ?_, h.b1, h.b2, h.rs⟩
  · obtain ⟨c, hc⟩ := own_block h.oO.own hk
    obtain ⟨c2, hc2⟩ := own_block (h.oO.each i hi) e.symm
    exact absurd (blk_type hc hc2) (by decide)
  · by_cases hji : j = i
    · subst hji
      rw [show (out'.set j ys).getD j [] = ys by rw [List.getD_eq_getElem?_getD]; simp [hio]]
      rw [hl]
      exact ho
    · rw [show (out'.set i ys).getD j [] = out'.getD j [] by rw [List.getD_eq_getElem?_getD, List.getD_eq_getElem?_getD, List.getElem?_set_ne (Ne.symm hji)]]
      exact own_of_heap (h.oO.each j hj) fun k hk => hg.block k (Nat.lt_of_lt_of_le (h.b2 _ (List.getElem_mem hj) k hk) h.L) (fun e => hap j hj hji k hk e.symm)
  · exact ⟨hg.os.trans h.bl.os, hg.tape.trans h.bl.tape, hg.output.trans h.bl.output, Nat.le_trans h.bl.size hg.size, fun k hk => (hg.block k (by have := h.L; omega) (fun e => by have := hbl k e.symm; omega)).trans (h.bl.block k hk)⟩
end
/-- at the i-th component: what was done -/
structure SFi (rows : List Value) (out : List (List Int)) (i : Nat) (vs rows2 : List Value) (out' : List (List Int)) : Prop where
  vs : vs = (out.take i).map slotV
  rows2 : rows2 = (((rows.zip out).take i).filter fun p => decide (p.2.length ≠ 1)).map (·.1)
  out' : out' = (out.take i).map srt ++ out.drop i
theorem srt_one {p : List Int} (h : p.length = 1) : srt p = p := by
  obtain ⟨x, rfl⟩ := List.length_eq_one_iff.1 h
  exact List.perm_singleton.1 (srt_perm [x])
section
variable {rows : List Value} {out : List (List Int)} {i : Nat} {vs rows2 : List Value} {out' : List (List Int)}
theorem SFi.start (rows : List Value) (out : List (List Int)) : SFi rows out 0 [] [] out := ⟨by simp, by simp, by simp⟩
theorem SFi.at' (h : SFi rows out i vs rows2 out') (hi : i < out.length) : out'.getD i [] = out[i] := by
  rw [h.out', List.getD_eq_getElem?_getD, List.getElem?_append_right (by simp; omega)]
  simp [Nat.min_eq_left (Nat.le_of_lt hi), hi]
theorem SFi.one (h : SFi rows out i vs rows2 out') (hr : i < rows.length) (hi : i < out.length) (h1 : (out[i]).length = 1) : SFi rows out (i + 1) (vs ++ [slotV out[i]]) rows2 out' := by
  have ht : out.take (i + 1) = out.take i ++ [out[i]] := List.take_succ_eq_append_getElem hi
  refine ⟨by rw [ht, List.map_append, h.vs]; rfl, ?_, ?_⟩
  · rw [zip_take rows out i hr hi, List.filter_append, h.rows2]
    simp [h1]
  · rw [ht, h.out', List.drop_eq_getElem_cons hi, List.map_append, List.append_assoc]
    simp [srt_one h1]
theorem SFi.many (h : SFi rows out i vs rows2 out') (hr : i < rows.length) (hi : i < out.length) (h1 : (out[i]).length ≠ 1) : SFi rows out (i + 1) (vs ++ [slotV out[i]]) (rows2 ++ [rows[i]]) (out'.set i (srt out[i])) := by
  have ht : out.take (i + 1) = out.take i ++ [out[i]] := List.take_succ_eq_append_getElem hi
  refine ⟨by rw [ht, List.map_append, h.vs]; rfl, ?_, ?_⟩
  · rw [zip_take rows out i hr hi, List.filter_append, h.rows2]
    simp [h1]
  · have hl : ((out.take i).map srt).length = i := by simp; omega
    rw [ht, h.out', List.drop_eq_getElem_cons hi, List.map_append, List.append_assoc]
    rw [List.set_append_right _ _ (by omega), hl, Nat.sub_self, List.set_cons_zero]
    simp
end
end Go.Proofs.YtddklkgcodjijaaGreat.R
