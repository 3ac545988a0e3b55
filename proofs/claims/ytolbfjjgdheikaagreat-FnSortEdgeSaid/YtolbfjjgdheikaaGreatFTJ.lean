import Derived.Test.YtolbfjjgdheikaaGreatFB7
import Derived.Test.YtolbfjjgdheikaaGreatFG3
import Derived.Test.YtolbfjjgdheikaaGreatFB6
import Derived.Test.YtolbfjjgdheikaaGreatFK4
set_option linter.unusedVariables false
set_option linter.unusedSimpArgs false
/- Strongly connected components by Tarjan's walk, in plain lists. -/
namespace Go.Proofs.YtolbfjjgdheikaaGreat.R

structure TS where
  idx : Nat
  num : Int → Nat
  low : Int → Nat
  stk : List Int
  out : List (List Int)
def updN (f : Int → Nat) (x : Int) (n : Nat) : Int → Nat := fun y => if y = x then n else f y
theorem updN_eq (f : Int → Nat) (x : Int) (n : Nat) : updN f x n x = n := if_pos rfl
theorem updN_ne (f : Int → Nat) {x y : Int} (n : Nat) (h : y ≠ x) : updN f x n y = f y := if_neg h
def TS.enter (s : TS) (v : Int) : TS := ⟨s.idx + 1, updN s.num v (s.idx + 1), updN s.low v (s.idx + 1), s.stk ++ [v], s.out⟩
def TS.lower (s : TS) (v : Int) (n : Nat) : TS := { s with low := updN s.low v (min (s.low v) n) }
def TS.pop (s : TS) (v : Int) : TS := { s with stk := s.stk.takeWhile (fun x => decide (x ≠ v)), out := s.out ++ [(s.stk.dropWhile fun x => decide (x ≠ v)).reverse] }
def TS.leave (s : TS) (v : Int) : TS := if s.low v = s.num v then s.pop v else s
def succsT (rec : Int → TS → Option TS) (v : Int) : List Int → TS → Option TS
  | [], s => some s
  | w :: ws, s =>
    if s.num w = 0 then (rec w s).bind fun s' => succsT rec v ws (s'.lower v (s'.low w))
    else if w ∈ s.stk then succsT rec v ws (s.lower v (s.num w))
    else succsT rec v ws s
/-- one walk from a node, to a depth -/
def strongT (adj : Int → List Int) : Nat → Int → TS → Option TS
  | 0, _, _ => none
  | k + 1, v, s => (succsT (strongT adj k) v (adj v) (s.enter v)).map fun s' => s'.leave v
/-- all nodes, one after the other -/
def allT (adj : Int → List Int) (k : Nat) : List Int → TS → Option TS
  | [], s => some s
  | v :: vs, s => if s.num v = 0 then (strongT adj k v s).bind (allT adj k vs) else allT adj k vs s
def TS.none : TS := ⟨0, fun _ => 0, fun _ => 0, [], []⟩

/-- what holds between the steps; g: the nodes whose walks are under way -/
structure TInv (adj : Int → List Int) (g : List Int) (s : TS) : Prop where
  bd : ∀ x, s.num x ≤ s.idx
  srt : s.stk.Pairwise fun x y => s.num x < s.num y
  vis : ∀ x ∈ s.stk, s.num x ≠ 0
  gray : ∀ x ∈ g, x ∈ s.stk
  fwd : s.stk.Pairwise fun x y => RchW adj x y
  bck : ∀ y ∈ s.stk, ∃ x ∈ g, s.num x ≤ s.num y ∧ RchW adj y x
  cls : ∀ x, s.num x ≠ 0 → x ∉ g → ∀ y ∈ adj x, s.num y ≠ 0
  all : ∀ x, s.num x ≠ 0 ↔ x ∈ s.stk ∨ ∃ c ∈ s.out, x ∈ c
  apart : ∀ x ∈ s.stk, ∀ c ∈ s.out, x ∉ c
  comp : ∀ c ∈ s.out, c.Nodup ∧ ∃ r ∈ c, ∀ y, y ∈ c ↔ RchW adj r y ∧ RchW adj y r
  fin : ∀ c ∈ s.out, ∀ x ∈ c, ∀ y ∈ adj x, ∃ c' ∈ s.out, y ∈ c'
  dis : s.out.Pairwise fun a b => ∀ x ∈ a, x ∉ b

structure TPost (adj : Int → List Int) (g : List Int) (v : Int) (s s' : TS) : Prop where
  inv : TInv adj g s'
  num : ∀ x, s.num x ≠ 0 → s'.num x = s.num x
  low : ∀ x, s.num x ≠ 0 → s'.low x = s.low x
  nv : s'.num v = s.idx + 1
  new : ∃ nw, s'.stk = s.stk ++ nw ∧ ∀ y ∈ nw, ∀ z ∈ s.stk, z ∈ adj y → s'.low v ≤ s.num z
  lo : s'.low v = s.idx + 1 ∨ ∃ z ∈ s.stk, s.num z = s'.low v ∧ RchW adj v z

structure TLoop (adj : Int → List Int) (g : List Int) (v : Int) (done : List Int) (s0 s : TS) : Prop where
  inv : TInv adj (g ++ [v]) s
  stk : ∃ nw, s.stk = s0.stk ++ v :: nw ∧ ∀ y ∈ nw, ∀ z ∈ s0.stk, z ∈ adj y → s.low v ≤ s0.num z
  num : ∀ x, s0.num x ≠ 0 → s.num x = s0.num x
  low : ∀ x, s0.num x ≠ 0 → s.low x = s0.low x
  nv : s.num v = s0.idx + 1
  le : s.low v ≤ s.num v
  lo : s.low v = s.num v ∨ ∃ z ∈ s0.stk, s0.num z = s.low v ∧ RchW adj v z
  dn : ∀ w ∈ done, s.num w ≠ 0 ∧ (w ∈ s0.stk → s.low v ≤ s0.num w)

theorem RchW.one {adj : Int → List Int} {a b : Int} (h : b ∈ adj a) : RchW adj a b := RchW.here.step h

theorem TInv.enter {adj : Int → List Int} {g : List Int} {s : TS} {v : Int} (h : TInv adj g s) (hv : s.num v = 0) (hg : ∀ x ∈ g, RchW adj x v) : TLoop adj g v [] s (s.enter v) := by
  have hne : ∀ x, s.num x ≠ 0 → x ≠ v := fun x hx e => hx (e ▸ hv)
  have hn : ∀ x, s.num x ≠ 0 → (s.enter v).num x = s.num x := fun x hx => updN_ne _ _ (hne x hx)
  have hvv : (s.enter v).num v = s.idx + 1 := updN_eq _ _ _
  have hlv : (s.enter v).low v = s.idx + 1 := updN_eq _ _ _
  refine ⟨⟨fun x => ?_, ?_, fun x hx => ?_, fun x hx => ?_, ?_, fun y hy => ?_, fun x hx hxg y hy => ?_, fun x => ?_, fun x hx c hc => ?_, h.comp, h.fin, h.dis⟩, ⟨[], rfl, fun y hy => by cases hy⟩, hn, fun x hx => updN_ne _ _ (hne x hx), hvv, by rw [hlv, hvv]; exact Nat.le_refl _, .inl (by rw [hlv, hvv]), fun w hw => by cases hw⟩
  · show updN s.num v (s.idx + 1) x ≤ s.idx + 1
    by_cases e : x = v
    · subst e; rw [updN_eq]; exact Nat.le_refl _
    · rw [updN_ne _ _ e]; have := h.bd x; omega
  · show (s.stk ++ [v]).Pairwise _
    refine List.pairwise_append.2 ⟨h.srt.imp_of_mem (fun {a b} ha hb hab => by rw [hn a (h.vis a ha), hn b (h.vis b hb)]; exact hab), List.pairwise_singleton _ _, fun a ha b hb => ?_⟩
    obtain rfl := List.mem_singleton.1 hb
    rw [hn a (h.vis a ha), hvv]
    have := h.bd a
    omega
  · rcases List.mem_append.1 (show x ∈ s.stk ++ [v] from hx) with hx | hx
    · rw [hn x (h.vis x hx)]; exact h.vis x hx
    · obtain rfl := List.mem_singleton.1 hx
      rw [hvv]; omega
  · show x ∈ s.stk ++ [v]
    rcases List.mem_append.1 hx with hx | hx
    · exact List.mem_append.2 (.inl (h.gray x hx))
    · exact List.mem_append.2 (.inr hx)
  · show (s.stk ++ [v]).Pairwise _
    refine List.pairwise_append.2 ⟨h.fwd, List.pairwise_singleton _ _, fun a ha b hb => ?_⟩
    obtain rfl := List.mem_singleton.1 hb
    obtain ⟨x, hx, _, hr⟩ := h.bck a ha
    exact hr.trans (hg x hx)
  · rcases List.mem_append.1 (show y ∈ s.stk ++ [v] from hy) with hy | hy
    · obtain ⟨x, hx, hle, hr⟩ := h.bck y hy
      refine ⟨x, List.mem_append.2 (.inl hx), ?_, hr⟩
      rw [hn x (h.vis x (h.gray x hx)), hn y (h.vis y hy)]
      exact hle
    · obtain rfl := List.mem_singleton.1 hy
      exact ⟨y, by simp, Nat.le_refl _, RchW.here⟩
  · have hxv : x ≠ v := fun e => hxg (by simp [e])
    have hx0 : s.num x ≠ 0 := by rw [show (s.enter v).num x = s.num x from updN_ne _ _ hxv] at hx; exact hx
    have hy0 := h.cls x hx0 (fun hh => hxg (by simp [hh])) y hy
    rw [hn y hy0]
    exact hy0
  · by_cases e : x = v
    · subst e
      rw [hvv]
      exact ⟨fun _ => .inl (by show x ∈ s.stk ++ [x]; simp), fun _ => by omega⟩
    · rw [show (s.enter v).num x = s.num x from updN_ne _ _ e, h.all x]
      show _ ↔ x ∈ s.stk ++ [v] ∨ _
      simp [e]
      rfl
  · rcases List.mem_append.1 (show x ∈ s.stk ++ [v] from hx) with hx | hx
    · exact h.apart x hx c hc
    · obtain rfl := List.mem_singleton.1 hx
      exact fun hh => ((h.all x).2 (.inr ⟨c, hc, hh⟩)) hv

section
variable {adj : Int → List Int} {g done : List Int} {v w : Int} {s0 s s' : TS}

theorem TInv.lower (h : TInv adj g s) (n : Nat) : TInv adj g (s.lower v n) := ⟨h.bd, h.srt, h.vis, h.gray, h.fwd, h.bck, h.cls, h.all, h.apart, h.comp, h.fin, h.dis⟩
theorem lower_low (s : TS) (v : Int) (n : Nat) : (s.lower v n).low v = min (s.low v) n := updN_eq _ _ _
theorem TLoop.vOut (h : TLoop adj g v done s0 s) (hv : s0.num v = 0) (i0 : TInv adj g s0) : v ∉ s0.stk := fun hh => i0.vis v hh hv
/-- numbers on the old stack are less -/
theorem TLoop.olds (h : TLoop adj g v done s0 s) (i0 : TInv adj g s0) {z : Int} (hz : z ∈ s0.stk) : s.num z = s0.num z ∧ s0.num z < s.num v := by
  have h1 := h.num z (i0.vis z hz)
  have h2 := i0.bd z
  have h3 := h.nv
  omega
/-- a node that stands on the stack -/
theorem TLoop.onStk (h : TLoop adj g v done s0 s) (i0 : TInv adj g s0) (hv : s0.num v = 0) (hw : w ∈ adj v) (hs : w ∈ s.stk) : TLoop adj g v (done ++ [w]) s0 (s.lower v (s.num w)) := by
  obtain ⟨nw, e, hc⟩ := h.stk
  have hl := lower_low s v (s.num w)
  refine ⟨h.inv.lower _, ⟨nw, e, fun y hy z hz hzy => by rw [hl]; exact Nat.le_trans (Nat.min_le_left _ _) (hc y hy z hz hzy)⟩, h.num, fun x hx => ?_, h.nv, by rw [hl]; exact Nat.le_trans (Nat.min_le_left _ _) h.le, ?_, fun x hx => ?_⟩
  · show updN s.low v _ x = _
    rw [updN_ne _ _ (show x ≠ v from fun e => hx (by rw [e]; exact hv))]
    exact h.low x hx
  · rw [hl]
    show _ = s.num v ∨ _
    rcases Nat.lt_or_ge (s.num w) (s.low v) with hlt | hge
    · right
      rw [Nat.min_eq_right (Nat.le_of_lt hlt)]
      have hle := h.le
      rw [e] at hs
      rcases List.mem_append.1 hs with hs | hs
      · exact ⟨w, hs, ((h.olds i0 hs).1).symm, RchW.one hw⟩
      · exfalso
        have hsrt := h.inv.srt
        rw [e, List.pairwise_append] at hsrt
        rcases List.mem_cons.1 hs with rfl | hs
        · omega
        · have := (List.pairwise_cons.1 hsrt.2.1).1 w hs
          omega
    · rw [Nat.min_eq_left hge]; exact h.lo
  · rw [hl]
    rcases List.mem_append.1 hx with hx | hx
    · exact ⟨(h.dn x hx).1, fun hh => Nat.le_trans (Nat.min_le_left _ _) ((h.dn x hx).2 hh)⟩
    · obtain rfl := List.mem_singleton.1 hx
      exact ⟨h.inv.vis x hs, fun hh => by rw [← (h.olds i0 hh).1]; exact Nat.min_le_right _ _⟩
/-- a node that is done -/
theorem TLoop.gone (h : TLoop adj g v done s0 s) (i0 : TInv adj g s0) (hn : s.num w ≠ 0) (hs : w ∉ s.stk) : TLoop adj g v (done ++ [w]) s0 s := by
  refine ⟨h.inv, h.stk, h.num, h.low, h.nv, h.le, h.lo, fun x hx => ?_⟩
  rcases List.mem_append.1 hx with hx | hx
  · exact h.dn x hx
  · obtain rfl := List.mem_singleton.1 hx
    obtain ⟨nw, e, _⟩ := h.stk
    exact ⟨hn, fun hh => absurd (by rw [e]; exact List.mem_append.2 (.inl hh)) hs⟩
/-- a new node was walked from -/
theorem TLoop.walked (h : TLoop adj g v done s0 s) (i0 : TInv adj g s0) (hv : s0.num v = 0) (hw : w ∈ adj v) (hn : s.num w = 0) (p : TPost adj (g ++ [v]) w s s') : TLoop adj g v (done ++ [w]) s0 (s'.lower v (s'.low w)) := by
  obtain ⟨nw, e, hc⟩ := h.stk
  obtain ⟨nw2, e2, hc2⟩ := p.new
  have hl := lower_low s' v (s'.low w)
  have nv0 : s.num v ≠ 0 := by rw [h.nv]; omega
  have nv' : s'.num v = s.num v := p.num v nv0
  have lv' : s'.low v = s.low v := p.low v nv0
  rw [lv'] at hl
  have old : ∀ z ∈ s0.stk, s.num z = s0.num z ∧ s.num z ≠ 0 ∧ z ∈ s.stk := fun z hz => ⟨(h.olds i0 hz).1, by rw [(h.olds i0 hz).1]; exact i0.vis z hz, by rw [e]; exact List.mem_append.2 (.inl hz)⟩
  have hbig : s.num v ≤ s.idx := h.inv.bd v
  refine ⟨p.inv.lower _, ⟨nw ++ nw2, by show s'.stk = _; rw [e2, e]; simp, fun y hy z hz hzy => ?_⟩, fun x hx => ?_, fun x hx => ?_, by show s'.num v = _; rw [nv', h.nv], ?_, ?_, fun x hx => ?_⟩
  · rw [hl]
    rcases List.mem_append.1 hy with hy | hy
    · exact Nat.le_trans (Nat.min_le_left _ _) (hc y hy z hz hzy)
    · have := hc2 y hy z (old z hz).2.2 hzy
      rw [(old z hz).1] at this
      exact Nat.le_trans (Nat.min_le_right _ _) this
  · show s'.num x = _
    have := h.num x hx
    rw [p.num x (by rw [this]; exact hx)]
    exact this
  · show updN s'.low v _ x = _
    rw [updN_ne _ _ (show x ≠ v from fun e => hx (by rw [e]; exact hv)), p.low x (by rw [h.num x hx]; exact hx)]
    exact h.low x hx
  · rw [hl]
    show _ ≤ s'.num v
    rw [nv']
    exact Nat.le_trans (Nat.min_le_left _ _) h.le
  · rw [hl]
    show _ = s'.num v ∨ _
    rw [nv']
    rcases p.lo with he | ⟨z, hz, hzn, hzr⟩
    · rw [he, Nat.min_eq_left (by have := h.le; omega)]
      exact h.lo
    · rcases Nat.lt_or_ge (s'.low w) (s.low v) with hlt | hge
      · right
        rw [Nat.min_eq_right (Nat.le_of_lt hlt)]
        have hle := h.le
        rw [e] at hz
        rcases List.mem_append.1 hz with hz | hz
        · exact ⟨z, hz, by rw [← (h.olds i0 hz).1]; exact hzn, (RchW.one hw).trans hzr⟩
        · exfalso
          have hsrt := h.inv.srt
          rw [e, List.pairwise_append] at hsrt
          rcases List.mem_cons.1 hz with rfl | hz
          · omega
          · have := (List.pairwise_cons.1 hsrt.2.1).1 z hz
            omega
      · rw [Nat.min_eq_left hge]; exact h.lo
  · rw [hl]
    show s'.num x ≠ 0 ∧ _
    rcases List.mem_append.1 hx with hx | hx
    · exact ⟨by rw [p.num x (h.dn x hx).1]; exact (h.dn x hx).1, fun hh => Nat.le_trans (Nat.min_le_left _ _) ((h.dn x hx).2 hh)⟩
    · obtain rfl := List.mem_singleton.1 hx
      exact ⟨by rw [p.nv]; omega, fun hh => absurd hn (old x hh).2.1⟩

theorem cut_at (old nw : List Int) (v : Int) (h : v ∉ old) : (old ++ v :: nw).takeWhile (fun x => decide (x ≠ v)) = old ∧ (old ++ v :: nw).dropWhile (fun x => decide (x ≠ v)) = v :: nw := by
  induction old with
  | nil => simp
  | cons a old ih =>
    have ha : a ≠ v := fun e => h (by simp [e])
    have := ih (fun hh => h (by simp [hh]))
    constructor
    · rw [List.cons_append, List.takeWhile_cons, if_pos (by simpa using ha), this.1]
    · rw [List.cons_append, List.dropWhile_cons, if_pos (by simpa using ha), this.2]

/-- a node's walk ends -/
theorem TLoop.leave (h : TLoop adj g v done s0 s) (i0 : TInv adj g s0) (hv : s0.num v = 0) (hg : ∀ x ∈ g, RchW adj x v) (hd : ∀ w ∈ adj v, w ∈ done) : TPost adj g v s0 (s.leave v) := by
  obtain ⟨nw, e, hc⟩ := h.stk
  have hvo := h.vOut hv i0
  have inv := h.inv
  have hsrt := inv.srt
  have hfwd := inv.fwd
  rw [e, List.pairwise_append] at hsrt hfwd
  have hvs := List.pairwise_cons.1 hsrt.2.1
  have hvf := List.pairwise_cons.1 hfwd.2.1
  have hgo : ∀ x ∈ g, x ∈ s0.stk := i0.gray
  have hvg : v ∉ g := fun hh => hvo (hgo v hh)
  -- a node above v comes back to v
  have back : ∀ y ∈ nw, RchW adj y v := fun y hy => by
    obtain ⟨x, hx, _, hr⟩ := inv.bck y (by rw [e]; simp [hy])
    rcases List.mem_append.1 hx with hx | hx
    · exact hr.trans (hg x hx)
    · obtain rfl := List.mem_singleton.1 hx
      exact hr
  have vdone : ∀ w ∈ adj v, s.num w ≠ 0 := fun w hw => (h.dn w (hd w hw)).1
  have cls' : ∀ x, s.num x ≠ 0 → x ∉ g → ∀ y ∈ adj x, s.num y ≠ 0 := fun x hx hxg y hy => by
    by_cases ev : x = v
    · subst ev; exact vdone y hy
    · exact inv.cls x hx (by simp [hxg, ev]) y hy
  unfold TS.leave
  by_cases hlow : s.low v = s.num v
  · rw [if_pos hlow]
    obtain ⟨t1, t2⟩ := cut_at s0.stk nw v hvo
    have ep : s.pop v = ⟨s.idx, s.num, s.low, s0.stk, s.out ++ [(v :: nw).reverse]⟩ := by
      unfold TS.pop
      rw [e, t1, t2]
    rw [ep]
    -- no edge leads down
    have stay : ∀ y ∈ v :: nw, ∀ z ∈ adj y, z ∈ v :: nw ∨ ∃ c ∈ s.out, z ∈ c := fun y hy z hz => by
      have hz0 : s.num z ≠ 0 := by
        rcases List.mem_cons.1 hy with hyv | hy2
        · exact vdone z (by rw [← hyv]; exact hz)
        · refine inv.cls y (inv.vis y (by rw [e]; simp [hy2])) (fun hh => ?_) z hz
          have h2 := hvs.1 y hy2
          rcases List.mem_append.1 hh with hh | hh
          · have h1 := hsrt.2.2 y (hgo y hh) y (by simp [hy2])
            omega
          · rw [List.mem_singleton.1 hh] at h2
            omega
      rcases (inv.all z).1 hz0 with hs | hs
      · rw [e] at hs
        rcases List.mem_append.1 hs with hs2 | hs2
        · exfalso
          have h1 := h.olds i0 hs2
          rcases List.mem_cons.1 hy with hyv | hy2
          · have := (h.dn z (hd z (by rw [← hyv]; exact hz))).2 hs2
            omega
          · have := hc y hy2 z hs2 hz
            omega
        · exact .inl hs2
      · exact .inr hs
    have reach : ∀ z, RchW adj v z → z ∈ v :: nw ∨ ∃ c ∈ s.out, z ∈ c := fun z hz => hz (fun z => z ∈ v :: nw ∨ ∃ c ∈ s.out, z ∈ c) (.inl (by simp)) fun u hu x hx => by
      rcases hu with hu | ⟨c, hc1, hc2⟩
      · exact stay u hu x hx
      · exact .inr (inv.fin c hc1 u hc2 x hx)
    have fins : ∀ z, (∃ c ∈ s.out, z ∈ c) → ∀ y, RchW adj z y → ∃ c ∈ s.out, y ∈ c := fun z hz y hy => hy (fun y => ∃ c ∈ s.out, y ∈ c) hz fun u ⟨c, hc1, hc2⟩ x hx => inv.fin c hc1 u hc2 x hx
    have vfree : ∀ x ∈ v :: nw, ∀ c ∈ s.out, x ∉ c := fun x hx c hc => inv.apart x (by rw [e]; exact List.mem_append.2 (.inr hx)) c hc
    have hcomp : ∀ y, y ∈ (v :: nw).reverse ↔ RchW adj v y ∧ RchW adj y v := fun y => by
      rw [List.mem_reverse]
      constructor
      · intro hy
        rcases List.mem_cons.1 hy with rfl | hy
        · exact ⟨RchW.here, RchW.here⟩
        · exact ⟨hvf.1 y hy, back y hy⟩
      · rintro ⟨h1, h2⟩
        rcases reach y h1 with hy | hy
        · exact hy
        · obtain ⟨c, hc1, hc2⟩ := fins y hy v h2
          exact absurd hc2 (vfree v (by simp) c hc1)
    have hnd : (v :: nw).reverse.Nodup := by
      refine (List.reverse_perm _).nodup_iff.2 ?_
      exact hsrt.2.1.imp (fun {a b} hab e => by subst e; omega)
    have olds : ∀ x ∈ s0.stk, x ∈ s.stk := fun x hx => by rw [e]; exact List.mem_append.2 (.inl hx)
    refine ⟨⟨inv.bd, hsrt.1, fun x hx => inv.vis x (olds x hx), hgo, hfwd.1, fun y hy => ?_, cls', fun x => ?_, fun x hx c hc => ?_, fun c hc => ?_, fun c hc x hx y hy => ?_, ?_⟩, h.num, h.low, h.nv, ⟨[], by simp, fun y hy => by cases hy⟩, .inl (by show s.low v = _; rw [hlow, h.nv])⟩
    · obtain ⟨x, hx, hle, hr⟩ := inv.bck y (olds y hy)
      rcases List.mem_append.1 hx with hx | hx
      · exact ⟨x, hx, hle, hr⟩
      · obtain rfl := List.mem_singleton.1 hx
        have := (h.olds i0 hy)
        have h5 : s.num x ≤ s.num y := hle
        omega
    · show s.num x ≠ 0 ↔ x ∈ s0.stk ∨ ∃ c ∈ s.out ++ [(v :: nw).reverse], x ∈ c
      rw [inv.all x, e]
      constructor
      · rintro (hx | ⟨c, hc, hx⟩)
        · rcases List.mem_append.1 hx with hx | hx
          · exact .inl hx
          · exact .inr ⟨_, by simp, List.mem_reverse.2 hx⟩
        · exact .inr ⟨c, by simp [hc], hx⟩
      · rintro (hx | ⟨c, hc, hx⟩)
        · exact .inl (List.mem_append.2 (.inl hx))
        · rcases List.mem_append.1 hc with hc | hc
          · exact .inr ⟨c, hc, hx⟩
          · obtain rfl := List.mem_singleton.1 hc
            exact .inl (List.mem_append.2 (.inr (List.mem_reverse.1 hx)))
    · rcases List.mem_append.1 (show c ∈ s.out ++ [(v :: nw).reverse] from hc) with hc | hc
      · exact inv.apart x (olds x hx) c hc
      · obtain rfl := List.mem_singleton.1 hc
        intro hh
        have := hsrt.2.2 x hx x (List.mem_reverse.1 hh)
        omega
    · rcases List.mem_append.1 (show c ∈ s.out ++ [(v :: nw).reverse] from hc) with hc | hc
      · exact inv.comp c hc
      · obtain rfl := List.mem_singleton.1 hc
        exact ⟨hnd, v, by simp, hcomp⟩
    · show ∃ c' ∈ s.out ++ [(v :: nw).reverse], y ∈ c'
      rcases List.mem_append.1 (show c ∈ s.out ++ [(v :: nw).reverse] from hc) with hc | hc
      · obtain ⟨c', h1, h2⟩ := inv.fin c hc x hx y hy
        exact ⟨c', by simp [h1], h2⟩
      · obtain rfl := List.mem_singleton.1 hc
        rcases stay x (List.mem_reverse.1 hx) y hy with h1 | ⟨c', h1, h2⟩
        · exact ⟨_, by simp, List.mem_reverse.2 h1⟩
        · exact ⟨c', by simp [h1], h2⟩
    · refine List.pairwise_append.2 ⟨inv.dis, List.pairwise_singleton _ _, fun a ha b hb x hx => ?_⟩
      obtain rfl := List.mem_singleton.1 hb
      exact fun hh => vfree x (List.mem_reverse.1 hh) a ha hx
  · rw [if_neg hlow]
    obtain ⟨z, hz, hzn, hzr⟩ := h.lo.resolve_left hlow
    refine ⟨⟨inv.bd, inv.srt, inv.vis, fun x hx => by rw [e]; exact List.mem_append.2 (.inl (hgo x hx)), inv.fwd, fun y hy => ?_, cls', inv.all, inv.apart, inv.comp, inv.fin, inv.dis⟩, h.num, h.low, h.nv, ⟨v :: nw, e, fun y hy z hz hzy => ?_⟩, .inr ⟨z, hz, hzn, hzr⟩⟩
    · obtain ⟨x, hx, hle, hr⟩ := inv.bck y hy
      rcases List.mem_append.1 hx with hx | hx
      · exact ⟨x, hx, hle, hr⟩
      · obtain rfl := List.mem_singleton.1 hx
        obtain ⟨x', hx', hle', hr'⟩ := inv.bck z (by rw [e]; exact List.mem_append.2 (.inl hz))
        have h1 := h.olds i0 hz
        rcases List.mem_append.1 hx' with hx' | hx'
        · exact ⟨x', hx', by omega, (hr.trans hzr).trans hr'⟩
        · obtain rfl := List.mem_singleton.1 hx'
          omega
    · rcases List.mem_cons.1 hy with rfl | hy
      · exact (h.dn z (hd z hzy)).2 hz
      · exact hc y hy z hz hzy
end

theorem succs_ok {adj : Int → List Int} {g : List Int} {v : Int} {s0 : TS} (i0 : TInv adj g s0) (hv : s0.num v = 0) (hg : ∀ x ∈ g, RchW adj x v) (rec : Int → TS → Option TS)
    (hrec : ∀ w s s', TInv adj (g ++ [v]) s → s.num w = 0 → (∀ x ∈ g ++ [v], RchW adj x w) → rec w s = some s' → TPost adj (g ++ [v]) w s s') :
    ∀ (ws done : List Int) (s r : TS), (∀ w ∈ ws, w ∈ adj v) → TLoop adj g v done s0 s → succsT rec v ws s = some r → TLoop adj g v (done ++ ws) s0 r := by
  intro ws
  induction ws with
  | nil => intro done s r _ h hr; simp only [succsT, Option.some.injEq] at hr; subst hr; simpa using h
  | cons w ws ih =>
    intro done s r hws h hr
    have hw := hws w (by simp)
    have hws' : ∀ x ∈ ws, x ∈ adj v := fun x hx => hws x (by simp [hx])
    rw [show done ++ w :: ws = (done ++ [w]) ++ ws by simp]
    unfold succsT at hr
    by_cases hn : s.num w = 0
    · rw [if_pos hn] at hr
      obtain ⟨s', hs', hr'⟩ := Option.bind_eq_some_iff.1 hr
      have p := hrec w s s' h.inv hn (fun x hx => by
        rcases List.mem_append.1 hx with hx | hx
        · exact (hg x hx).step hw
        · obtain rfl := List.mem_singleton.1 hx
          exact RchW.one hw) hs'
      exact ih _ _ _ hws' (h.walked i0 hv hw hn p) hr'
    · rw [if_neg hn] at hr
      by_cases hs : w ∈ s.stk
      · rw [if_pos hs] at hr
        exact ih _ _ _ hws' (h.onStk i0 hv hw hs) hr
      · rw [if_neg hs] at hr
        exact ih _ _ _ hws' (h.gone i0 hn hs) hr

theorem strongT_ok (adj : Int → List Int) : ∀ (k : Nat) (g : List Int) (v : Int) (s r : TS), TInv adj g s → s.num v = 0 → (∀ x ∈ g, RchW adj x v) → strongT adj k v s = some r → TPost adj g v s r := by
  intro k
  induction k with
  | zero => intro g v s r _ _ _ h; simp [strongT] at h
  | succ k ih =>
    intro g v s r i hv hg h
    unfold strongT at h
    obtain ⟨s', hs', rfl⟩ := Option.map_eq_some_iff.1 h
    have hl := succs_ok i hv hg (strongT adj k) (fun w s s' a b c d => ih (g ++ [v]) w s s' a b c d) (adj v) [] (s.enter v) s' (fun _ h => h) (i.enter hv hg) hs'
    exact hl.leave i hv hg (fun w hw => by simpa using hw)

theorem allT_ok (adj : Int → List Int) (k : Nat) : ∀ (vs : List Int) (s r : TS), TInv adj [] s → allT adj k vs s = some r → TInv adj [] r ∧ (∀ x, s.num x ≠ 0 → r.num x ≠ 0) ∧ ∀ v ∈ vs, r.num v ≠ 0 := by
  intro vs
  induction vs with
  | nil => intro s r i h; simp only [allT, Option.some.injEq] at h; subst h; exact ⟨i, fun _ h => h, fun v hv => by cases hv⟩
  | cons v vs ih =>
    intro s r i h
    unfold allT at h
    by_cases hn : s.num v = 0
    · rw [if_pos hn] at h
      obtain ⟨s', hs', hr'⟩ := Option.bind_eq_some_iff.1 h
      have p := strongT_ok adj k [] v s s' i hn (fun x hx => by cases hx) hs'
      obtain ⟨a, b, c⟩ := ih s' r p.inv hr'
      refine ⟨a, fun x hx => b x (by rw [p.num x hx]; exact hx), fun x hx => ?_⟩
      rcases List.mem_cons.1 hx with rfl | hx
      · exact b x (by rw [p.nv]; omega)
      · exact c x hx
    · rw [if_neg hn] at h
      obtain ⟨a, b, c⟩ := ih s r i h
      refine ⟨a, b, fun x hx => ?_⟩
      rcases List.mem_cons.1 hx with rfl | hx
      · exact b x hn
      · exact c x hx
theorem TInv.none (adj : Int → List Int) : TInv adj [] TS.none :=
  ⟨fun _ => Nat.le_refl _, List.Pairwise.nil, fun x hx => (by cases hx), fun x hx => (by cases hx), List.Pairwise.nil, fun x hx => (by cases hx), fun x hx => absurd rfl hx, fun x => ⟨fun h => absurd rfl h, fun h => (by rcases h with h | ⟨c, h, _⟩ <;> cases h)⟩, fun x hx => (by cases hx), fun x hx => (by cases hx), fun x hx => (by cases hx), List.Pairwise.nil⟩

/-- what comes of all: the strongly connected components, each once -/
structure SccOk (adj : Int → List Int) (ns : List Int) (out : List (List Int)) : Prop where
  comp : ∀ c ∈ out, c.Nodup ∧ ∃ r ∈ c, ∀ y, y ∈ c ↔ RchW adj r y ∧ RchW adj y r
  all : ∀ v ∈ ns, ∃ c ∈ out, v ∈ c
  dis : out.Pairwise fun a b => ∀ x ∈ a, x ∉ b
theorem sccs_ok {adj : Int → List Int} {k : Nat} {ns : List Int} {r : TS} (h : allT adj k ns TS.none = some r) : SccOk adj ns r.out ∧ r.stk = [] := by
  obtain ⟨i, _, hv⟩ := allT_ok adj k ns TS.none r (TInv.none adj) h
  have hs : r.stk = [] := by
    cases e : r.stk with
    | nil => rfl
    | cons a l =>
      obtain ⟨x, hx, _⟩ := i.bck a (by rw [e]; simp)
      cases hx
  refine ⟨⟨i.comp, fun v hvm => ?_, i.dis⟩, hs⟩
  rcases (i.all v).1 (hv v hvm) with h1 | h1
  · rw [hs] at h1; cases h1
  · exact h1
end Go.Proofs.YtolbfjjgdheikaaGreat.R

/- Tarjan's walk ends; what it finds where edges go both ways; what it finds where there is no circle. -/
namespace Go.Proofs.YtolbfjjgdheikaaGreat.R
open Go.RowKit Go.Lab Go.Proofs.YtolbfjjgdheikaaGreatW.PrintWords PL Q

/-- how many nodes were not come to yet -/
def unv (ns : List Int) (s : TS) : Nat := ns.countP fun x => decide (s.num x = 0)
/-- s' goes on from s -/
def Grew (ns : List Int) (s s' : TS) : Prop := (∀ x, s.num x ≠ 0 → s'.num x ≠ 0) ∧ ∀ x, s'.num x ≠ 0 → s.num x ≠ 0 ∨ x ∈ ns
theorem Grew.refl (ns : List Int) (s : TS) : Grew ns s s := ⟨fun _ h => h, fun _ h => .inl h⟩
theorem Grew.trans {ns : List Int} {a b c : TS} (h : Grew ns a b) (k : Grew ns b c) : Grew ns a c :=
  ⟨fun x hx => k.1 x (h.1 x hx), fun x hx => (k.2 x hx).elim (fun h2 => h.2 x h2) .inr⟩
theorem Grew.unv {ns : List Int} {s s' : TS} (h : Grew ns s s') : unv ns s' ≤ unv ns s :=
  List.countP_mono_left fun x _ hx => by
    rw [decide_eq_true_iff] at hx ⊢
    exact Classical.byContradiction fun hn => h.1 x hn hx
theorem count_less {p q : Int → Bool} {v : Int} (hq : ∀ x, q x = true → p x = true ∧ x ≠ v) (hv : p v = true) : ∀ ns : List Int, v ∈ ns → ns.countP q + 1 ≤ ns.countP p := by
  have hle : ∀ ns : List Int, ns.countP q ≤ ns.countP p := fun ns => List.countP_mono_left fun x _ hx => (hq x hx).1
  intro ns
  induction ns with
  | nil => intro h; cases h
  | cons a ns ih =>
    intro h
    by_cases e : a = v
    · subst e
      have hqa : q a = false := by
        cases hqa : q a with
        | false => rfl
        | true => exact absurd rfl (hq a hqa).2
      rw [List.countP_cons_of_pos hv, List.countP_cons_of_neg (by rw [hqa]; simp)]
      have := hle ns
      omega
    · have h2 : v ∈ ns := by
        rcases List.mem_cons.1 h with rfl | h
        · exact absurd rfl e
        · exact h
      have := ih h2
      rw [List.countP_cons, List.countP_cons]
      by_cases ha : q a = true
      · rw [if_pos ha, if_pos (hq a ha).1]; omega
      · rw [if_neg ha]
        split <;> omega
theorem enter_grew {ns : List Int} {s : TS} {v : Int} (hv : v ∈ ns) : Grew ns s (s.enter v) := by
  refine ⟨fun x hx => ?_, fun x hx => ?_⟩
  · show updN s.num v (s.idx + 1) x ≠ 0
    by_cases e : x = v
    · subst e; rw [updN_eq]; omega
    · rw [updN_ne _ _ e]; exact hx
  · by_cases e : x = v
    · subst e; exact .inr hv
    · rw [show (s.enter v).num x = s.num x from updN_ne _ _ e] at hx; exact .inl hx
theorem enter_unv {ns : List Int} {s : TS} {v : Int} (hv : v ∈ ns) (hn : s.num v = 0) : unv ns (s.enter v) + 1 ≤ unv ns s := by
  refine count_less (v := v) (fun x hx => ?_) (by simpa using hn) ns hv
  rw [decide_eq_true_iff] at hx ⊢
  have e : x ≠ v := fun e => by subst e; rw [show (s.enter x).num x = s.idx + 1 from updN_eq _ _ _] at hx; omega
  rw [show (s.enter v).num x = s.num x from updN_ne _ _ e] at hx
  exact ⟨hx, e⟩
theorem leave_num (s : TS) (v : Int) : (s.leave v).num = s.num := by
  unfold TS.leave
  split <;> rfl

theorem succs_ends {ns : List Int} (rec : Int → TS → Option TS) (k : Nat) (v : Int) (hrec : ∀ w s, w ∈ ns → s.num w = 0 → unv ns s ≤ k → ∃ r, rec w s = some r ∧ Grew ns s r) :
    ∀ (ws : List Int) (s : TS), (∀ w ∈ ws, w ∈ ns) → unv ns s ≤ k → ∃ r, succsT rec v ws s = some r ∧ Grew ns s r := by
  intro ws
  induction ws with
  | nil => intro s _ _; exact ⟨s, rfl, Grew.refl _ _⟩
  | cons w ws ih =>
    intro s hws hu
    have hw' : ∀ x ∈ ws, x ∈ ns := fun x hx => hws x (by simp [hx])
    by_cases hn : s.num w = 0
    · obtain ⟨r, hr, hg⟩ := hrec w s (hws w (by simp)) hn hu
      have hg2 : Grew ns s (r.lower v (r.low w)) := ⟨hg.1, hg.2⟩
      obtain ⟨r2, hr2, hg3⟩ := ih (r.lower v (r.low w)) hw' (Nat.le_trans hg2.unv hu)
      exact ⟨r2, by rw [succsT, if_pos hn, hr]; exact hr2, hg2.trans hg3⟩
    · by_cases hs : w ∈ s.stk
      · obtain ⟨r2, hr2, hg3⟩ := ih (s.lower v (s.num w)) hw' hu
        exact ⟨r2, by rw [succsT, if_neg hn, if_pos hs]; exact hr2, hg3⟩
      · obtain ⟨r2, hr2, hg3⟩ := ih s hw' hu
        exact ⟨r2, by rw [succsT, if_neg hn, if_neg hs]; exact hr2, hg3⟩

theorem strongT_ends {adj : Int → List Int} {ns : List Int} (hin : ∀ u, ∀ x ∈ adj u, x ∈ ns) : ∀ (k : Nat) (v : Int) (s : TS), v ∈ ns → s.num v = 0 → unv ns s ≤ k → ∃ r, strongT adj k v s = some r ∧ Grew ns s r := by
  intro k
  induction k with
  | zero =>
    intro v s hv hn hu
    have := enter_unv hv hn
    omega
  | succ k ih =>
    intro v s hv hn hu
    have h1 := enter_unv hv hn
    obtain ⟨r, hr, hg⟩ := succs_ends (strongT adj k) k v (fun w s a b c => ih w s a b c) (adj v) (s.enter v) (fun w hw => hin v w hw) (by omega)
    have hg2 := (enter_grew (s := s) hv).trans hg
    exact ⟨r.leave v, by rw [strongT, hr]; rfl, ⟨fun x hx => by rw [leave_num]; exact hg2.1 x hx, fun x hx => hg2.2 x (by rw [leave_num] at hx; exact hx)⟩⟩

theorem allT_ends {adj : Int → List Int} {ns : List Int} (hin : ∀ u, ∀ x ∈ adj u, x ∈ ns) (k : Nat) : ∀ (vs : List Int) (s : TS), (∀ v ∈ vs, v ∈ ns) → unv ns s ≤ k → ∃ r, allT adj k vs s = some r ∧ Grew ns s r := by
  intro vs
  induction vs with
  | nil => intro s _ _; exact ⟨s, rfl, Grew.refl _ _⟩
  | cons v vs ih =>
    intro s hvs hu
    have hv' : ∀ x ∈ vs, x ∈ ns := fun x hx => hvs x (by simp [hx])
    by_cases hn : s.num v = 0
    · obtain ⟨r, hr, hg⟩ := strongT_ends hin k v s (hvs v (by simp)) hn hu
      obtain ⟨r2, hr2, hg2⟩ := ih r hv' (Nat.le_trans hg.unv hu)
      exact ⟨r2, by rw [allT, if_pos hn, hr]; exact hr2, hg.trans hg2⟩
    · obtain ⟨r2, hr2, hg2⟩ := ih s hv' hu
      exact ⟨r2, by rw [allT, if_neg hn]; exact hr2, hg2⟩

/-- the components of all nodes: they are found, and lie within the nodes -/
theorem sccs_all {adj : Int → List Int} {ns : List Int} (hin : ∀ u, ∀ x ∈ adj u, x ∈ ns) (k : Nat) (hk : ns.length ≤ k) : ∃ r, allT adj k ns TS.none = some r ∧ SccOk adj ns r.out ∧ r.stk = [] ∧ ∀ c ∈ r.out, ∀ x ∈ c, x ∈ ns := by
  obtain ⟨r, hr, hg⟩ := allT_ends hin k ns TS.none (fun _ h => h) (Nat.le_trans List.countP_le_length hk)
  obtain ⟨h1, h2⟩ := sccs_ok hr
  obtain ⟨i, _, _⟩ := allT_ok adj k ns TS.none r (TInv.none adj) hr
  refine ⟨r, hr, h1, h2, fun c hc x hx => ?_⟩
  rcases hg.2 x ((i.all x).2 (.inr ⟨c, hc, hx⟩)) with h | h
  · exact absurd rfl h
  · exact h

/-- where edges go both ways the components are those of the graph without directions -/
theorem SccOk.canon {adj : Int → List Int} {zs : List Int} {out : List (List Int)} (h : SccOk adj (srt zs) out) (h1 : (srt zs).Pairwise (· < ·)) (hsy : ∀ u v, v ∈ adj u → u ∈ adj v) (hsub : ∀ c ∈ out, ∀ x ∈ c, x ∈ srt zs) :
    (out.map srt).Nodup ∧ sortL (out.map srt) = canonC (RchW adj) (srt zs) := by
  have E := rch_eqv hsy
  have one : ∀ c ∈ out, ∃ w ∈ srt zs, w ∈ c ∧ srt c = (srt zs).filter fun x => (open Classical in decide (RchW adj w x)) := fun c hc => by
    obtain ⟨hnd, r, hr, hm⟩ := h.comp c hc
    refine ⟨r, hsub c hc r hr, hr, ?_⟩
    refine (srt_part h1 hnd (hsub c hc)).trans (List.filter_congr fun x _ => ?_)
    refine (open Classical in decide_eq_decide.2 ?_)
    rw [hm x]
    exact ⟨fun hh => hh.1, fun hh => ⟨hh, E.symm _ _ hh⟩⟩
  have hnd : (out.map srt).Nodup := by
    unfold List.Nodup
    rw [List.pairwise_map]
    refine (List.Pairwise.and_mem.1 h.dis).imp ?_
    rintro a b ⟨ha, hb, hab⟩ e
    obtain ⟨_, r, hr, _⟩ := h.comp a ha
    have : r ∈ srt b := by rw [← e]; exact (mem_srt _ _).2 hr
    exact hab r hr ((mem_srt _ _).1 this)
  refine ⟨hnd, (ord_ext (fun x y => lexB x y = true) (fun x y h1 h2 => by rw [lexB_asymm h1] at h2; cases h2) (canonC_lex E h1) (sortL_lt hnd) (fun x => ?_)).symm⟩
  rw [(sortL_perm _).mem_iff, canonC_mem E h1, List.mem_map]
  constructor
  · rintro ⟨w, hw, rfl⟩
    obtain ⟨c, hc, hwc⟩ := h.all w hw
    obtain ⟨r, hr, hrc, he⟩ := one c hc
    obtain ⟨_, r0, _, hm⟩ := h.comp c hc
    refine ⟨c, hc, he.trans (List.filter_congr fun x _ => ?_)⟩
    have hrw : RchW adj r w := (((hm r).1 hrc).2 : RchW adj r r0).trans ((hm w).1 hwc).1
    refine (open Classical in decide_eq_decide.2 ⟨fun hh => (E.symm _ _ hrw : RchW adj w r).trans hh, fun hh => hrw.trans hh⟩)
  · rintro ⟨c, hc, rfl⟩
    obtain ⟨r, hr, _, he⟩ := one c hc
    exact ⟨r, hr, he⟩
end Go.Proofs.YtolbfjjgdheikaaGreat.R

/- Maps of numbers; what is struck from a set. -/
namespace Go.Proofs.YtolbfjjgdheikaaGreat.R
open Go.RowKit Go.Lab Go.Maps Go.Proofs.YtolbfjjgdheikaaGreatW.PrintWords Go.Proofs.YtolbfjjgdheikaaGreatW.PrintLast Go.Proofs.YtolbfjjgdheikaaGreatW.PrintMore PL

theorem ownsMap_tight {P : Program} {k : TypeId} {R : Value → Option (DataW Unit × List MemPlace)} {w : World} {b n m : Nat} {D : DataW Unit} (h : w.ownsMap P k R b n D) (hm : Maps.size D ≤ m) : w.ownsMap P k R b m D := by
  obtain ⟨es, clock, hb, F, hs, rfl⟩ := h
  exact ⟨es, clock, hb, F, by simpa [Maps.size, length_sorted] using hm, rfl⟩
theorem size_put_there {D : DataW Unit} {k : Lit} {d : DataW Unit} (h : Maps.has D k = true) : Maps.size (D.put k d) ≤ Maps.size D := by
  cases D with
  | map es =>
    rw [DataW.put_eq, Maps.size_eq, Maps.size_eq]
    unfold ChangeMaps.putKey
    rw [length_insert]
    rw [Maps.has_eq, List.any_eq_true] at h
    obtain ⟨p, hp, hk⟩ := h
    have := List.length_filter_lt_length_iff_exists.2 ⟨p, hp, show ¬ ChangeMaps.notKey k p = true from by unfold ChangeMaps.notKey; rw [hk]; simp⟩
    omega
  | _ => simp [Maps.has] at h

/-- block gm is a map with these numbers, 0 where none stands; at most m stand -/
structure NumOk (w : World) (gm : Nat) (f : Int → Nat) (m : Nat) : Prop where
  ex : ∃ D : DataW Unit, w.ownsMap Tryz.prog 2 (plainElem Tryz.prog 3) gm m D ∧ (∀ x, D.atKey (.int .i64 x) (.lit (.int .i64 0)) = .lit (.int .i64 (f x))) ∧ ∀ x, Maps.has D (.int .i64 x) = decide (f x ≠ 0)
section
variable {w w1 : World} {gm m : Nat} {f : Int → Nat}
theorem NumOk.lt (h : NumOk w gm f m) : gm < w.heap.size := by
  obtain ⟨D, h1, _⟩ := h.ex
  exact h1.lt
theorem NumOk.stay (h : NumOk w gm f m) (hm : w1.heap[gm]? = w.heap[gm]?) : NumOk w1 gm f m := by
  obtain ⟨D, ⟨es, clock, hb, hr⟩, h2, h3⟩ := h.ex
  exact ⟨D, ⟨es, clock, hm.trans hb, hr⟩, h2, h3⟩
theorem NumOk.made (w : World) : NumOk (w.alloc (.map #[] 0)) w.heap.size (fun _ => 0) 0 :=
  ⟨.map [], World.ownsMap_made _ _ _ _, fun x => by rfl, fun x => by simp [Maps.has]⟩
theorem NumOk.cells_ne (h : NumOk w gm f m) {k : Nat} {c : Array Value} {t : TypeId} (hk : w.heap[k]? = some (.cells c t (0, 0))) : k ≠ gm := fun e => by
  obtain ⟨D, ⟨es, clock, hb, _⟩, _⟩ := h.ex
  rw [e, hb] at hk
  cases hk
theorem zero3 (w : World) : (zeroValue 3).run Tryz.prog w = .ok (.int .i64 0) w := by kernel_rfl
theorem NumOk.look (h : NumOk w gm f m) {x : Int} (hw : (Lit.int .i64 x).wf = true) : (Instr.lookup 150 (.map (some gm)) (.int .i64 x) false).run Tryz.prog w = .ok (.int .i64 (f x : Int)) w := by
  obtain ⟨D, hown, hat, _⟩ := h.ex
  have hkey : keyOf Tryz.prog 2 (.int .i64 x) = some (.int .i64 x) := keyOf_int_mk Tryz.underlying2 hw
  obtain ⟨c, hrun, hc, _⟩ := hown.lookup_int lawS2 Tryz.underlying150 Tryz.underlying3 (zero3 w) hkey
  rw [hat x] at hc
  have hc2 : (f x : Int) = c := (Lit.int.inj (DataW.lit.inj hc)).2
  rw [hc2]
  exact hrun
theorem NumOk.put (h : NumOk w gm f m) {x : Int} (hw : (Lit.int .i64 x).wf = true) {n : Nat} (hn : n ≠ 0) (hnw : (Lit.int .i64 (n : Int)).wf = true) (hm : m < 100000) :
    ∃ w', (Instr.mapUpdate 150 (.map (some gm)) (.int .i64 x) (.int .i64 (n : Int))).run Tryz.prog w = .ok () w' ∧ NumOk w' gm (updN f x n) (if f x = 0 then m + 1 else m) ∧ w.grownBy w' (some gm) := by
  obtain ⟨D, hown, hat, hhas⟩ := h.ex
  have hkey : keyOf Tryz.prog 2 (.int .i64 x) = some (.int .i64 x) := keyOf_int_mk Tryz.underlying2 hw
  have hD := hown.isMap
  obtain ⟨w', hrun, hown', hg⟩ := hown.update lawS2 Tryz.underlying150 (by unfold maxLen; omega) hkey (plainElem_int Tryz.underlying3 hnw)
  refine ⟨w', hrun, ⟨D.put (.int .i64 x) (.lit (.int .i64 (n : Int))), ?_, fun y => ?_, fun y => ?_⟩, hg⟩
  · by_cases h0 : f x = 0
    · rw [if_pos h0]; exact hown'
    · rw [if_neg h0]
      have h2 := hown.size_le
      have h3 := size_put_there (d := .lit (.int .i64 (n : Int))) (show Maps.has D (.int .i64 x) = true by rw [hhas x]; exact decide_eq_true h0)
      exact ownsMap_tight hown' (by omega)
  · by_cases e : y = x
    · subst e
      rw [Maps.atKey_put_same hD (show WideAt.IsKeyLit (.int .i64 y) from trivial), updN_eq]
    · rw [Maps.atKey_put_other (fun e2 => e (by injection e2)), hat y, updN_ne _ _ e]
  · by_cases e : y = x
    · subst e
      rw [Maps.has_put_same hD (show WideAt.IsKeyLit (.int .i64 y) from trivial), updN_eq, decide_eq_true hn]
    · rw [Maps.has_put_other (fun e2 => e (by injection e2)), hhas y, updN_ne _ _ e]
end

theorem size_del_there {D : DataW Unit} {k : Lit} (h : Maps.has D k = true) : Maps.size (D.del k) + 1 ≤ Maps.size D := by
  cases D with
  | map es =>
    rw [DataW.del_eq, Maps.size_eq, Maps.size_eq]
    rw [Maps.has_eq, List.any_eq_true] at h
    obtain ⟨p, hp, hk⟩ := h
    exact List.length_filter_lt_length_iff_exists.2 ⟨p, hp, by unfold ChangeMaps.notKey; rw [hk]; simp⟩
  | _ => simp [Maps.has] at h

set_option maxHeartbeats 1000000 in
set_option maxRecDepth 100000 in
/-- a number is struck from a set -/
theorem remove_any (gm : Nat) (vis : List Int) (x : Int) (w : World) (h : SetOk w gm (vis ++ [x])) (hw : (Lit.int .i64 x).wf = true) (hx : x ∉ vis) :
    Calls Tryz.prog 118 #[.map (some gm), .int .i64 x] w fun e w' => e = .returned (.tuple #[]) ∧ SetOk w' gm vis ∧ w.grownBy w' (some gm) := by
  obtain ⟨n, D, hown, hn, hh⟩ := h.ex
  have hkey : keyOf Tryz.prog 2 (.int .i64 x) = some (.int .i64 x) := keyOf_int_mk Tryz.underlying2 hw
  have HH := Aside0.mk hh
  have HM := Aside0.mk (And.intro hown.isMap hown.size_le)
  clear hh
  go_enter Tryz.func118, Tryz.ntmps118
  go_wp2_with (at_delete; refine wpList_delete_own _ rfl _ _ 78 2 rfl 194 lawS2 Tryz.underlying78 (unitElem (H := Unit)) gm n D rfl hown _ _ rfl hkey ?_; intro w1 hown1 hturn1; have HG := Aside0.mk (And.intro hown1 hturn1); clear hown1 hturn1)
  go_end0
  have hlen : (vis ++ [x]).length = vis.length + 1 := by simp
  have hsz := size_del_there (k := .int .i64 x) (show Maps.has D (.int .i64 x) = true by rw [HH.out x]; simp)
  have h2 := HM.out.2
  refine ⟨rfl, ⟨vis.length, _, ownsMap_tight HG.out.1 (by omega), Nat.le_refl _, fun y => ?_⟩, World.mapTurned.grown HG.out.2⟩
  by_cases hy : y = x
  · subst hy
    rw [Maps.has_del_same, decide_eq_false hx]
  · rw [Maps.has_del_other (fun e => hy (by injection e)), HH.out y]
    simp [hy]
end Go.Proofs.YtolbfjjgdheikaaGreat.R

/- All nodes of an iterator. -/
namespace Go.Proofs.YtolbfjjgdheikaaGreat.R
open Go.RowKit Go.Lab Go.Maps Go.Proofs.YtolbfjjgdheikaaGreatW.PrintWords Go.Proofs.YtolbfjjgdheikaaGreatW.PrintLast Go.Proofs.YtolbfjjgdheikaaGreatW.PrintMore PL

theorem meth_OLen (a : Addr) (w : World) : (method 363 255 (.pointer (some a)) "Len").run Tryz.prog w = .ok (216, .pointer (some a)) w := by kernel_rfl
theorem meth_OSlice (a : Addr) (w : World) : (method 363 255 (.pointer (some a)) "NodeSlice").run Tryz.prog w = .ok (219, .pointer (some a)) w := by kernel_rfl
theorem OIt.cells0 {lo B : Nat} {w : World} {b : Nat} {xs : List Int} {k : Nat} (h : OIt lo B w b xs k) : ∃ A c, w.cell? ⟨b, 0, none⟩ = some (.int .i64 ((k : Int) - 1)) ∧ w.cell? ⟨b, 1, none⟩ = some (.slice A xs.length c) ∧ w.frozen? ⟨b, 0, none⟩ = false ∧ xs.length ≤ c ∧
    w.ownsRow lo 72 1 (.slice A xs.length c) xs.length (nodeVs xs) ∧ (∀ q, (Value.slice A xs.length c).ownBlock = some q → q < B) ∧ (0 < xs.length → ∃ g, A = some ⟨g, 0, none⟩) := by
  obtain ⟨v, h1, h2, h3⟩ := h.ex
  obtain ⟨A, c, rfl⟩ := own_slice h2
  refine ⟨A, c, (blk_cell h1 0).trans rfl, (blk_cell h1 1).trans rfl, blk_frozen h1 0, ?_, h2, h3, fun h0 => ?_⟩
  · rcases h2.2 with ⟨e, h0⟩ | ⟨g, cap, cur, e, h4, h5, h6, h7, _⟩
    · omega
    · simp only [Value.slice.injEq] at e
      omega
  · rcases h2.2 with ⟨e, h9⟩ | ⟨g, cap, cur, e, _⟩
    · omega
    · simp only [Value.slice.injEq] at e
      exact ⟨g, e.1⟩

set_option maxHeartbeats 4000000 in
set_option maxRecDepth 100000 in
theorem olen_any (lo B b : Nat) (xs : List Int) (w : World) (h : OIt lo B w b xs 0) (hl : xs.length ≤ 100000) :
    Calls Tryz.prog 216 #[.pointer (some ⟨b, 0, none⟩)] w fun e w' => e = .returned (.int .i64 xs.length) ∧ ∃ n, w' = w.drewN n := by
  obtain ⟨A, c, h0, h1, hf, hc, hown, hB, hA⟩ := h.cells0
  have HA := Aside0.mk hA
  have h0' : w.cell? ⟨b, 0, none⟩ = some (.int .i64 (-1)) := h0
  clear h h0 hown hB hA
  have hd : decide ((-1 : Int) ≥ (xs.length : Int)) = false := decide_eq_false (by omega)
  have hd2 : decide ((xs.length : Int) ≤ -1) = false := decide_eq_false (by omega)
  have hz : (0 : Int) ≤ (xs.length : Int) := by omega
  have hcc : (xs.length : Int) ≤ (c : Int) := by omega
  by_cases hn : 0 < xs.length
  · obtain ⟨g, rfl⟩ := HA.out hn
    go_enter Tryz.func216, Tryz.ntmps216
    go_wp2_with fail
    go_quiet (fail)
    go_wp2_with fail
    go_quiet (fail)
    go_wp2
    go_ret
    exact ⟨by simp, _, World.drewN_drewN _ _ _⟩
  · have he : xs.length = 0 := by omega
    rw [he]
    rw [he] at h1 hd hd2
    clear hz hcc hn
    go_enter Tryz.func216, Tryz.ntmps216
    go_wp2_with fail
    go_quiet (fail)
    go_wp2_with fail
    go_quiet (fail)
    go_wp2
    go_ret
    exact ⟨by simp, _, World.drewN_drewN _ _ _⟩

set_option maxHeartbeats 4000000 in
set_option maxRecDepth 100000 in
theorem oslice_any (lo B b : Nat) (xs : List Int) (w : World) (h : OIt lo B w b xs 0) (hl : xs.length ≤ 100000) (hn : 0 < xs.length) :
    Calls Tryz.prog 219 #[.pointer (some ⟨b, 0, none⟩)] w fun e w' => ∃ v, e = .returned v ∧ w'.ownsRow lo 72 1 v xs.length (nodeVs xs) ∧ (∀ q, v.ownBlock = some q → q < B) ∧ Mid lo B w w' := by
  have HO := Aside0.mk h
  obtain ⟨A, c, h0, h1, hf, hc, hown, hB, hA⟩ := h.cells0
  obtain ⟨g, rfl⟩ := hA hn
  have HX := Aside0.mk (And.intro hown hB)
  have h0' : w.cell? ⟨b, 0, none⟩ = some (.int .i64 (-1)) := h0
  have hb := h.lt
  have hb2 := h.hb
  clear h h0 hown hB hA
  have hd : decide ((-1 : Int) ≥ (xs.length : Int)) = false := decide_eq_false (by omega)
  have hd2 : decide ((xs.length : Int) ≤ -1) = false := decide_eq_false (by omega)
  have hz : (0 : Int) ≤ (xs.length : Int) := by omega
  have hcc : (xs.length : Int) ≤ (c : Int) := by omega
  go_enter Tryz.func219, Tryz.ntmps219
  go_wp2_with fail
  go_quiet (fail)
  go_wp2
  go_ret
  refine ⟨_, rfl, own_of_heap HX.out.1 fun k hk => ?_, HX.out.2, (Mid.drewN lo B w nq).trans (Mid.set _ _ _ hb2.1 hb2.2)⟩
  refine (Below.heap_setCell _ _ _ _ (fun e => ?_))
  obtain ⟨c1, hc1⟩ := own_block HX.out.1 hk
  obtain ⟨v, hv, _⟩ := HO.out.ex
  have e2 : k = b := e
  subst e2
  exact absurd (blk_type hc1 hv) (by decide)

theorem noSlicer (a : Addr) (w : World) : (Instr.typeAssert (.iface 255 (.pointer (some a))) 116 185 true).run Tryz.prog w = .ok (.tuple #[.iface 255 (.pointer (some a)), .bool true]) w := by kernel_rfl
theorem it_nil (a : Addr) (w : World) : (binOp .eql 116 (.iface 255 (.pointer (some a))) .nilIface).run Tryz.prog w = .ok (.bool false) w := by kernel_rfl
set_option maxHeartbeats 4000000 in
set_option maxRecDepth 100000 in
/-- graph.NodesOf over an iterator at its beginning -/
theorem nodesOf_any (lo B b : Nat) (xs : List Int) (w : World) (h : OIt lo B w b xs 0) (hl : xs.length ≤ 100000) :
    Calls Tryz.prog 79 #[.iface 255 (.pointer (some ⟨b, 0, none⟩))] w fun e w' => ∃ v, e = .returned v ∧ w'.ownsRow lo 72 1 v xs.length (nodeVs xs) ∧ (∀ q, v.ownBlock = some q → q < B) ∧ Mid lo B w w' := by
  have HO := Aside0.mk h
  have m1 := meth_OLen ⟨b, 0, none⟩
  have m2 := meth_OSlice ⟨b, 0, none⟩
  have t1 := noSlicer ⟨b, 0, none⟩
  have t2 := it_nil ⟨b, 0, none⟩
  clear h
  by_cases hn : 0 < xs.length
  · have hd : ((xs.length : Int) == 0) = false := by rw [beq_eq_false_iff_ne]; omega
    have hd2 : decide ((xs.length : Int) < 0) = false := decide_eq_false (by omega)
    go_enter Tryz.func79, Tryz.ntmps79
    go_wp2_with (first
      | (go_at_call 216; refine (olen_any lo B b xs _ HO.out hl).mono ?_; rintro e w1 ⟨rfl, n1, hw1⟩; have H1 := Aside0.mk (show OIt lo B w1 b xs 0 by subst hw1; exact HO.out.far (fun _ _ _ => rfl)); have HM := Aside0.mk (show Mid lo B w w1 by subst hw1; exact Mid.drewN lo B w n1); clear hw1)
      | (go_at_call 219; refine (oslice_any lo B b xs _ H1.out hl hn).mono ?_; rintro e w2 ⟨v, rfl, h1, h2, h3⟩; have H2 := Aside0.mk (And.intro h1 (And.intro h2 h3)); clear h1 h2 h3))
    go_ret
    exact ⟨v, rfl, H2.out.1, H2.out.2.1, HM.out.trans H2.out.2.2⟩
  · have he : xs = [] := List.eq_nil_of_length_eq_zero (by omega)
    subst he
    go_enter Tryz.func79, Tryz.ntmps79
    go_wp2_with (go_at_call 216; refine (olen_any lo B b [] _ HO.out hl).mono ?_; rintro e w1 ⟨rfl, n1, hw1⟩; have HM := Aside0.mk (show Mid lo B w w1 by subst hw1; exact Mid.drewN lo B w n1); clear hw1; rw [show ((([] : List Int).length : Nat) : Int) = 0 from rfl])
    go_ret
    exact ⟨_, rfl, World.ownsRow_nil _ _ _ _, fun q hq => by simp [Value.ownBlock] at hq, HM.out⟩
end Go.Proofs.YtolbfjjgdheikaaGreat.R
