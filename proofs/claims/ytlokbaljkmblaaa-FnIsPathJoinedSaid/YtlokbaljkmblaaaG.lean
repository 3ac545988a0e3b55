import Derived.Test.YtlokbaljkmblaaaF
import Derived.Deep.RegionHeld3
namespace Go.Proofs.Ytlokbaljkmblaaa
open Go.RowKit Go.Lab Go.Proofs.YtlokbaljkmblaaaW.PrintWords Go.Proofs.YtlokbaljkmblaaaW.PrintLast Go.Proofs.YtlokbaljkmblaaaW.PrintMore

/-- a row of arcs: ascending, to places below n -/
def GoodRow (n : Nat) (l : List (Int × Nat)) : Prop := (keys l).Pairwise (· < ·) ∧ ∀ a ∈ l, 0 ≤ a.1 ∧ a.1 < n

theorem pairwise_len : ∀ (l : List Int) (lo hi : Int), l.Pairwise (· < ·) → (∀ x ∈ l, lo ≤ x ∧ x < hi) → lo ≤ hi → (l.length : Int) ≤ hi - lo
  | [], lo, hi, _, _, h => by simp; omega
  | x :: r, lo, hi, hp, hb, h => by
    rw [List.pairwise_cons] at hp
    have hx := hb x (by simp)
    have := pairwise_len r (x + 1) hi hp.2 (fun y hy => ⟨by have := hp.1 y hy; omega, (hb y (by simp [hy])).2⟩) (by omega)
    simp only [List.length_cons]
    omega

theorem GoodRow.len {n : Nat} {l : List (Int × Nat)} (h : GoodRow n l) : l.length ≤ n := by
  have := pairwise_len (keys l) 0 n h.1 (fun x hx => by
    obtain ⟨a, ha, rfl⟩ := List.mem_map.1 hx
    exact h.2 a ha) (by omega)
  rw [keys_length] at this
  omega

theorem keys_insAt (l : List (Int × Nat)) (i : Nat) (a : Int × Nat) : keys (insAt l i a) = (keys l).take i ++ a.1 :: (keys l).drop i := by
  simp [keys, insAt, List.map_take, List.map_drop]

theorem insert_sorted {l : List Int} (h : l.Pairwise (· < ·)) (k : Int) (hk : ¬ k ∈ l) : (l.take (rank l k) ++ k :: l.drop (rank l k)).Pairwise (· < ·) := by
  rw [List.pairwise_append]
  have hr := rank_le l k
  refine ⟨h.take, ?_, ?_⟩
  · rw [List.pairwise_cons]
    refine ⟨fun y hy => ?_, h.drop⟩
    obtain ⟨j, hj, rfl⟩ := List.getElem_of_mem hy
    rw [List.getElem_drop]
    rw [List.length_drop] at hj
    have hj' : rank l k + j < l.length := by omega
    have h1 := rank_lt h k (rank l k + j) hj'
    have h2 : ¬ l[rank l k + j] < k := by rw [h1]; omega
    have h3 : l[rank l k + j] ≠ k := fun e => hk (by rw [← e]; exact List.getElem_mem _)
    omega
  · intro x hx y hy
    obtain ⟨j, hj, rfl⟩ := List.getElem_of_mem hx
    rw [List.getElem_take]
    rw [List.length_take] at hj
    have hj' : j < l.length := by omega
    have h1 := (rank_lt h k j hj').2 (by omega)
    rcases List.mem_cons.1 hy with rfl | hy
    · exact h1
    · obtain ⟨m, hm, rfl⟩ := List.getElem_of_mem hy
      rw [List.getElem_drop]
      rw [List.length_drop] at hm
      exact (List.pairwise_iff_getElem.1 h) j (rank l k + m) hj' (by omega) (by omega)

theorem GoodRow.setA {n : Nat} {l : List (Int × Nat)} (h : GoodRow n l) (k : Nat) (hk : k < n) (x : Nat) : GoodRow n (setA l k x) := by
  unfold Ytlokbaljkmblaaa.setA
  by_cases hm : (k : Int) ∈ keys l
  · rw [if_pos hm]
    obtain ⟨hr, he⟩ := (rank_mem h.1 _).1 hm
    have hkeys : keys (l.set (rank (keys l) k) ((k : Int), x)) = keys l := by
      unfold keys
      rw [List.map_set]
      apply List.ext_getElem?
      intro j
      rw [List.getElem?_set]
      split
      · rename_i e; subst e
        split
        · have h2 : (keys l)[rank (keys l) k]? = some (k : Int) := by rw [List.getElem?_eq_getElem hr, he]
          exact h2.symm
        · rename_i hh; rw [List.getElem?_eq_none (by omega)]
      · rfl
    refine ⟨by rw [hkeys]; exact h.1, fun a ha => ?_⟩
    rcases List.mem_or_eq_of_mem_set ha with ha | rfl
    · exact h.2 a ha
    · simp; omega
  · rw [if_neg hm]
    refine ⟨by rw [keys_insAt]; exact insert_sorted h.1 _ hm, fun a ha => ?_⟩
    unfold insAt at ha
    rw [List.mem_append, List.mem_cons] at ha
    rcases ha with ha | rfl | ha
    · exact h.2 a (List.mem_of_mem_take ha)
    · simp; omega
    · exact h.2 a (List.mem_of_mem_drop ha)

/-- every row is good -/
structure Pl.Good (p : Pl) : Prop where
  n : p.ids.length ≤ 1000
  out : ∀ i, GoodRow p.ids.length (p.out.getD i [])
  inn : ∀ i, GoodRow p.ids.length (p.inn.getD i [])

def Pl.outs (p : Pl) (i k : Nat) (x : Nat) : Pl := { p with out := p.out.set i (setA (p.out.getD i []) k x) }
def Pl.inns (p : Pl) (i k : Nat) (x : Nat) : Pl := { p with inn := p.inn.set i (setA (p.inn.getD i []) k x) }
def Pl.lay (p : Pl) (i k : Nat) (x : Nat) (d : Bool) : Pl := if d then (p.outs i k x).inns k i x else (((p.outs i k x).inns k i x).outs k i x).inns i k x

theorem getD_set_row {n : Nat} {L : List (List (Int × Nat))} (h : ∀ i, GoodRow n (L.getD i [])) (i : Nat) (r : List (Int × Nat)) (hr : GoodRow n r) : ∀ j, GoodRow n ((L.set i r).getD j []) := by
  intro j
  rw [List.getD_eq_getElem?_getD, List.getElem?_set]
  split
  · split
    · exact hr
    · exact ⟨List.Pairwise.nil, by simp⟩
  · rw [← List.getD_eq_getElem?_getD]; exact h j

theorem Pl.Good.outs {p : Pl} (h : p.Good) (i k x : Nat) (hk : k < p.ids.length) : (p.outs i k x).Good := ⟨h.n, getD_set_row h.out i _ ((h.out i).setA k hk x), h.inn⟩
theorem Pl.Good.inns {p : Pl} (h : p.Good) (i k x : Nat) (hk : k < p.ids.length) : (p.inns i k x).Good := ⟨h.n, h.out, getD_set_row h.inn i _ ((h.inn i).setA k hk x)⟩
theorem Pl.Good.lay {p : Pl} (h : p.Good) (i k x : Nat) (d : Bool) (hi : i < p.ids.length) (hk : k < p.ids.length) : (p.lay i k x d).Good := by
  unfold Pl.lay
  split
  · exact (h.outs i k x hk).inns k i x hi
  · exact (((h.outs i k x hk).inns k i x hi).outs k i x hi).inns i k x hk

def PlOk (w : World) (base bp : Nat) (p : Pl) : Prop := ∃ ro ri vi vo vn, PlAt w base bp p ro ri vi vo vn

/-- what a row update reads -/
theorem PlOk.open_out {w : World} {base bp : Nat} {p : Pl} (h : PlOk w base bp p) (i : Nat) (hi : i < p.ids.length) :
    ∃ ro ri vi vn g cap, ∃ hi' : i < ro.length, PlAt w base bp p ro ri vi (.slice (some ⟨g, 0, none⟩) ro.length cap) vn ∧ w.cell? ⟨bp, 1, none⟩ = some (.slice (some ⟨g, 0, none⟩) ro.length cap) ∧ w.cell? ⟨g, i, none⟩ = some ro[i] ∧ w.frozen? ⟨g, i, none⟩ = false ∧
      bp < w.heap.size ∧ g < w.heap.size ∧ base ≤ g ∧ ro.length = p.ids.length := by
  obtain ⟨ro, ri, vi, vo, vn, hp⟩ := h
  have hi' : i < ro.length := by rw [hp.rows.la, hp.po]; exact hi
  rcases hp.rows.a.2 with ⟨rfl, h0⟩ | ⟨g, cap, cur, rfl, hb1, hg, hc1, hc2, hcs, htk⟩
  · omega
  · refine ⟨ro, ri, vi, vn, g, cap, hi', hp, ?_, ?_, blk_frozen hg _, blk_lt hp.blk, blk_lt hg, hb1, by rw [hp.rows.la, hp.po]⟩
    · rw [blk_cell hp.blk]; rfl
    · rw [blk_cell hg]
      have : (cur.toList.take (ro.length * 1))[i]? = some ro[i] := by rw [htk]; exact List.getElem?_eq_getElem hi'
      rw [List.getElem?_take] at this
      split at this
      · simpa using this
      · cases this

theorem PlOk.open_inn {w : World} {base bp : Nat} {p : Pl} (h : PlOk w base bp p) (i : Nat) (hi : i < p.ids.length) :
    ∃ ro ri vi vo g cap, ∃ hi' : i < ri.length, PlAt w base bp p ro ri vi vo (.slice (some ⟨g, 0, none⟩) ri.length cap) ∧ w.cell? ⟨bp, 2, none⟩ = some (.slice (some ⟨g, 0, none⟩) ri.length cap) ∧ w.cell? ⟨g, i, none⟩ = some ri[i] ∧ w.frozen? ⟨g, i, none⟩ = false ∧
      bp < w.heap.size ∧ g < w.heap.size ∧ base ≤ g ∧ ri.length = p.ids.length := by
  obtain ⟨ro, ri, vi, vo, vn, hp⟩ := h
  have hi' : i < ri.length := by rw [hp.rows.lb, hp.pi]; exact hi
  rcases hp.rows.b.2 with ⟨rfl, h0⟩ | ⟨g, cap, cur, rfl, hb1, hg, hc1, hc2, hcs, htk⟩
  · omega
  · refine ⟨ro, ri, vi, vo, g, cap, hi', hp, ?_, ?_, blk_frozen hg _, blk_lt hp.blk, blk_lt hg, hb1, by rw [hp.rows.lb, hp.pi]⟩
    · rw [blk_cell hp.blk]; rfl
    · rw [blk_cell hg]
      have : (cur.toList.take (ri.length * 1))[i]? = some ri[i] := by rw [htk]; exact List.getElem?_eq_getElem hi'
      rw [List.getElem?_take] at this
      split at this
      · simpa using this
      · cases this
end Go.Proofs.Ytlokbaljkmblaaa
