import Derived.Test.YtolbfjjgdheikaaGreatFX2
set_option linter.unusedVariables false
set_option linter.unusedSimpArgs false
/- One walk breadth first inside a walk through all. -/
namespace Go.Proofs.YtolbfjjgdheikaaGreat.R
open Go.RowKit Go.Lab Go.Maps Go.Proofs.YtolbfjjgdheikaaGreatW.PrintWords Go.Proofs.YtolbfjjgdheikaaGreatW.PrintLast Go.Proofs.YtolbfjjgdheikaaGreatW.PrintMore PL

theorem newQ_size (seen : List Int) : ∀ (l q : List Int), q.length ≤ (newQ seen l q).length ∧ (newQ seen l q).length ≤ q.length + l.length
  | [], q => ⟨Nat.le_refl _, Nat.le_refl _⟩
  | v :: l, q => by
    by_cases h : v ∈ seen ++ q
    · simp only [newQ, if_pos h, List.length_cons]
      have := newQ_size seen l q
      omega
    · simp only [newQ, if_neg h, List.length_cons]
      have := newQ_size seen l (q ++ [v])
      simp at this
      omega

/-- what the walks read, in the world at the beginning of all -/
structure VEnvB (K : Kp) (w0 : World) (gd gv base bp : Nat) (zs : List Int) (es : List S34) (p : Pl) : Prop where
  gr : GrOk w0 base bp zs es p
  ok : K.Ok
  hd : ∃ cs, w0.heap[gd]? = some (.cells cs 85 (0, 0))
  hv : ∃ cs, w0.heap[gv]? = some (.cells cs K.T (0, 0))
  wf : ∀ x ∈ zs, (Lit.int .i64 x).wf = true
theorem VEnvB.to {K : Kp} {w0 w : World} {gd gv base bp : Nat} {zs : List Int} {es : List S34} {p : Pl} (h : VEnvB K w0 gd gv base bp zs es p) (hk : KeepF (WM gd gv w0.heap.size) w0 w) : GrOk w base bp zs es p := by
  refine ⟨h.gr.ok.kinds fun k cc tt hkk ht => hk.block k (blk_lt hkk) (fun hm => ?_), h.gr.good, h.gr.adj, h.gr.hs, h.gr.hn⟩
  obtain ⟨c1, hd⟩ := h.hd
  obtain ⟨c2, hv⟩ := h.hv
  rcases hm with e | e | e
  · subst e
    have := blk_type hkk hd
    exact absurd this (by rcases ht with rfl | rfl | rfl | rfl <;> decide)
  · subst e
    have := blk_type hkk hv
    rcases h.ok.1 with e | e <;> rw [e] at this <;> exact absurd this (by rcases ht with rfl | rfl | rfl | rfl <;> decide)
  · have := blk_lt hkk
    omega

/-- a walk's object with its new map -/
theorem DB.first {K : Kp} {F : Nat → Prop} {w0 wF : World} {gd gv : Nat} {st vv : Value} (ok : K.Ok) (hs : Que w0.heap.size wF gd .nilFunc .nilFunc (.map none) st [] []) (hg : Gat K w0.heap.size wF gv vv []) (gv0 : gv < w0.heap.size) (gd0 : gd < w0.heap.size) (kp : KeepF (WM gd gv w0.heap.size) w0 wF)
    (sep : ∀ k, st.ownBlock = some k → vv.ownBlock ≠ some k) (nF : ∀ k, F k → w0.heap.size ≤ k ∧ k < wF.heap.size ∧ st.ownBlock ≠ some k ∧ vv.ownBlock ≠ some k) :
    DB K F w0 wF ((wF.setCell ⟨gd, 4, none⟩ (.map (some wF.heap.size))).alloc (.map #[] 0)) gd gv wF.heap.size st vv [] [] [] [] := by
  have hsz : (wF.setCell ⟨gd, 4, none⟩ (.map (some wF.heap.size))).heap.size = wF.heap.size := by simp
  have hm := SetOk.made (wF.setCell ⟨gd, 4, none⟩ (.map (some wF.heap.size)))
  rw [hsz] at hm
  have hL := kp.size
  have keep : ∀ k, k < wF.heap.size → k ≠ gd → ((wF.setCell ⟨gd, 4, none⟩ (.map (some wF.heap.size))).alloc (.map #[] 0)).heap[k]? = wF.heap[k]? := fun k hk hne => by
    rw [Below.heap_alloc _ _ _ (by rw [hsz]; exact hk)]
    exact Below.heap_setCell _ _ _ _ hne
  have hnegv : gv ≠ gd := fun e => by
    subst e
    have := blk_type hs.blk hg.blk
    rcases ok.1 with e | e <;> rw [e] at this <;> exact absurd this (by decide)
  have stne : ∀ k, st.ownBlock = some k → k < wF.heap.size ∧ k ≠ gd := fun k hk => by
    obtain ⟨c, hc⟩ := own_block hs.own hk
    exact ⟨blk_lt hc, fun e => by subst e; exact absurd (blk_type hs.blk hc) (by decide)⟩
  have vvne : ∀ k, vv.ownBlock = some k → k < wF.heap.size ∧ k ≠ gd := fun k hk => by
    obtain ⟨c, hc⟩ := own_block hg.own hk
    refine ⟨blk_lt hc, fun e => ?_⟩
    subst e
    have := blk_type hs.blk hc
    rcases ok.2 with e | e <;> rw [e] at this <;> exact absurd this (by decide)
  refine ⟨ok, ⟨blk_alloc (blk_put (cs := #[.nilFunc, .nilFunc, .int .i64 0, st, .map none]) hs.blk 4 _ rfl) _, own_of_heap hs.own fun k hk => keep k (stne k hk).1 (stne k hk).2, fun _ => rfl⟩, hm, hL, ⟨(keep gv (blk_lt hg.blk) hnegv).trans hg.blk, own_of_heap hg.own fun k hk => keep k (vvne k hk).1 (vvne k hk).2⟩, gv0, gd0, ?_, sep, fun k hk => ?_⟩
  · exact (kp.trans (KeepF.of_grown (grown_set wF gd 4 _) (fun k hk => .inl (Option.some.inj hk).symm))).trans (KeepF.of_grown (World.grownBy_alloc _ _ none) (fun k hk => by cases hk))
  · obtain ⟨a, b, c, d⟩ := nF k hk
    exact ⟨a, by simp; omega, c, d, by omega, keep k b (by omega)⟩

end Go.Proofs.YtolbfjjgdheikaaGreat.R
