import Derived.Test.YtgiebjihceggjaaC
set_option linter.unusedVariables false
set_option linter.unusedSimpArgs false
namespace Go.Proofs.Ytgiebjihceggjaa
open Go.RowKit Go.Proofs.YtgiebjihceggjaaW.PrintWords Go.Proofs.YtgiebjihceggjaaW.PrintLast Go.Proofs.YtgiebjihceggjaaW.PrintMore

set_option maxHeartbeats 1000000 in
theorem setEdge_any (base bp : Nat) (d : Bool) (vn : Value) (ns : List Int) (ve : Value) (es : List (Int × Int)) (u v : Int) (w : World) (h : Bld w base bp d vn ns ve es) (hl : es.length ≤ 100000) :
    Calls Try.prog 83 #[.pointer (some ⟨bp, 0, none⟩), edgeV (u, v)] w fun e w' => e = .returned (.tuple #[]) ∧ ∃ ve', Bld w' base bp d vn ns ve' (es ++ [(u, v)]) ∧ Keeps2 w w' ∧ Below base w w' := by
  have hp2 : w.cell? ⟨bp, 2, none⟩ = some ve := by rw [blk_cell h.blk]; rfl
  have hf2 : w.frozen? ⟨bp, 2, none⟩ = false := blk_frozen h.blk _
  have hbz := blk_lt h.blk
  have hbb := h.hb
  obtain ⟨V, C, hV⟩ := own_slice h.ownE
  subst hV
  obtain ⟨i0, hi, hz0, hz1, hz2⟩ := info_parts Try.info71
  have HI := Aside0.mk (And.intro hi (And.intro hz0 (And.intro hz1 hz2)))
  have HB := Aside0.mk h
  clear hi hz0 hz1 hz2 h
  unfold edgeV nodeV
  go_enter Try.func83, Try.ntmps83
  go_wp2_with (at_builtin; refine wpList_append_own _ rfl _ _ 37 rfl base 71 i0 .nilIface 1 16 Try.underlying37 HI.out.1 HI.out.2.1 HI.out.2.2.1 HI.out.2.2.2 rfl (by decide) _ es.length (es.map edgeV) rfl (World.ownsRow.alloc HB.out.ownE _) ⟨w.heap.size, 0, none⟩ 1 1 [edgeV (u, v)] rfl rfl (cell_one_new _ _ _) ?q2 ?q3 ?q4 ?q5 ?_)
  case q2 => intro u hu; simp at hu; subst hu; rfl
  case q3 => unfold maxLen; omega
  case q4 => omega
  case q5 => simp; omega
  intro v' w1 hown hgr _
  obtain ⟨V', c', hv'⟩ := own_slice hown
  subst hv'
  have hgg := (World.grownBy_alloc w _ _).trans hgr
  have hstep := HB.out.stepE (e := (u, v)) hown hgg
  have HS := Aside0.mk hstep
  have hq := hgg.block bp hbz (fun hc => by
    obtain ⟨c', hc'⟩ := own_block HB.out.ownE hc.symm
    exact absurd (blk_type HB.out.blk hc') (by decide))
  have hp3 : w1.cell? ⟨bp, 2, none⟩ = some (.slice V es.length C) := by rw [World.cell?_of_block (a := ⟨bp, 2, none⟩) hq]; exact hp2
  have hf3 : w1.frozen? ⟨bp, 2, none⟩ = false := by rw [World.frozen?_of_block (a := ⟨bp, 2, none⟩) hq]; exact hf2
  clear hown hgr hgg hstep hq hp2 hf2
  go_wp2
  go_end0
  exact ⟨rfl, _, HS.out⟩

set_option maxHeartbeats 1000000 in
theorem addNode_any (base bp : Nat) (d : Bool) (vn : Value) (ns : List Int) (ve : Value) (es : List (Int × Int)) (x : Int) (w : World) (h : Bld w base bp d vn ns ve es) (hl : ns.length ≤ 100000) :
    Calls Try.prog 80 #[.pointer (some ⟨bp, 0, none⟩), nodeV x] w fun e w' => e = .returned (.tuple #[]) ∧ ∃ vn', Bld w' base bp d vn' (ns ++ [x]) ve es ∧ Keeps2 w w' ∧ Below base w w' := by
  have hp2 : w.cell? ⟨bp, 1, none⟩ = some vn := by rw [blk_cell h.blk]; rfl
  have hf2 : w.frozen? ⟨bp, 1, none⟩ = false := blk_frozen h.blk _
  have hbz := blk_lt h.blk
  have hbb := h.hb
  obtain ⟨V, C, hV⟩ := own_slice h.ownN
  subst hV
  obtain ⟨i0, hi, hz0, hz1, hz2⟩ := info_parts Try.info61
  have HI := Aside0.mk (And.intro hi (And.intro hz0 (And.intro hz1 hz2)))
  have HB := Aside0.mk h
  clear hi hz0 hz1 hz2 h
  unfold nodeV
  go_enter Try.func80, Try.ntmps80
  go_wp2_with (at_builtin; refine wpList_append_own _ rfl _ _ 36 rfl base 61 i0 .nilIface 1 16 Try.underlying36 HI.out.1 HI.out.2.1 HI.out.2.2.1 HI.out.2.2.2 rfl (by decide) _ ns.length (ns.map nodeV) rfl (World.ownsRow.alloc HB.out.ownN _) ⟨w.heap.size, 0, none⟩ 1 1 [nodeV x] rfl rfl (cell_one_new _ _ _) ?q2 ?q3 ?q4 ?q5 ?_)
  case q2 => intro u hu; simp at hu; subst hu; rfl
  case q3 => unfold maxLen; omega
  case q4 => omega
  case q5 => simp; omega
  intro v' w1 hown hgr _
  obtain ⟨V', c', hv'⟩ := own_slice hown
  subst hv'
  have hgg := (World.grownBy_alloc w _ _).trans hgr
  have hstep := HB.out.stepN (x := x) hown hgg
  have HS := Aside0.mk hstep
  have hq := hgg.block bp hbz (fun hc => by
    obtain ⟨c', hc'⟩ := own_block HB.out.ownN hc.symm
    exact absurd (blk_type HB.out.blk hc') (by decide))
  have hp3 : w1.cell? ⟨bp, 1, none⟩ = some (.slice V ns.length C) := by rw [World.cell?_of_block (a := ⟨bp, 1, none⟩) hq]; exact hp2
  have hf3 : w1.frozen? ⟨bp, 1, none⟩ = false := by rw [World.frozen?_of_block (a := ⟨bp, 1, none⟩) hq]; exact hf2
  clear hown hgr hgg hstep hq hp2 hf2
  go_wp2
  go_end0
  exact ⟨rfl, _, HS.out⟩

set_option maxHeartbeats 2000000 in
set_option maxRecDepth 100000 in
theorem nodeWithID_any (bp c : Nat) (x : Int) (w : World) (hp : w.cell? ⟨bp, 1, none⟩ = some (.slice none 0 c)) :
    Calls Try.prog 82 #[.pointer (some ⟨bp, 0, none⟩), .int .i64 x] w fun e w' => e = .returned (.tuple #[nodeV x, .bool true]) ∧ Below w.heap.size w w' := by
  have hbz := World.block_lt_of_cell? w _ hp
  have hb0 := Aside0.mk (Below.refl w.heap.size w)
  go_enter Try.func82, Try.ntmps82
  go_wp2_with fail
  go_region_held3 (fun w' => w'.cell? ⟨bp, 1, none⟩ = some (.slice none 0 c) ∧ w'.cell? ⟨w.heap.size, 0, none⟩ = some (.int .i64 x))
    (first | go_keep)
    (first
      | (go_at_call 84; refine (containsFunc_none _ _ _).mono ?_; rintro e w1 ⟨rfl, rfl⟩))
  all_goals
    go_wp2
    go_ret2
    have hb1 := (Below.refl w.heap.size w).alloc (Nat.le_refl _) (.cells #[.int .i64 x] 2)
    exact ⟨rfl, ⟨hb1.os, hb1.tape, hb1.output, hb1.size, hb1.block⟩⟩
end Go.Proofs.Ytgiebjihceggjaa
