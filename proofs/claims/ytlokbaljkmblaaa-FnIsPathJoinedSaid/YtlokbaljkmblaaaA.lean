import Derived.Test.YtlokbaljkmblaaaPFnIsPathJoinedx1
import Derived.WalkSpells
import Derived.WalkLawsBesides
import Derived.Lib.Hide
import Derived.Lib.SliceRun
namespace Go.Proofs.Ytlokbaljkmblaaa
open Go.RowKit Go.Proofs.YtlokbaljkmblaaaW.PrintWords Go.Proofs.YtlokbaljkmblaaaW.PrintLast Go.Proofs.YtlokbaljkmblaaaW.PrintMore

theorem Try.info2 : (Try.prog.info? 2).map (fun i => (i.zero, i.size, i.bytes)) = some (some (.int .i64 0), 1, 8) := by kernel_rfl
theorem Try.info3 : (Try.prog.info? 3).map (fun i => (i.zero, i.size, i.bytes)) = some (some (.int .i64 0), 1, 8) := by kernel_rfl

/-- cells of a read slice of ints -/
theorem C_int_cells {w : World} {A : Option Addr} {n : Nat} {xs : List Int} {k : IntKind} (h : Kd.C (Kd.int k) w A n xs) {ad : Addr} (hA : A = some ad) :
    ∀ j u, (nums k xs)[j]? = some u → w.cell? (ad.add j) = some u := by
  intro j u hu
  obtain ⟨hl, _, hc⟩ := h
  have hj : j < xs.length := by
    rcases Nat.lt_or_ge j xs.length with h | h
    · exact h
    · rw [List.getElem?_eq_none (by rw [nums_length]; exact h)] at hu; cases hu
  obtain ⟨ad', e, hc⟩ := hc (by omega)
  rw [hA] at e; cases e
  obtain ⟨c, _, hr, hcell⟩ := hc j _ (List.getElem?_eq_getElem hj)
  have hr' : c = [.int k xs[j]] := hr
  subst hr'
  have := hcell 0 (.int k xs[j]) rfl
  simp only [nums, List.getElem?_map, List.getElem?_eq_getElem hj, Option.map_some, Option.some.injEq] at hu
  subst hu
  have hs : (Kd.int k).sz = 1 := rfl
  rw [hs] at this
  simpa using this

set_option maxHeartbeats 1000000 in
theorem clone64_some (A : Addr) (c : Nat) (xs : List Int) (w : World) (h : Kd.C (Kd.int .i64) w (some A) xs.length xs) (hb : xs.length * 8 ≤ 140737488355328) :
    Calls Try.prog 19 #[.slice (some A) xs.length c] w fun e w' => ∃ v', e = .returned v' ∧ w'.ownsRow w.heap.size 2 1 v' xs.length (nums .i64 xs) ∧ Below w.heap.size w w' := by
  have q60 : ∀ (w : World) (a : Option Addr) (n c n' c' : Nat), (binOp .eql 60 (.slice a n c) (.slice none n' c')).run Try.prog w = .ok (.bool a.isNone) w := fun w a n c n' c' => Lib.run_eql_slice_nil w _ _ a n c n' c' Try.underlying60
  have hcells := C_int_cells h rfl
  have HC := Aside0.mk hcells
  clear hcells
  have h1 : ∀ u ∈ nums .i64 xs, u.oneCell' = true := by intro u hu; obtain ⟨x, _, rfl⟩ := List.mem_map.1 hu; rfl
  have H1 := Aside0.mk h1
  clear h1
  have hn : xs.length ≤ maxLen := by unfold maxLen; omega
  obtain ⟨i0, hi, hz0, hz1, hz2⟩ := info_parts Try.info2
  have HL := Aside0.mk (nums_length .i64 xs)
  have HI := Aside0.mk (And.intro hi (And.intro hz0 (And.intro hz1 hz2)))
  clear hi hz0 hz1 hz2 h
  go_enter Try.func19, Try.ntmps19
  go_wp2_with (at_builtin; refine wpList_append_own _ rfl _ _ 60 rfl w.heap.size 2 i0 (.int .i64 0) 1 8 Try.underlying60 HI.out.1 HI.out.2.1 HI.out.2.2.1 HI.out.2.2.2 rfl (by decide) _ _ _ rfl (World.ownsRow_made w #[] 0 (Nat.le_refl _) (Nat.zero_le _) (by simp)) A xs.length c (nums .i64 xs) rfl ?qc1 ?qc2 ?qc3 ?qc4 ?qc5 ?qc6 ?_)
  case qc1 => rw [HL.out]; omega
  case qc2 =>
    intro j u hj
    exact Lib.cell?_alloc_some _ (HC.out j u hj)
  case qc3 => exact H1.out
  case qc4 => rw [Nat.zero_add]; exact hn
  case qc5 => rw [Nat.zero_add]; exact hb
  case qc6 => simp
  intro v' w1 hown hgrow hnil
  go_wp2
  go_ret
  refine ⟨v', rfl, by simpa using hown, ?_⟩
  exact ((Below.refl _ w).alloc (Nat.le_refl _) _).grown hgrow (by simp) (by intro k hk; simp [Value.ownBlock] at hk; omega)
end Go.Proofs.Ytlokbaljkmblaaa
