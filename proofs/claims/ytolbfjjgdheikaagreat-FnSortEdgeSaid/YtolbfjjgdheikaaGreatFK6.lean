import Derived.Test.YtolbfjjgdheikaaGreatFK4
import Derived.Test.YtolbfjjgdheikaaGreatFB2
set_option linter.unusedVariables false
set_option linter.unusedSimpArgs false
/- What is done behind each walk: the part is laid down. -/
namespace Go.Proofs.YtolbfjjgdheikaaGreat.R
open Go.RowKit Go.Lab Go.Maps Go.Proofs.YtolbfjjgdheikaaGreatW.PrintWords Go.Proofs.YtolbfjjgdheikaaGreatW.PrintLast Go.Proofs.YtolbfjjgdheikaaGreatW.PrintMore PL

theorem Tryz.info22 : (Tryz.prog.info? 22).map (fun i => (i.zero, i.size, i.bytes)) = some (some (.slice none 0 0), 1, 24) := by kernel_rfl
theorem Tryz.info68 : (Tryz.prog.info? 68).map (fun i => (i.zero, i.size, i.bytes)) = some (some (.slice none 0 0), 1, 24) := by kernel_rfl

end Go.Proofs.YtolbfjjgdheikaaGreat.R

/- bothWays: an undirected graph is opened. -/
namespace Go.Proofs.YtolbfjjgdheikaaGreat.R
open Go.RowKit Go.Lab Go.Maps Go.Proofs.YtolbfjjgdheikaaGreatW.PrintWords Go.Proofs.YtolbfjjgdheikaaGreatW.PrintLast Go.Proofs.YtolbfjjgdheikaaGreatW.PrintMore PL

end Go.Proofs.YtolbfjjgdheikaaGreat.R

/- ConnectedComponents, numbers, slices.Sort of ints. -/
namespace Go.Proofs.YtolbfjjgdheikaaGreat.R
open Go.RowKit Go.Lab Go.Maps Go.Proofs.YtolbfjjgdheikaaGreatW.PrintWords Go.Proofs.YtolbfjjgdheikaaGreatW.PrintLast Go.Proofs.YtolbfjjgdheikaaGreatW.PrintMore PL

/-- a row of rows, as a value -/
structure RwsV (K : Kp) (lo : Nat) (w : World) (lv : Value) (rows : List Value) (ps : List (List Int)) : Prop where
  own : w.ownsRow lo K.T 1 lv rows.length rows
  len : rows.length = ps.length
  each : ∀ (i : Nat) (h : i < rows.length), w.ownsRow lo K.E 1 rows[i] (ps.getD i []).length (K.val (ps.getD i []))
theorem RwsV.mono {K : Kp} {lo lo' : Nat} {w : World} {lv : Value} {rows : List Value} {ps : List (List Int)} (h : RwsV K lo w lv rows ps) (hl : lo' ≤ lo) : RwsV K lo' w lv rows ps := ⟨own_weaken h.own hl, h.len, fun i hi => own_weaken (h.each i hi) hl⟩
theorem RwsV.keep {K : Kp} {lo : Nat} {w w1 : World} {lv : Value} {rows : List Value} {ps : List (List Int)} (h : RwsV K lo w lv rows ps) (hk : ∀ k, k < w.heap.size → w1.heap[k]? = w.heap[k]?) : RwsV K lo w1 lv rows ps :=
  ⟨own_of_heap h.own (fun k hk2 => hk k (by obtain ⟨c, hc⟩ := own_block h.own hk2; exact blk_lt hc)), h.len, fun i hi => own_of_heap (h.each i hi) (fun k hk2 => hk k (by obtain ⟨c, hc⟩ := own_block (h.each i hi) hk2; exact blk_lt hc))⟩

set_option maxHeartbeats 2000000 in
set_option maxRecDepth 100000 in
theorem numbers_any (base : Nat) (v : Value) (xs : List Int) (w : World) (h : w.ownsRow base 72 1 v xs.length (nodeVs xs)) (hn : xs.length ≤ 100000) :
    Calls Tryz.prog 37 #[v] w fun e w' => ∃ v', e = .returned v' ∧ w'.ownsRow w.heap.size 3 1 v' xs.length (nums .i64 xs) ∧ Below w.heap.size w w' := by
  obtain ⟨A, c, rfl⟩ := own_slice h
  have HO := Aside0.mk h
  obtain ⟨i0, hi, hz0, hz1, hz2⟩ := info_parts Q.Tryz.info3
  have HI := Aside0.mk (And.intro hi (And.intro hz0 (And.intro hz1 hz2)))
  clear h hi hz0 hz1 hz2
  go_enter Tryz.func37, Tryz.ntmps37
  go_wp2
  go_loopw [3, 8] (fun v i wr => ∃ k : Nat, k ≤ xs.length ∧ i = .int .i64 k ∧ Aside0 (wr.ownsRow w.heap.size 3 1 v k (nums .i64 (xs.take k)) ∧ Below w.heap.size w wr)) (fun _ i _ => xs.length - (intOf i).toNat)
  case atStart => exact ⟨0, Nat.zero_le _, rfl, ⟨World.ownsRow_nil _ _ _ _, Below.refl _ _⟩⟩
  case round =>
    obtain ⟨k, hk, rfl, HR⟩ := hrel
    by_cases hlt : k < xs.length
    · have hbw := HR.out.2.size
      obtain ⟨g, c', he, hc', hcell, hcur⟩ := own_cells HO.out (by omega)
      obtain ⟨cur, hcur⟩ := hcur
      simp only [Value.slice.injEq] at he
      obtain ⟨rfl, _, rfl⟩ := he
      have hgl := blk_lt hcur
      have hce : wr.cell? ⟨g, k, none⟩ = some (nodeV xs[k]) := by
        rw [World.cell?_of_block (HR.out.2.block g hgl)]
        exact hcell k _ (by simp [nodeVs, hlt])
      have hts := nums_step (r := xs) hlt
      have HTS := Aside0.mk hts
      clear hts hcell hcur
      generalize xs[k] = x at hce HTS
      unfold nodeV at hce
      obtain ⟨V, C, rfl⟩ := own_slice HR.out.1
      go_wp2_with (first
        | (go_at_call 40; refine (number_any _ _).mono ?_; rintro e w1 ⟨rfl, rfl⟩)
        | (at_builtin; refine wpList_append_own _ rfl _ _ 22 rfl w.heap.size 3 i0 (.int .i64 0) 1 8 Tryz.underlying22 HI.out.1 HI.out.2.1 HI.out.2.2.1 HI.out.2.2.2 rfl (by decide) _ k (nums .i64 (xs.take k)) rfl (World.ownsRow.alloc HR.out.1 _) ⟨wr.heap.size, 0, none⟩ 1 1 [.int .i64 x] rfl rfl (cell_one_new _ _ _) ?q2 ?q3 ?q4 ?q5 ?_))
      case q2 => intro u hu; simp at hu; subst hu; rfl
      case q3 => unfold maxLen; omega
      case q4 => omega
      case q5 => simp; omega
      intro v' w1 hown hgr _
      have HOw := Aside0.mk hown
      have HGR := Aside0.mk hgr
      clear hown hgr
      go_wp2
      go_roundw
      case rel => exact ⟨k + 1, by omega, by go_num, ⟨by rw [HTS.out]; exact HOw.out, (HR.out.2.alloc hbw _).grown HGR.out (by simp; omega) (fun q hq => own_base HR.out.1 q hq)⟩⟩
      case measure => simp [intOf]; omega
    · have hk' : k = xs.length := by omega
      have hts : xs.take k = xs := by rw [hk', List.take_length]
      have h1 := HR.out
      rw [hts, hk'] at h1
      have H1 := Aside0.mk h1
      clear h1 hts HR
      go_wp2
      go_ret
      exact ⟨_, rfl, H1.out.1, H1.out.2⟩
end Go.Proofs.YtolbfjjgdheikaaGreat.R
