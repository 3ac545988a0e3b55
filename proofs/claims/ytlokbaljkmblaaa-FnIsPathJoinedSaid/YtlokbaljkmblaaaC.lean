import Derived.Test.YtlokbaljkmblaaaB
import Derived.Test.YtlokbaljkmblaaaL
namespace Go.Proofs.Ytlokbaljkmblaaa
open Go.RowKit Go.Lab Go.Proofs.YtlokbaljkmblaaaW.PrintWords Go.Proofs.YtlokbaljkmblaaaW.PrintLast Go.Proofs.YtlokbaljkmblaaaW.PrintMore

theorem Try.info90 : (Try.prog.info? 90).map (fun i => (i.zero, i.size, i.bytes)) = some (some (.agg #[.int .i64 0, .float .f64 0]), 2, 16) := by kernel_rfl
theorem Try.size90 : (Try.prog.info? 90).map (·.size) = some 2 := by kernel_rfl

/-- arcs, cell by cell -/
def fl (l : List (Int × Nat)) : List Value := l.flatMap fun a => [.int .i64 a.1, .float .f64 a.2]
theorem fl_nil : fl [] = [] := rfl
theorem fl_cons (a : Int × Nat) (l : List (Int × Nat)) : fl (a :: l) = .int .i64 a.1 :: .float .f64 a.2 :: fl l := rfl
theorem fl_append (l m : List (Int × Nat)) : fl (l ++ m) = fl l ++ fl m := by simp [fl]
theorem fl_length (l : List (Int × Nat)) : (fl l).length = l.length * 2 := by
  induction l with
  | nil => rfl
  | cons a l ih => rw [fl_cons]; simp [ih]; omega
theorem fl_one (l : List (Int × Nat)) : ∀ u ∈ fl l, u.oneCell' = true := by
  intro u hu
  simp only [fl, List.mem_flatMap] at hu
  obtain ⟨a, _, ha⟩ := hu
  simp at ha
  rcases ha with rfl | rfl <;> rfl
theorem fl_take (l : List (Int × Nat)) : ∀ i, (fl l).take (i * 2) = fl (l.take i) := by
  induction l with
  | nil => intro i; simp [fl_nil]
  | cons a l ih =>
    intro i
    cases i with
    | zero => simp [fl_nil]
    | succ i => rw [show (i + 1) * 2 = i * 2 + 1 + 1 by omega, fl_cons, List.take_succ_cons, List.take_succ_cons, List.take_succ_cons, fl_cons, ih]
theorem fl_drop (l : List (Int × Nat)) : ∀ i, (fl l).drop (i * 2) = fl (l.drop i) := by
  induction l with
  | nil => intro i; simp [fl_nil]
  | cons a l ih =>
    intro i
    cases i with
    | zero => simp
    | succ i => rw [show (i + 1) * 2 = i * 2 + 1 + 1 by omega, fl_cons, List.drop_succ_cons, List.drop_succ_cons, List.drop_succ_cons, ih]

/-- the list with a at place i -/
def insAt (l : List (Int × Nat)) (i : Nat) (a : Int × Nat) : List (Int × Nat) := l.take i ++ a :: l.drop i

theorem insAt_end (l : List (Int × Nat)) (a : Int × Nat) : insAt l l.length a = l ++ [a] := by simp [insAt]

theorem blk_news {w : World} {vb : Nat} {a : Int × Nat} (hvb : w.heap[vb]? = some (.cells #[.int .i64 a.1, .float .f64 a.2] 90 (0,0))) :
    ∀ j u, (fl [a])[j]? = some u → w.cell? ((⟨vb, 0, none⟩ : Addr).add j) = some u := by
  intro j u hu
  rw [add_plain, cell_of_row w vb j _ _ _ hvb]
  simpa [fl] using hu

set_option maxHeartbeats 1000000 in
set_option maxRecDepth 100000 in
theorem insert_end (base : Nat) (v : Value) (l : List (Int × Nat)) (a : Int × Nat) (vb : Nat) (w : World) (hown : w.ownsRow base 90 2 v l.length (fl l))
    (hvb : w.heap[vb]? = some (.cells #[.int .i64 a.1, .float .f64 a.2] 90 (0,0))) (hbase : base ≤ w.heap.size) (hlen : l.length ≤ 1000) :
    Calls Try.prog 40 #[v, .int .i64 l.length, .slice (some ⟨vb, 0, none⟩) 1 1] w fun e w' => ∃ v', e = .returned v' ∧ w'.ownsRow base 90 2 v' (l.length + 1) (fl (insAt l l.length a)) ∧ w.grownBy w' v.ownBlock ∧
      (v'.ownBlock = v.ownBlock ∨ v'.ownBlock = some w.heap.size) := by
  have HN := Aside0.mk (blk_news hvb)
  have HO := Aside0.mk hown
  obtain ⟨i0, hi, hz0, hz1, hz2⟩ := info_parts Try.info90
  have HI := Aside0.mk (And.intro hi (And.intro hz0 (And.intro hz1 hz2)))
  clear hi hz0 hz1 hz2
  have hcase : ∃ A c, v = .slice A l.length c ∧ l.length ≤ c ∧ c ≤ maxLen := by
    rcases hown.2 with ⟨rfl, h0⟩ | ⟨g, cap, cur, rfl, _, _, h1, h2, _⟩
    · rw [h0]; exact ⟨_, _, rfl, Nat.zero_le _, Nat.zero_le _⟩
    · exact ⟨_, _, rfl, h1, h2⟩
  obtain ⟨A, c, rfl, hc, hc2⟩ := hcase
  unfold maxLen at hc2
  clear hvb hown
  have hfin : ∀ v' (w' : World), w'.ownsRow base 90 2 v' (l.length + 1) (fl l ++ fl [a]) → w'.ownsRow base 90 2 v' (l.length + 1) (fl (insAt l l.length a)) := by
    intro v' w' h; rw [insAt_end, fl_append]; exact h
  have HF := Aside0.mk hfin
  have HB := Aside0.mk (fl_length [a])
  clear hfin
  by_cases hcn : c = l.length
  · subst hcn
    go_enter Try.func40, Try.ntmps40
    go_wp2_with (at_builtin; refine wpList_append_own_at _ rfl _ _ 74 rfl base 90 i0 (.agg #[.int .i64 0, .float .f64 0]) 2 16 Try.underlying74 HI.out.1 HI.out.2.1 HI.out.2.2.1 HI.out.2.2.2 rfl (by decide) _ l.length (fl l) rfl HO.out ⟨vb, 0, none⟩ 1 1 (fl [a]) rfl ?q1 HN.out ?q2 ?q3 ?q4 ?q5 ?_)
    case q1 => rw [HB.out]; rfl
    case q2 => exact fl_one _
    case q3 => unfold maxLen; omega
    case q4 => omega
    case q5 => exact hbase
    intro v' w1 hown1 hgrow _ hat
    go_wp2
    go_ret
    exact ⟨v', rfl, HF.out _ _ hown1, hgrow, hat⟩
  · have hA : ∃ ad, A = some ad := by
      rcases HO.out.2 with ⟨h, h0⟩ | ⟨g, cap, cur, h, _⟩
      · injection h with h1 h2 h3; omega
      · injection h with h1 h2 h3; exact ⟨_, h1⟩
    obtain ⟨ad, rfl⟩ := hA
    go_enter Try.func40, Try.ntmps40
    go_wp2_with (at_builtin; refine wpList_append_own_at _ rfl _ _ 74 rfl base 90 i0 (.agg #[.int .i64 0, .float .f64 0]) 2 16 Try.underlying74 HI.out.1 HI.out.2.1 HI.out.2.2.1 HI.out.2.2.2 rfl (by decide) _ l.length (fl l) rfl HO.out ⟨vb, 0, none⟩ 1 1 (fl [a]) rfl ?q1 HN.out ?q2 ?q3 ?q4 ?q5 ?_)
    case q1 => rw [HB.out]; rfl
    case q2 => exact fl_one _
    case q3 => unfold maxLen; omega
    case q4 => omega
    case q5 => exact hbase
    intro v' w1 hown1 hgrow _ hat
    go_wp2
    go_ret
    exact ⟨v', rfl, HF.out _ _ hown1, hgrow, hat⟩
end Go.Proofs.Ytlokbaljkmblaaa
