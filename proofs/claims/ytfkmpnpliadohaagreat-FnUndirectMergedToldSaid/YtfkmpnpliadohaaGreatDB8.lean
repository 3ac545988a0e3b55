import Derived.Test.YtfkmpnpliadohaaGreatDB1
import Derived.Test.YtfkmpnpliadohaaGreatDA1
import Derived.Test.YtfkmpnpliadohaaGreatDB3
import Derived.Deep.RegionLawGrows
set_option linter.unusedVariables false
set_option linter.unusedSimpArgs false
/- A law of no program: append of whatever slice is read, the nil one too, onto a row of the call's own. -/
namespace Go.Lab
open Go.RowKit

/-- append(v, ys...), ys whatever is read, nil too. -/
theorem run_append_src {P : Program} (w : World) (base : Nat) (t ty e : TypeId) (i : TypeInfo) (z : Value) (size bytes : Nat) (ht : P.underlying t = some (.slice e)) (hi : P.info? e = some i) (hz : i.zero = some z)
    (hsize : i.size = size) (hby : i.bytes = bytes) (hzs : z.cells.size = size) (hsz : 0 < size)
    (v : Value) (n : Nat) (xs : List Value) (hown : w.ownsRow base e size v n xs)
    (A : Option Addr) (m c : Nat) (news : List Value) (hl : news.length = m * size) (hnews : 0 < m → ∃ ad, A = some ad ∧ ∀ j u, news[j]? = some u → w.cell? (ad.add j) = some u) (h1 : ∀ u ∈ news, u.oneCell' = true)
    (h63 : n + m ≤ maxLen) (hbytes : (n + m) * bytes ≤ 140737488355328) (hbase : base ≤ w.heap.size) :
    ∃ v' w', (Builtin.append_ #[t, t] ty #[v, .slice A m c]).run P w = .ok v' w' ∧ w'.ownsRow base e size v' (n + m) (xs ++ news) ∧ w.grownBy w' v.ownBlock ∧ (v'.ownBlock = v.ownBlock ∨ v'.ownBlock = some w.heap.size) := by
  cases A with
  | some ad =>
    have hn : ∀ j u, news[j]? = some u → w.cell? (ad.add j) = some u := by
      rcases Nat.eq_zero_or_pos m with h0 | h0
      · intro j u hu
        have : news = [] := List.eq_nil_of_length_eq_zero (by rw [hl, h0, Nat.zero_mul])
        rw [this] at hu; cases hu
      · obtain ⟨ad', e1, h⟩ := hnews h0
        injection e1 with e1; subst e1; exact h
    obtain ⟨v', w', h1, h2, h3, _, h4⟩ := run_append_own_at (P := P) w base t ty e i z size bytes ht hi hz hsize hby hzs hsz v n xs hown ad m c news hl hn h1 h63 hbytes hbase
    exact ⟨v', w', h1, h2, h3, h4⟩
  | none =>
    have hm : m = 0 := by
      rcases Nat.eq_zero_or_pos m with h0 | h0
      · exact h0
      · obtain ⟨ad', e1, _⟩ := hnews h0; cases e1
    subst hm
    have hnil : news = [] := List.eq_nil_of_length_eq_zero (by rw [hl, Nat.zero_mul])
    subst hnil
    have hv : ∃ B cp, v = .slice B n cp ∧ n ≤ cp := by
      rcases hown.2 with ⟨rfl, h0⟩ | ⟨g, cap, cur, rfl, _, _, h1, _⟩
      · subst h0; exact ⟨_, _, rfl, Nat.le_refl _⟩
      · exact ⟨_, _, rfl, h1⟩
    obtain ⟨B, cp, rfl, hcp⟩ := hv
    refine ⟨.slice B n cp, w, ?_, by simpa using hown, ⟨rfl, rfl, rfl, Nat.le_refl _, fun _ _ _ => rfl⟩, .inl rfl⟩
    cases B <;> simp [Builtin.append_, run_underlying ht, sizeOf, typeInfo, hi, Builtin.lenOf, Builtin.firstCells, hcp, storeCells]

theorem step_append_src {P : Program} {w : World} {ops : Array Oper} {o : Oper} {a : Act} {K : Act → World → Prop} {Q : Exit → Act → World → Prop} {E : Prop} (hgd : o.guard = none) (s x : Operand) (t : TypeId)
    (ho : o.op = .call { callee := .builtin .append, args := #[s, x], argTypes := #[t, t] })
    (base : Nat) (e : TypeId) (i : TypeInfo) (z : Value) (size bytes : Nat) (ht : P.underlying t = some (.slice e)) (hi : P.info? e = some i) (hz : i.zero = some z)
    (hsize : i.size = size) (hby : i.bytes = bytes) (hzs : z.cells.size = size) (hsz : 0 < size)
    (v : Value) (n : Nat) (xs : List Value) (hs : a.eval s = v) (hown : w.ownsRow base e size v n xs)
    (A : Option Addr) (m c : Nat) (news : List Value) (hx : a.eval x = .slice A m c) (hl : news.length = m * size) (hnews : 0 < m → ∃ ad, A = some ad ∧ ∀ j u, news[j]? = some u → w.cell? (ad.add j) = some u) (h1 : ∀ u ∈ news, u.oneCell' = true)
    (h63 : n + m ≤ maxLen) (hbytes : (n + m) * bytes ≤ 140737488355328) (hbase : base ≤ w.heap.size)
    (h : ∀ v' w', w'.ownsRow base e size v' (n + m) (xs ++ news) → w.grownBy w' v.ownBlock → (v'.ownBlock = v.ownBlock ∨ v'.ownBlock = some w.heap.size) → K (a.put o.dst v') w') :
    if Region.wanted o (yielded ops a.tmps) = true then Oper.wp P o a w K Q else E := by
  have hw : Region.wanted o (yielded ops a.tmps) = true := by simp [Region.wanted, hgd]
  rw [if_pos hw]
  obtain ⟨v', w', hr, h2, h3, h4⟩ := run_append_src (P := P) w base t o.type e i z size bytes ht hi hz hsize hby hzs hsz v n xs hown A m c news hl hnews h1 h63 hbytes hbase
  unfold Oper.wp execOp
  simp only [ho, resolve, invoke, builtin, Sem.run_bind, Sem.run_pure, Result.andThen_ok, List.map_toArray, List.map_cons, List.map_nil, hs, hx, hr]
  exact h v' w' h2 h3 h4

end Go.Lab

set_option linter.unusedVariables false
set_option linter.unusedSimpArgs false
/- spec.sortInts: it sorts. -/
namespace Go.Proofs.YtfkmpnpliadohaaGreat.Q
open Go.RowKit Go.Lab Go.Proofs.YtfkmpnpliadohaaGreatW.PrintWords Go.Proofs.YtfkmpnpliadohaaGreatW.PrintLast Go.Proofs.YtfkmpnpliadohaaGreatW.PrintMore

/-- where a number goes in -/
def cutAt (x : Int) (l : List Int) : Nat → Nat
  | 0 => 0
  | k + 1 => if x < l.getD k 0 then cutAt x l k else k + 1
theorem cutAt_le (x : Int) (l : List Int) : ∀ n, cutAt x l n ≤ n
  | 0 => Nat.le_refl _
  | k + 1 => by unfold cutAt; split; have := cutAt_le x l k; omega; omega
theorem cutAt_above (x : Int) (l : List Int) : ∀ n j, cutAt x l n ≤ j → j < n → x < l.getD j 0
  | 0, j, _, h => by omega
  | k + 1, j, h1, h2 => by
    unfold cutAt at h1
    split at h1
    · rcases Nat.lt_or_ge j k with h3 | h3
      · exact cutAt_above x l k j h1 h3
      · have : j = k := by omega
        subst this; assumption
    · omega
theorem cutAt_below (x : Int) (l : List Int) : ∀ n, 0 < cutAt x l n → l.getD (cutAt x l n - 1) 0 ≤ x
  | 0, h => by unfold cutAt at h; omega
  | k + 1, h => by
    unfold cutAt at h ⊢
    by_cases hx : x < l.getD k 0
    · rw [if_pos hx] at h ⊢
      exact cutAt_below x l k h
    · rw [if_neg hx, Nat.add_sub_cancel]
      omega
def insS (x : Int) (l : List Int) : List Int := l.take (cutAt x l l.length) ++ x :: l.drop (cutAt x l l.length)
theorem insS_perm (x : Int) (l : List Int) : (insS x l).Perm (x :: l) := by
  unfold insS
  refine List.perm_middle.trans ?_
  rw [List.take_append_drop]
theorem insS_le (x : Int) (l : List Int) (h : l.Pairwise (· ≤ ·)) : (insS x l).Pairwise (· ≤ ·) := by
  unfold insS
  have hk := cutAt_le x l l.length
  have ha := cutAt_above x l l.length
  have hb := cutAt_below x l l.length
  generalize cutAt x l l.length = k at hk ha hb
  have hg : ∀ j (hj : j < l.length), l.getD j 0 = l[j] := fun j hj => by simp [List.getD_eq_getElem?_getD, hj]
  have hp := List.pairwise_iff_getElem.1 h
  rw [List.pairwise_append]
  refine ⟨h.sublist (List.take_sublist _ _), ?_, ?_⟩
  · rw [List.pairwise_cons]
    refine ⟨fun y hy => ?_, h.sublist (List.drop_sublist _ _)⟩
    obtain ⟨i, hi, rfl⟩ := List.getElem_of_mem hy
    rw [List.getElem_drop]
    rw [List.length_drop] at hi
    have := ha (k + i) (by omega) (by omega)
    rw [hg _ (by omega)] at this
    omega
  · intro a h1 b h2
    obtain ⟨i, hi, rfl⟩ := List.getElem_of_mem h1
    rw [List.length_take] at hi
    rw [List.getElem_take]
    have h3 : l[i] ≤ x := by
      have := hb (by omega)
      rw [hg _ (by omega)] at this
      rcases Nat.lt_or_ge i (k - 1) with h4 | h4
      · have := hp i (k - 1) (by omega) (by omega) h4
        omega
      · have : i = k - 1 := by omega
        subst this; assumption
    rcases List.mem_cons.1 h2 with rfl | h2
    · exact h3
    · obtain ⟨j, hj, rfl⟩ := List.getElem_of_mem h2
      rw [List.getElem_drop]
      rw [List.length_drop] at hj
      exact hp _ _ (by omega) (by omega) (by omega)
/-- all of them, one after the other -/
def insAll (l : List Int) : List Int := l.foldl (fun a x => insS x a) []
theorem insAll_step (l : List Int) (k : Nat) (hk : k < l.length) : insAll (l.take (k + 1)) = insS l[k] (insAll (l.take k)) := by
  unfold insAll
  rw [List.take_succ_eq_append_getElem hk, List.foldl_append]
  rfl
theorem insAll_go : ∀ (l a : List Int), a.Pairwise (· ≤ ·) → (l.foldl (fun a x => insS x a) a).Pairwise (· ≤ ·) ∧ (l.foldl (fun a x => insS x a) a).Perm (l ++ a)
  | [], a, h => ⟨h, List.Perm.refl _⟩
  | x :: l, a, h => by
    obtain ⟨h1, h2⟩ := insAll_go l (insS x a) (insS_le x a h)
    refine ⟨h1, h2.trans ?_⟩
    refine ((insS_perm x a).append_left l).trans ?_
    exact List.perm_middle
theorem insAll_perm (l : List Int) : (insAll l).Perm l := by
  have := (insAll_go l [] List.Pairwise.nil).2
  rwa [List.append_nil] at this
theorem insAll_length (l : List Int) : (insAll l).length = l.length := (insAll_perm l).length_eq
theorem insAll_srt (l : List Int) : insAll l = srt l := by
  have h1 := (insAll_go l [] List.Pairwise.nil).1
  have h2 := srt_le l
  exact List.Perm.eq_of_pairwise (le := fun a b : Int => a ≤ b) (fun a b _ _ h3 h4 => by omega) h1 h2 ((insAll_perm l).trans (srt_perm l).symm)


theorem one_lit (w : World) (x : Int) {base : Nat} (hb : base ≤ w.heap.size) : (w.alloc (.cells #[.int .i64 x] 3)).ownsRow base 3 1 (.slice (some ⟨w.heap.size, 0, none⟩) 1 1) 1 (nums .i64 [x]) :=
  World.ownsRow_lit w #[.int .i64 x] 1 hb (by unfold maxLen; omega) (by simp)
theorem nums_one (xs : List Int) : ∀ u ∈ nums .i64 xs, u.oneCell' = true := by
  intro u hu
  unfold nums at hu
  obtain ⟨y, _, rfl⟩ := List.mem_map.1 hu
  rfl
theorem sl_cells {w : World} {base : Nat} {V : Option Addr} {k C : Nat} {acc : List Int} (h : w.ownsRow base 3 1 (.slice V k C) k (nums .i64 acc)) (hl : acc.length = k) :
    (V = none ∧ k = 0 ∧ C = 0) ∨ ∃ g, V = some ⟨g, 0, none⟩ ∧ k ≤ C ∧ base ≤ g ∧ g < w.heap.size ∧ ∀ j, j < k → w.cell? ⟨g, j, none⟩ = some (.int .i64 (acc.getD j 0)) := by
  rcases h.2 with ⟨h1, h2⟩ | ⟨g, cap, cur, h1, hb1, hg, hc1, hc2, hcs, htk⟩
  · injection h1 with h3 _ h4
    exact .inl ⟨h3, h2, h4⟩
  · injection h1 with h3 _ h4
    subst h3 h4
    refine .inr ⟨g, rfl, hc1, hb1, blk_lt hg, fun j hj => ?_⟩
    rw [blk_cell hg]
    have h5 : (cur.toList.take (k * 1))[j]? = some (.int .i64 (acc.getD j 0)) := by
      rw [htk]
      have : j < acc.length := by omega
      simp [nums, this]
    rw [List.getElem?_take] at h5
    split at h5
    · simpa using h5
    · cases h5
theorem add_off (g o j : Nat) : (⟨g, o, none⟩ : Addr).add j = ⟨g, o + j, none⟩ := by
  unfold Addr.add
  split
  · next h => have : j = 0 := by simpa using h
              subst this; rfl
  · rfl
/-- what a piece of a row reads: from q on -/
theorem sl_src {w : World} {base : Nat} {V : Option Addr} {k C q : Nat} {acc : List Int} (h : w.ownsRow base 3 1 (.slice V k C) k (nums .i64 acc)) (hl : acc.length = k) (hq : q ≤ k) :
    0 < k - q → ∃ ad, (if C = q then V else V.map (fun x => x.add q)) = some ad ∧ ∀ j u, (nums .i64 (acc.drop q))[j]? = some u → w.cell? (ad.add j) = some u := by
  intro h0
  rcases sl_cells h hl with ⟨rfl, h1, h2⟩ | ⟨g, rfl, h1, _, _, h2⟩
  · omega
  · rw [if_neg (by omega)]
    refine ⟨⟨g, q, none⟩, by simp [add_off], fun j u hu => ?_⟩
    unfold nums at hu
    rw [List.getElem?_map, List.getElem?_drop] at hu
    obtain ⟨y, hy, rfl⟩ := Option.map_eq_some_iff.1 hu
    obtain ⟨hj, rfl⟩ := List.getElem?_eq_some_iff.1 hy
    have := h2 (q + j) (by omega)
    simpa [add_off, List.getD_eq_getElem?_getD, hj] using this
/-- what a piece of a row reads: up to q -/
theorem sl_dst {w : World} {base : Nat} {V : Option Addr} {k C q : Nat} {acc : List Int} (h : w.ownsRow base 3 1 (.slice V k C) k (nums .i64 acc)) (hl : acc.length = k) (hq : q ≤ k) :
    (V = none → q = 0 ∧ q = 0) ∧ ∀ b, V = some b → ∀ j u, (nums .i64 (acc.take q))[j]? = some u → w.cell? (b.add j) = some u := by
  rcases sl_cells h hl with ⟨rfl, h1, h2⟩ | ⟨g, rfl, h1, _, _, h2⟩
  · refine ⟨fun _ => ⟨by omega, by omega⟩, fun b hb => ?_⟩
    simp at hb
  · refine ⟨fun hn => (by cases hn), fun b hb j u hu => ?_⟩
    injection hb with hb
    subst hb
    unfold nums at hu
    rw [List.getElem?_map, List.getElem?_take] at hu
    split at hu
    · obtain ⟨y, hy, rfl⟩ := Option.map_eq_some_iff.1 hu
      obtain ⟨hj, rfl⟩ := List.getElem?_eq_some_iff.1 hy
      have := h2 j (by omega)
      simpa [add_off, List.getD_eq_getElem?_getD, hj] using this
    · cases hu
/-- a row that is not empty -/
theorem own_some {w : World} {base n : Nat} {v : Value} {xs : List Value} (h : w.ownsRow base 3 1 v n xs) (hn : 0 < n) : ∃ g c, v = .slice (some ⟨g, 0, none⟩) n c ∧ ∀ j u, xs[j]? = some u → w.cell? ((⟨g, 0, none⟩ : Addr).add j) = some u := by
  rcases h.2 with ⟨_, h2⟩ | ⟨g, cap, cur, h1, hb1, hg, hc1, hc2, hcs, htk⟩
  · omega
  · refine ⟨g, cap, h1, fun j u hu => ?_⟩
    rw [add_off, blk_cell hg, ← htk] at *
    rw [List.getElem?_take] at hu
    split at hu
    · simpa using hu
    · cases hu
theorem own_far {wr w4 : World} {o : Obj} (hg : ((wr.alloc o).drew).grownBy w4 (some wr.heap.size)) {base n : Nat} {v : Value} {xs : List Value} (h : wr.ownsRow base 3 1 v n xs) : w4.ownsRow base 3 1 v n xs := by
  refine own_of_heap h fun k hk => ?_
  obtain ⟨c, hc⟩ := own_block h hk
  have hlt := blk_lt hc
  obtain ⟨_, _, _, _, hg5⟩ := hg
  have h1 := hg5 k (by show k < (wr.alloc o).heap.size; simp; omega) (by intro e; injection e; omega)
  rw [h1]
  exact Below.heap_alloc wr o k hlt
theorem below_two {w wr w4 w5 : World} {o : Obj} (hb : Below w.heap.size w wr) (hg : ((wr.alloc o).drew).grownBy w4 (some wr.heap.size)) (hg5 : w4.grownBy w5 none) : Below w.heap.size w w5 := by
  have h1 := (hb.alloc hb.size o).drew
  have h2 := h1.grown hg h1.size (fun k hk => by injection hk with hk; have := hb.size; omega)
  exact h2.grown hg5 h2.size (fun k hk => by cases hk)
theorem insS_nums (x : Int) (acc : List Int) (q : Nat) (hq : cutAt x acc acc.length = q) : nums .i64 (acc.take q) ++ (nums .i64 [x] ++ nums .i64 (acc.drop q)) = nums .i64 (insS x acc) := by
  unfold insS
  rw [hq, nums_append]
  rfl

set_option maxHeartbeats 8000000 in
set_option maxRecDepth 100000 in
theorem sortInts_any (A0 : Option Addr) (c0 : Nat) (xs : List Int) (w : World) (h : Kd.C (Kd.int .i64) w A0 xs.length xs) (hc : xs.length ≤ c0) (hb : xs.length ≤ 100000) :
    Calls Tryz.prog 108 #[.slice A0 xs.length c0] w fun e w' => ∃ v, e = .returned v ∧ w'.ownsRow w.heap.size 3 1 v xs.length (nums .i64 (insAll xs)) ∧ Below w.heap.size w w' := by
  have HC := Aside0.mk h
  obtain ⟨i0, hi, hz0, hz1, hz2⟩ := info_parts Tryz.info3
  have HI := Aside0.mk (And.intro hi (And.intro hz0 (And.intro hz1 hz2)))
  have hil := insAll_length xs
  clear h hi hz0 hz1 hz2
  go_enter Tryz.func108, Tryz.ntmps108
  go_wp2
  go_loopw [3, 9] (fun v i wr => ∃ V C k, v = .slice V k C ∧ k ≤ xs.length ∧ i = .int .i64 k ∧ Aside0 (wr.ownsRow w.heap.size 3 1 (.slice V k C) k (nums .i64 (insAll (xs.take k))) ∧ Below w.heap.size w wr)) (fun _ i _ => xs.length - (intOf i).toNat)
  case atStart => exact ⟨none, 0, 0, rfl, Nat.zero_le _, rfl, ⟨⟨rfl, .inl ⟨rfl, rfl⟩⟩, Below.refl _ _⟩⟩
  case round =>
    obtain ⟨V, C, k, rfl, hk, rfl, HR⟩ := hrel
    by_cases hlt : k < xs.length
    · obtain ⟨ad, rfl, hcx⟩ := C_int_at (Kd.C_below HC.out HR.out.2) k hlt
      have hge : xs.getD k 0 = xs[k] := by simp [List.getD_eq_getElem?_getD, hlt]
      rw [hge] at hcx
      have HS := Aside0.mk (insAll_step xs k hlt)
      have HT := Aside0.mk (show (insAll (xs.take k)).length = k by rw [insAll_length, List.length_take]; omega)
      generalize xs[k] = x at hcx HS
      generalize insAll (xs.take k) = acc at HS HT HR
      clear hge
      go_upto_region 6 with fail
      go_loop [6] (fun t => ∃ q : Nat, t = .int .i64 q ∧ q ≤ k ∧ Aside0 (cutAt x acc q = cutAt x acc k)) (fun t => (intOf t).toNat)
      case atStart => exact ⟨k, rfl, Nat.le_refl _, ⟨rfl⟩⟩
      case round =>
        obtain ⟨q, rfl, hqk, HQ⟩ := hrel
        rcases Nat.eq_zero_or_pos q with h0 | h0
        · have hd : ¬ ((0 : Int) < (q : Int)) := by omega
          have HQ2 : Aside0 (cutAt x acc k = q) := ⟨by have := HQ.out; rw [h0] at this ⊢; exact this.symm⟩
          clear HQ h0
          go_upto_region 8 with fail
          · clear hd
            have hbw := HR.out.2.size
            have hqC : (q : Int) ≤ (C : Int) := by
              rcases sl_cells HR.out.1 HT.out with ⟨_, h1, h2⟩ | ⟨_, _, h2, _⟩ <;> omega
            have hq0 : (0 : Int) ≤ (q : Int) := by omega
            have hqq : (q : Int) ≤ (q : Int) := by omega
            have hqk' : (q : Int) ≤ (k : Int) := by omega
            go_region_held3 (fun w' => True) (trivial)
              (first
                | (refine step_append_src (by rfl) _ _ _ (by rfl) w.heap.size 3 i0 _ 1 8 Tryz.underlying22 HI.out.1 HI.out.2.1 HI.out.2.2.1 HI.out.2.2.2 rfl (by omega) (.slice (some ⟨wr.heap.size, 0, none⟩) 1 1) 1 (nums .i64 [x]) (by rfl) (by exact own_of_heap (one_lit wr x hbw) (fun _ _ => rfl)) _ _ _ (nums .i64 (acc.drop q)) (by rfl) (by have := HT.out; rw [nums_length, List.length_drop]; omega) (by exact sl_src ((HR.out.1.alloc _).drew) HT.out (by omega)) (nums_one _) (by unfold maxLen; omega) (by omega) (by simp; omega) ?_; intro v4 w4 hown4 hgr4 hat4; obtain ⟨g4, c4, rfl, hcell4⟩ := own_some hown4 (by omega))
                | (refine step_append_grows (by rfl) _ _ _ (by rfl) 3 i0 _ 1 8 Tryz.underlying22 HI.out.1 HI.out.2.1 HI.out.2.2.1 HI.out.2.2.2 rfl (by omega) V q q (nums .i64 (acc.take q)) (by rfl) (by exact (sl_dst HR.out.1 HT.out hqk).1) (by have := HT.out; rw [nums_length, List.length_take]; omega) (by exact (sl_dst (own_far hgr4 HR.out.1) HT.out hqk).2) ⟨g4, 0, none⟩ (1 + (k - q)) c4 (nums .i64 [x] ++ nums .i64 (acc.drop q)) (by rfl) (by have := HT.out; rw [List.length_append, nums_length, nums_length, List.length_drop, List.length_singleton]; omega) (by exact hcell4) (by intro u hu; rcases List.mem_append.1 hu with hu | hu; exact nums_one _ u hu; exact nums_one _ u hu) (by omega) (by unfold maxLen; omega) (by omega) ?_; intro v5 w5 hown5 hgr5; rw [insS_nums x acc q (by rw [HT.out]; exact HQ2.out), show q + (1 + (k - q)) = k + 1 from by omega] at hown5; obtain ⟨V5, C5, rfl⟩ := own_slice hown5))
            go_wp2
            exact ⟨⟨V5, C5, k + 1, rfl, by omega, by simp, ⟨by rw [HS.out]; exact own_weaken hown5 (below_two HR.out.2 hgr4 ⟨rfl, rfl, rfl, Nat.le_refl _, fun _ _ _ => rfl⟩).size, below_two HR.out.2 hgr4 hgr5⟩⟩, by simp [intOf]; omega⟩
        · obtain ⟨p, rfl⟩ : ∃ p, q = p + 1 := ⟨q - 1, by omega⟩
          clear h0
          obtain ⟨y, hy⟩ : ∃ y, acc.getD p 0 = y := ⟨_, rfl⟩
          have HY := Aside0.mk hy
          obtain ⟨g, hVg, hcq⟩ : ∃ g, V = some ⟨g, 0, none⟩ ∧ wr.cell? ⟨g, p, none⟩ = some (.int .i64 y) := by
            rcases sl_cells HR.out.1 HT.out with ⟨_, h1, _⟩ | ⟨g, h1, _, _, _, h2⟩
            · omega
            · exact ⟨g, h1, by rw [← hy]; exact h2 p (by omega)⟩
          have HVg := Aside0.mk hVg
          subst hVg
          clear hy
          have hcut : cutAt x acc (p + 1) = if x < acc.getD p 0 then cutAt x acc p else p + 1 := rfl
          have HQ1 := HQ.out
          rw [hcut, HY.out] at HQ1
          by_cases hx : x < y
          · rw [if_pos hx] at HQ1
            have HQ2 := Aside0.mk HQ1
            clear HQ1 hcut HQ HY
            have hx' : decide (x < y) = true := by simpa using hx
            go_wp2
            exact ⟨⟨p, rfl, by omega, HQ2⟩, by simp [intOf]⟩
          · rw [if_neg hx] at HQ1
            have HQ2 : Aside0 (cutAt x acc k = p + 1) := ⟨HQ1.symm⟩
            clear HQ1 hcut HQ HY
            have hx' : decide (x < y) = false := by simpa using hx
            go_upto_region 8 with fail
            clear hx hx' hcq
            generalize p + 1 = q at *
            generalize (some ⟨g, 0, none⟩ : Option Addr) = V at *
            have hbw := HR.out.2.size
            have hqC : (q : Int) ≤ (C : Int) := by
              rcases sl_cells HR.out.1 HT.out with ⟨_, h1, h2⟩ | ⟨_, _, h2, _⟩ <;> omega
            have hq0 : (0 : Int) ≤ (q : Int) := by omega
            have hqq : (q : Int) ≤ (q : Int) := by omega
            have hqk' : (q : Int) ≤ (k : Int) := by omega
            go_region_held3 (fun w' => True) (trivial)
              (first
                | (refine step_append_src (by rfl) _ _ _ (by rfl) w.heap.size 3 i0 _ 1 8 Tryz.underlying22 HI.out.1 HI.out.2.1 HI.out.2.2.1 HI.out.2.2.2 rfl (by omega) (.slice (some ⟨wr.heap.size, 0, none⟩) 1 1) 1 (nums .i64 [x]) (by rfl) (by exact own_of_heap (one_lit wr x hbw) (fun _ _ => rfl)) _ _ _ (nums .i64 (acc.drop q)) (by rfl) (by have := HT.out; rw [nums_length, List.length_drop]; omega) (by exact sl_src ((HR.out.1.alloc _).drew) HT.out (by omega)) (nums_one _) (by unfold maxLen; omega) (by omega) (by simp; omega) ?_; intro v4 w4 hown4 hgr4 hat4; obtain ⟨g4, c4, rfl, hcell4⟩ := own_some hown4 (by omega))
                | (refine step_append_grows (by rfl) _ _ _ (by rfl) 3 i0 _ 1 8 Tryz.underlying22 HI.out.1 HI.out.2.1 HI.out.2.2.1 HI.out.2.2.2 rfl (by omega) V q q (nums .i64 (acc.take q)) (by rfl) (by exact (sl_dst HR.out.1 HT.out hqk).1) (by have := HT.out; rw [nums_length, List.length_take]; omega) (by exact (sl_dst (own_far hgr4 HR.out.1) HT.out hqk).2) ⟨g4, 0, none⟩ (1 + (k - q)) c4 (nums .i64 [x] ++ nums .i64 (acc.drop q)) (by rfl) (by have := HT.out; rw [List.length_append, nums_length, nums_length, List.length_drop, List.length_singleton]; omega) (by exact hcell4) (by intro u hu; rcases List.mem_append.1 hu with hu | hu; exact nums_one _ u hu; exact nums_one _ u hu) (by omega) (by unfold maxLen; omega) (by omega) ?_; intro v5 w5 hown5 hgr5; rw [insS_nums x acc q (by rw [HT.out]; exact HQ2.out), show q + (1 + (k - q)) = k + 1 from by omega] at hown5; obtain ⟨V5, C5, rfl⟩ := own_slice hown5))
            go_wp2
            exact ⟨⟨V5, C5, k + 1, rfl, by omega, by simp, ⟨by rw [HS.out]; exact own_weaken hown5 (below_two HR.out.2 hgr4 ⟨rfl, rfl, rfl, Nat.le_refl _, fun _ _ _ => rfl⟩).size, below_two HR.out.2 hgr4 hgr5⟩⟩, by simp [intOf]; omega⟩
    · have hk1 : k = xs.length := by omega
      subst hk1
      rw [List.take_length] at HR
      have hx' : ¬ ((xs.length : Int) < (xs.length : Int)) := by omega
      go_wp2
      go_ret
      exact ⟨_, rfl, HR.out.1, HR.out.2⟩
end Go.Proofs.YtfkmpnpliadohaaGreat.Q

namespace Go.Proofs.YtfkmpnpliadohaaGreat.PL
open Go.RowKit Go.Lab Go.Proofs.YtfkmpnpliadohaaGreatW.PrintWords Go.Proofs.YtfkmpnpliadohaaGreatW.PrintLast Go.Proofs.YtfkmpnpliadohaaGreatW.PrintMore Go.Proofs.YtfkmpnpliadohaaGreat.Q
def spec_sortInts.f (l0 : List Int) : Option (List Int) := if l0.length ≤ 100000 then some (srt l0) else none
theorem spec_sortInts.calls (A0 : Option Addr) (c0 : Nat) (l0 : List Int) (r : List Int) (w : World) (hr0 : Kd.C (Kd.int .i64) w A0 l0.length l0) (hc0 : l0.length ≤ c0) (h : spec_sortInts.f l0 = some r) :
    Calls Tryz.prog 108 #[.slice A0 l0.length c0] w fun e w' => ∃ v0_ : Value, e = .returned (v0_) ∧ Kd.R (Kd.int .i64) 3 w' w.heap.size (fun _ => True) v0_ r ∧ Below w.heap.size w w' := by
  unfold spec_sortInts.f at h
  split at h
  · injection h with h
    subst h
    refine (sortInts_any A0 c0 l0 w hr0 hc0 (by assumption)).mono ?_
    rintro e w' ⟨v, rfl, ho, hb⟩
    refine ⟨v, rfl, R_of_ints ?_, hb⟩
    rw [insAll_srt] at ho
    rw [srt_length]
    exact ho
  · cases h
end Go.Proofs.YtfkmpnpliadohaaGreat.PL
