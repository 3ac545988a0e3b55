import Derived.Test.YtgiebjihceggjaaF
import Derived.Deep.CutRange
set_option linter.unusedVariables false
set_option linter.unusedSimpArgs false
namespace Go.Proofs.Ytgiebjihceggjaa
open Go.RowKit Go.Proofs.YtgiebjihceggjaaW.PrintWords Go.Proofs.YtgiebjihceggjaaW.PrintLast Go.Proofs.YtgiebjihceggjaaW.PrintMore

theorem ids_cell {w : World} {b2 n c : Nat} {A : Option Addr} {xs : List Int} (h : w.ownsRow b2 2 1 (.slice A n c) n (nums .i64 xs)) (i : Nat) (hi : i < n) : ∃ ad, A = some ad ∧ w.cell? (ad.add i) = some (.int .i64 (xs.getD i 0)) := by
  obtain ⟨A', c', e, hr⟩ := own_reads h
  injection e with e1 e2 e3
  subst e1
  exact C_int_at (Kd.C_of_reads hr) i hi

/-- the state of Tree behind the edges to the numbers ahead of place j -/
structure TrSt (w wr : World) (base bp b2 : Nat) (d : Bool) (n : Nat) (A : Option Addr) (c : Nat) (xs : List Int) (j : Nat) (ve : Value) : Prop where
  bld : Bld wr base bp d (.slice none 0 0) [] ve ((treeE n xs).take (j - 1))
  ids : wr.ownsRow b2 2 1 (.slice A xs.length c) xs.length (nums .i64 xs)
  bel : Below base w wr

def TrOk (w wr : World) (base bp b2 : Nat) (d : Bool) (n : Nat) (A : Option Addr) (c : Nat) (xs : List Int) (j : Nat) : Prop := ∃ ve, TrSt w wr base bp b2 d n A c xs j ve

theorem TrOk.below {w wr w1 : World} {base bp b2 : Nat} {d : Bool} {n : Nat} {A : Option Addr} {c : Nat} {xs : List Int} {j : Nat} (h : TrOk w wr base bp b2 d n A c xs j) (hb : Below wr.heap.size wr w1) : TrOk w w1 base bp b2 d n A c xs j := by
  obtain ⟨ve, h⟩ := h
  have h1 : base ≤ wr.heap.size := Nat.le_trans h.bld.hb (Nat.le_of_lt (blk_lt h.bld.blk))
  exact ⟨ve, h.bld.below hb, pw_own_below h.ids hb, h.bel.trans (hb.mono h1)⟩

theorem TrOk.cell {w wr : World} {base bp b2 : Nat} {d : Bool} {n : Nat} {A : Option Addr} {c : Nat} {xs : List Int} {j : Nat} (h : TrOk w wr base bp b2 d n A c xs j) : wr.cell? ⟨bp, 1, none⟩ = some (.slice none 0 0) ∧ bp < wr.heap.size := by
  obtain ⟨ve, h⟩ := h
  exact ⟨by rw [blk_cell h.bld.blk]; rfl, blk_lt h.bld.blk⟩

theorem TrOk.id {w wr : World} {base bp b2 : Nat} {d : Bool} {n : Nat} {A : Option Addr} {c : Nat} {xs : List Int} {j : Nat} (h : TrOk w wr base bp b2 d n A c xs j) (i : Nat) (hi : i < xs.length) : ∃ ad, A = some ad ∧ wr.cell? (ad.add i) = some (.int .i64 (xs.getD i 0)) := by
  obtain ⟨ve, h⟩ := h
  exact ids_cell h.ids i hi

theorem TrOk.setEdge {w wr : World} {base bp b2 : Nat} {d : Bool} {n : Nat} {A : Option Addr} {c : Nat} {xs : List Int} {j i : Nat} (h : TrOk w wr base bp b2 d n A c xs j) (hj : 1 ≤ j) (hl : j < xs.length) (hi : (j - 1) / n = i) (hb : xs.length ≤ 1000)
    {u v : Int} (hu : u = xs.getD i 0) (hv : v = xs.getD j 0) :
    Calls Try.prog 83 #[.pointer (some ⟨bp, 0, none⟩), edgeV (u, v)] wr fun e w' => e = .returned (.tuple #[]) ∧ TrOk w w' base bp b2 d n A c xs (j + 1) := by
  obtain ⟨ve, h⟩ := h
  refine (setEdge_any base bp d _ [] ve _ u v wr h.bld (by rw [List.length_take, treeE_length]; omega)).mono ?_
  rintro e w' ⟨rfl, ve', hb', hk, hbb⟩
  refine ⟨rfl, ve', ?_, hk.own h.ids, h.bel.trans hbb⟩
  rw [Nat.add_sub_cancel, treeE_snoc n xs j i hj hl hi, ← hu, ← hv]
  exact hb'

theorem newEdge_n (bp : Option Addr) (u v : Int) (w : World) :
    Calls Try.prog 81 #[.pointer bp, nodeV u, nodeV v] w fun e w' => e = .returned (edgeV (u, v)) ∧ w = w' := newEdge_any bp u v w

set_option maxHeartbeats 16000000 in
set_option maxRecDepth 100000 in
theorem treeN (base bp b2 : Nat) (d : Bool) (n : Nat) (A : Option Addr) (c : Nat) (xs : List Int) (w : World) (h : Bld w base bp d (.slice none 0 0) [] (.slice none 0 0) [])
    (hi : w.ownsRow b2 2 1 (.slice A xs.length c) xs.length (nums .i64 xs)) (hl : 2 ≤ xs.length) (hb : xs.length ≤ 1000) (hn1 : 1 ≤ n) (hn2 : n < xs.length) (hnd : xs.Nodup) (hw : ∀ x ∈ xs, (Lit.int .i64 x).wf = true) :
    Calls Try.prog 9 #[.iface 35 (.pointer (some ⟨bp, 0, none⟩)), .int .i64 n, .iface 42 (.slice A xs.length c)] w fun e w' => e = .returned (.tuple #[]) ∧ ∃ ve, Bld w' base bp d (.slice none 0 0) [] ve (treeE n xs) ∧ Below base w w' := by
  have m1 := meth_Len A xs.length c
  have m2 := meth_IDs A xs.length c
  have m3 := meth_NodeWithID ⟨bp, 0, none⟩
  have m4 := meth_NewEdge ⟨bp, 0, none⟩
  have m5 := meth_SetEdge ⟨bp, 0, none⟩
  have m6 := nil_Node ⟨bp, 0, none⟩
  have m7 := nil_SetEdge ⟨bp, 0, none⟩
  have hC : Kd.C (Kd.int .i64) w A xs.length xs := by
    obtain ⟨A', c', e, hr⟩ := own_reads hi
    injection e with e1 e2 e3
    subst e1
    exact Kd.C_of_reads hr
  have HCK := Aside0.mk (check_ok A c xs w hC hnd hb hw)
  have HT := Aside0.mk (show TrOk w w base bp b2 d n A c xs 0 from ⟨_, by simpa using h, hi, Below.refl _ _⟩)
  have hl0 : ((xs.length : Int) == 0) = false := by rw [beq_eq_false_iff_ne]; omega
  have hl1 : ((xs.length : Int) == 1) = false := by rw [beq_eq_false_iff_ne]; omega
  have hn3 : decide ((n : Int) < 1) = false := decide_eq_false (by omega)
  have hn4 : decide ((xs.length : Int) ≤ (n : Int)) = false := decide_eq_false (by omega)
  clear h hi hw hnd hC
  go_enter Try.func9, Try.ntmps9
  go_wp2_with (first
    | (go_at_call 88; refine (len_any _ _ _ _).mono ?_; rintro e w1 ⟨rfl, rfl⟩)
    | (go_at_call 20; refine HCK.out.mono ?_; rintro e w1 ⟨rfl, hbel⟩; have HT1 := Aside0.mk (HT.out.below hbel); clear hbel))
  go_loopw [9, 10] (fun t9 t10 wr => ∃ i j : Nat, t9 = .int .i64 j ∧ t10 = .int .i64 i ∧ j ≤ xs.length ∧ (j < xs.length → (i = 0 ∧ j = 0) ∨ (1 ≤ i ∧ j = n * i + 1)) ∧ Aside0 (TrOk w wr base bp b2 d n A c xs j)) (fun t9 _ _ => xs.length - (intOf t9).toNat)
  case atStart => exact ⟨0, 0, rfl, rfl, Nat.zero_le _, fun _ => .inl ⟨rfl, rfl⟩, HT1⟩
  case round =>
    clear HT HCK HT1
    obtain ⟨i, j, rfl, rfl, hj, hij, HR⟩ := hrel
    by_cases hlt : j < xs.length
    · have hij' := hij hlt
      obtain ⟨m, hm⟩ : ∃ m, m = n * i := ⟨_, rfl⟩
      have him : i ≤ m := by rw [hm]; exact Nat.le_mul_of_pos_left _ hn1
      have hmi : (n : Int) * (i : Int) = (m : Int) := by rw [hm]; simp
      rw [← hm] at hij'
      have hjm : j ≤ m + 1 := by omega
      have hilt : i < xs.length := by omega
      have hmlt : m < xs.length := by
        rcases hij' with ⟨h1, h2⟩ | ⟨h1, h2⟩
        · subst h1; simp at hm; omega
        · omega
      have hj0 : j = 0 ∨ j = m + 1 := by omega
      have HT := Aside0.mk (show TrOk w wr base bp b2 d n A c xs (m + 1) by
        rcases hij' with ⟨h1, h2⟩ | ⟨h1, h2⟩
        · have hm0 : m = 0 := by rw [hm, h1]; simp
          rw [h2] at HR
          rw [hm0]
          obtain ⟨ve, h⟩ := HR.out
          exact ⟨ve, by simpa using h.bld, h.ids, h.bel⟩
        · rw [← h2]; exact HR.out)
      have HM := Aside0.mk hm
      have HJ := Aside0.mk hj0
      clear hij hij' hm hj0
      obtain ⟨ad, rfl, hc⟩ := HT.out.id i hilt
      obtain ⟨hp, hbz⟩ := HT.out.cell
      have hadz := World.block_lt_of_cell? _ _ hc
      generalize hu : xs.getD i 0 = u at hc
      have HU := Aside0.mk hu
      clear hu HR
      have hc1 : wr.drew.cell? (ad.add i) = some (.int .i64 u) := hc
      have hp1 : wr.drew.cell? ⟨bp, 1, none⟩ = some (.slice none 0 0) := hp
      go_upto_region 15 with (go_at_call 88; refine (len_any _ _ _ _).mono ?_; rintro e w1 ⟨rfl, rfl⟩)
      go_cut [11] from 49 to 104 (fun s11 w' => s11 = nodeV u ∧ Aside0 (TrOk w w' base bp b2 d n (some ad) c xs (m + 1)))
      case first =>
        go_region_held3 (fun w' => w'.cell? ⟨bp, 1, none⟩ = some (.slice none 0 0))
          (first | go_keep | (rw [hbel.cell (p := ⟨bp, 1, none⟩) hbz]; assumption))
          (first
            | (go_at_call 87; refine (id_any ad xs.length c i u _ hc1 hilt (by omega)).mono ?_; rintro e w1 ⟨rfl, rfl⟩)
            | (go_at_call 82; refine (nodeWithID_any bp 0 u _ hp1).mono ?_; rintro e w2 ⟨rfl, hbel⟩))
        all_goals
          go_wp2
          go_meet
          case rel => exact ⟨rfl, ⟨HT.out.below ⟨hbel.os, hbel.tape, hbel.output, hbel.size, hbel.block⟩⟩⟩
      case rest =>
        obtain ⟨rfl, HT2⟩ := hcut
        clear HT hp hp1 hc hc1
        go_wp2_with fail
        go_loopw [9] (fun t9 wr => ∃ j' : Nat, t9 = .int .i64 j' ∧ m + 1 ≤ j' ∧ j' ≤ m + n + 1 ∧ j' ≤ xs.length ∧ Aside0 (TrOk w wr base bp b2 d n (some ad) c xs j')) (fun t9 _ => xs.length - (intOf t9).toNat)
        case atStart => exact ⟨m + 1, by go_num, Nat.le_refl _, by omega, by omega, HT2⟩
        case round =>
          clear HT2
          obtain ⟨j', rfl, hj1, hj2, hj3, HR⟩ := hrel
          by_cases hq1 : j' ≤ m + n
          · by_cases hq2 : j' < xs.length
            · have hdq1 : decide ((j' : Int) ≤ (m : Int) + (n : Int)) = true := decide_eq_true (by omega)
              have hdq2 : decide ((j' : Int) < (xs.length : Int)) = true := decide_eq_true (by omega)
              have hdiv : (j' - 1) / n = i := by
                have hm := HM.out
                have h1 : j' - 1 = i * n + (j' - 1 - m) := by rw [Nat.mul_comm i n, ← hm]; omega
                rw [h1, Nat.mul_comm i n, Nat.mul_add_div (by omega), Nat.div_eq_of_lt (by omega), Nat.add_zero]
              have HD := Aside0.mk hdiv
              clear hdiv
              obtain ⟨ad', had, hc⟩ := HR.out.id j' hq2
              injection had with had
              subst had
              obtain ⟨hp, hbz2⟩ := HR.out.cell
              have hadz2 := World.block_lt_of_cell? _ _ hc
              generalize hv : xs.getD j' 0 = v at hc
              have HV := Aside0.mk hv
              clear hv
              have hc1 : wr.drew.cell? (ad.add j') = some (.int .i64 v) := hc
              have hp1 : wr.drew.cell? ⟨bp, 1, none⟩ = some (.slice none 0 0) := hp
              go_upto_region 19 with (go_at_call 88; refine (len_any _ _ _ _).mono ?_; rintro e w1 ⟨rfl, rfl⟩)
              go_cut [13] from 70 to 104 (fun s13 w' => s13 = nodeV v ∧ Aside0 (TrOk w w' base bp b2 d n (some ad) c xs j'))
              case first =>
                go_region_held3 (fun w' => w'.cell? ⟨bp, 1, none⟩ = some (.slice none 0 0))
                  (first | go_keep | (rw [hbel.cell (p := ⟨bp, 1, none⟩) hbz2]; assumption))
                  (first
                    | (go_at_call 87; refine (id_any ad xs.length c j' v _ hc1 hq2 (by omega)).mono ?_; rintro e w1 ⟨rfl, rfl⟩)
                    | (go_at_call 82; refine (nodeWithID_any bp 0 v _ hp1).mono ?_; rintro e w2 ⟨rfl, hbel⟩))
                all_goals
                  go_wp2
                  go_meet
                  case rel => exact ⟨rfl, ⟨HR.out.below ⟨hbel.os, hbel.tape, hbel.output, hbel.size, hbel.block⟩⟩⟩
              case rest =>
                obtain ⟨rfl, HT2⟩ := hcut
                clear HR hp hp1 hc hc1
                go_wp2_with fail
                have HT3 := Aside0.mk (HT2.out.below (w1 := wc.drew) ⟨rfl, rfl, rfl, Nat.le_refl _, fun _ _ => rfl⟩)
                go_region_held3 (fun w' => True) (first | trivial)
                  (first
                    | (go_at_call 81; refine (newEdge_n _ u v _).mono ?_; rintro e w3 ⟨rfl, rfl⟩)
                    | (go_at_call 83; refine (HT3.out.setEdge (by omega) hq2 HD.out hb HU.out.symm HV.out.symm).mono ?_; rintro e w4 ⟨rfl, hw4⟩; have HT4 := Aside0.mk hw4; clear hw4))
                all_goals
                  go_wp2_with fail
                  go_roundw
                  case rel => exact ⟨j' + 1, by go_num, by omega, by omega, by omega, HT4⟩
                  case measure => simp [intOf]; omega
            · have hdq1 : decide ((j' : Int) ≤ (m : Int) + (n : Int)) = true := decide_eq_true (by omega)
              have hdq2 : decide ((j' : Int) < (xs.length : Int)) = false := decide_eq_false (by omega)
              have hjj : j = 0 ∨ j = m + 1 := HJ.out
              have hni : n * (i + 1) = m + n := by rw [Nat.mul_add, Nat.mul_one, HM.out]
              go_wp2_with (first
                | (go_at_call 88; refine (len_any _ _ _ _).mono ?_; rintro e w1 ⟨rfl, rfl⟩))
              go_roundw
              case rel => exact ⟨i + 1, j', rfl, by go_num, hj3, fun h => .inr ⟨by omega, by omega⟩, HR⟩
              case measure => simp [intOf]; omega
          · have hdq1 : decide ((j' : Int) ≤ (m : Int) + (n : Int)) = false := decide_eq_false (by omega)
            have hjj : j = 0 ∨ j = m + 1 := HJ.out
            have hni : n * (i + 1) = m + n := by rw [Nat.mul_add, Nat.mul_one, HM.out]
            go_wp2_with (first
              | (go_at_call 88; refine (len_any _ _ _ _).mono ?_; rintro e w1 ⟨rfl, rfl⟩))
            go_roundw
            case rel => exact ⟨i + 1, j', rfl, by go_num, hj3, fun h => .inr ⟨by omega, by omega⟩, HR⟩
            case measure => simp [intOf]; omega
    · have hje : j = xs.length := by omega
      have HT := HR.out
      rw [hje] at HT
      have H := Aside0.mk HT
      clear HT HR hij
      go_wp2_with (first
        | (go_at_call 88; refine (len_any _ _ _ _).mono ?_; rintro e w1 ⟨rfl, rfl⟩))
      go_end0
      obtain ⟨ve, hh⟩ := H.out
      have hb1 := hh.bld
      rw [List.take_of_length_le (by rw [treeE_length]; omega)] at hb1
      exact ⟨rfl, ve, hb1, hh.bel⟩
end Go.Proofs.Ytgiebjihceggjaa
