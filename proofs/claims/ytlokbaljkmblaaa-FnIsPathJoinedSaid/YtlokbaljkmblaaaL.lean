/- Laws of no program: the builtin copy at elements of several cells, told as 'only this row has turned'. -/
import Derived.Test.YtlokbaljkmblaaaWMore
import Derived.WalkKit
import Derived.Laws.CopyOwn
import Derived.Lib.AppendZerosOnto
import Derived.Lib.Overlaps
namespace Go.Lab
open Go.RowKit

@[go_sem] theorem run_store_float {P : Program} {w : World} {a : Addr} {m : Mode} (k : FloatKind) (b : Nat) : (store a (.float k b) m).run P w = stored P w a (.float k b) m := run_store P w a _ m rfl

theorem run_copy_rowk {P : Program} (w : World) (dT sT ty elem : TypeId) (size g o dLen dCap : Nat) (a : Addr) (sLen sCap : Nat) (cur : Array Value) (t : TypeId) (cs : List Value)
    (hu : P.underlying dT = some (.slice elem)) (hs : (P.info? elem).map (·.size) = some size)
    (hg : w.heap[g]? = some (.cells cur t (0, 0))) (hn : cs.length = Nat.min sLen dLen * size)
    (hsrc : ∀ j v, cs[j]? = some v → w.cell? (a.add j) = some v) (hfit : o + cs.length ≤ cur.size) (h1 : ∀ v ∈ cs, v.oneCell' = true) :
    (Builtin.copy_ #[dT, sT] ty #[.slice (some ⟨g, o, none⟩) dLen dCap, .slice (some a) sLen sCap]).run P w =
      .ok (goInt (Nat.min sLen dLen)) (w.setRow g (cur.toList.take o ++ cs ++ cur.toList.drop (o + cs.length)).toArray) := by
  have hl := run_loadCells_list (P := P) w a cs hsrc
  have hst := run_storeCells_at P g o t cs 0 cur w hg (by simpa using hfit) h1
  cases hq : P.info? elem with
  | none => simp [hq] at hs
  | some i =>
    have hi : i.size = size := by simpa [hq] using hs
    subst hi
    rw [hn] at hl
    simp [Builtin.copy_, run_underlying hu, Builtin.lenOf, Builtin.firstCells, sizeOf, typeInfo, hq, hl, hst]

theorem grownBy_setRow (w : World) (g : Nat) (cs : Array Value) : w.grownBy (w.setRow g cs) (some g) :=
  ⟨rfl, rfl, rfl, by simp [World.setRow], fun k _ hk => setRow_other w g k _ (fun e => hk (by rw [e]))⟩

theorem grownBy_drew (w : World) (row : Option Nat) : w.grownBy w.drew row := ⟨rfl, rfl, rfl, Nat.le_refl _, fun _ _ _ => rfl⟩

theorem wpList_copyk {P : Program} {w : World} {ops : Array Oper} {rest : List Oper} {o : Oper} {a : Act} {Q : Exit → Act → World → Prop} (hgd : o.guard = none) (d s : Operand) (dT sT : TypeId)
    (ho : o.op = .call { callee := .builtin .copy, args := #[d, s], argTypes := #[dT, sT] }) (elem : TypeId) (size : Nat) (hu : P.underlying dT = some (.slice elem)) (hsz : (P.info? elem).map (·.size) = some size)
    (g off dLen dCap : Nat) (ad : Addr) (sLen sCap : Nat) (hd : a.eval d = .slice (some ⟨g, off, none⟩) dLen dCap) (hs : a.eval s = .slice (some ad) sLen sCap)
    (cur : List Value) (t : TypeId) (hg : w.heap[g]? = some (.cells cur.toArray t (0, 0))) (cs : List Value) (hn : cs.length = Nat.min sLen dLen * size)
    (hsrc : ∀ j v, cs[j]? = some v → w.cell? (ad.add j) = some v) (hfit : off + cs.length ≤ cur.length) (h1 : ∀ v ∈ cs, v.oneCell' = true)
    (h : ∀ w', Hid (w'.heap[g]? = some (.cells (splice cur off cs).toArray t (0, 0))) → w.grownBy w' (some g) → wpList P ops Q rest (a.put o.dst (goInt (Nat.min sLen dLen))) w') : wpList P ops Q (o :: rest) a w := by
  refine wpList_plain hgd fun K hK => ?_
  have hrun := run_copy_rowk (P := P) w dT sT o.type elem size g off dLen dCap ad sLen sCap cur.toArray t cs hu hsz hg hn hsrc (by simpa using hfit) h1
  unfold Oper.wp
  simp [execOp, ho, resolve, invoke, builtin, hd, hs, hrun, Result.andThen]
  exact hK _ _ (h _ (show _ = _ by simpa [splice] using setRow_heap w g _ _ t _ hg) (by simpa using grownBy_setRow w g _))

theorem step_copyk {P : Program} {ops : Array Oper} {o : Oper} {a : Act} {w : World} {K : Act → World → Prop} {Q : Exit → Act → World → Prop} {E : Prop} (hgd : o.guard = none) (d s : Operand) (dT sT : TypeId)
    (ho : o.op = .call { callee := .builtin .copy, args := #[d, s], argTypes := #[dT, sT] }) (elem : TypeId) (size : Nat) (hu : P.underlying dT = some (.slice elem)) (hsz : (P.info? elem).map (·.size) = some size)
    (g off dLen dCap : Nat) (ad : Addr) (sLen sCap : Nat) (hd : a.eval d = .slice (some ⟨g, off, none⟩) dLen dCap) (hs : a.eval s = .slice (some ad) sLen sCap)
    (cur : List Value) (t : TypeId) (hg : w.heap[g]? = some (.cells cur.toArray t (0, 0))) (cs : List Value) (hn : cs.length = Nat.min sLen dLen * size)
    (hsrc : ∀ j v, cs[j]? = some v → w.cell? (ad.add j) = some v) (hfit : off + cs.length ≤ cur.length) (h1 : ∀ v ∈ cs, v.oneCell' = true)
    (h : ∀ w', Hid (w'.heap[g]? = some (.cells (splice cur off cs).toArray t (0, 0))) → w.grownBy w' (some g) → K (a.put o.dst (goInt (Nat.min sLen dLen))) w') :
    if Region.wanted o (yielded ops a.tmps) = true then Oper.wp P o a w K Q else E := by
  have hw : Region.wanted o (yielded ops a.tmps) = true := by simp [Region.wanted, hgd]
  rw [if_pos hw]
  have hrun := run_copy_rowk (P := P) w dT sT o.type elem size g off dLen dCap ad sLen sCap cur.toArray t cs hu hsz hg hn hsrc (by simpa using hfit) h1
  unfold Oper.wp
  simp [execOp, ho, resolve, invoke, builtin, hd, hs, hrun, Result.andThen]
  exact h _ (show _ = _ by simpa [splice] using setRow_heap w g _ _ t _ hg) (by simpa using grownBy_setRow w g _)

/-- append(s[:i], make(T, k)...) where there is no room: a new block, told by its cells. -/
theorem wpList_append_zeros {P : Program} {w : World} {ops : Array Oper} {rest : List Oper} {o : Oper} {a : Act} {Q : Exit → Act → World → Prop} (hgd : o.guard = none) (s x : Operand) (t tn : TypeId)
    (ho : o.op = .call { callee := .builtin .append, args := #[s, x], argTypes := #[t, tn] }) (e : TypeId) (i : TypeInfo) (z : Value) (size bytes : Nat) (kq kn : IntKind) (ht : P.underlying t = some (.slice e)) (htn : P.underlying tn = some (.int kn)) (hi : P.info? e = some i) (hz : i.zero = some z)
    (hsize : i.size = size) (hby : i.bytes = bytes) (hzs : z.cells.size = size) (hs0 : 0 < size)
    (b sLen sCap : Nat) (kk : Int) (hs : a.eval s = .slice (some ⟨b, 0, none⟩) sLen sCap) (hx : a.eval x = .int kq kk) (k : Nat) (hkk : kk = (k : Int))
    (olds : List Value) (hol : olds.length = sLen * size) (hold : ∀ j v, olds[j]? = some v → w.cell? ((⟨b, 0, none⟩ : Addr).add j) = some v)
    (h0 : 0 < k) (hg : sCap < sLen + k) (h63 : ((sLen + k : Nat) : Int) ≤ 9223372036854775807) (hbig : (sLen + k) * bytes ≤ 140737488355328)
    (h : ∀ g cap zs w', sLen + k ≤ cap → cap ≤ 9223372036854775807 → zs.length = (cap - sLen) * size → w'.heap[g]? = some (.cells (olds ++ zs).toArray e (0, 0)) → w.grownBy w' none → g = w.heap.size →
      wpList P ops Q rest (a.put o.dst (.slice (some ⟨g, 0, none⟩) (sLen + k) cap)) w') : wpList P ops Q (o :: rest) a w := by
  subst hkk hsize hby
  have hold' : (Builtin.firstCells i.size sLen (.slice (some ⟨b, 0, none⟩) sLen sCap)).run P w.drew = .ok olds.toArray w.drew :=
    run_firstCells_some w.drew i.size sLen ⟨b, 0, none⟩ sLen sCap olds hol hold
  have hr := Lib.run_append_grow_zeros w t tn o.type e i z kq kn ht htn hi hz (some ⟨b, 0, none⟩) sLen sCap olds hold' k h0 hs0 hg h63 (by
    have : k * i.bytes ≤ (sLen + k) * i.bytes := Nat.mul_le_mul_right _ (by omega)
    omega) (growslice_fits hg hbig)
  refine Lib.wpList_append_run w hgd s x t tn ho _ _ hs hx _ _ hr ?_
  have hge := grownCap_ge w (sLen + k) sCap e
  have hcm := grownCap_le_maxLen w (sLen + k) sCap e (by unfold maxLen; omega)
  unfold maxLen at hcm
  refine h w.heap.size (grownCap w (sLen + k) sCap e) ((Builtin.zeroCells z.cells k ++ Builtin.zeroCells z.cells (grownCap w (sLen + k) sCap e - (sLen + k))).toList) _ hge (by omega) ?_ ?_ ?_ rfl
  · simp only [Array.length_toList, Array.size_append, size_zeroCells, hzs, ← Nat.add_mul]
    congr 1; omega
  · have := heap_alloc_new w.drew (.cells (olds.toArray ++ Builtin.zeroCells z.cells k ++ Builtin.zeroCells z.cells (grownCap w (sLen + k) sCap e - (sLen + k))) e)
    rw [show w.drew.heap.size = w.heap.size from rfl] at this
    rw [this]
    congr 2
    apply Array.ext'
    simp
  · exact (grownBy_drew w none).trans (World.grownBy_alloc _ _ _)

theorem splice_at {α : Type} (X Y cs : List α) : splice (X ++ Y) X.length cs = X ++ (cs ++ Y.drop cs.length) := by
  unfold splice
  rw [List.take_left, List.drop_append]
  simp

theorem splice_after {α : Type} (A zs F D : List α) : (splice (splice (A ++ zs) A.length F) (A.length + F.length) D).take (A.length + F.length + D.length) = A ++ F ++ D := by
  rw [splice_at, ← List.append_assoc, show A.length + F.length = (A ++ F).length by simp, splice_at, ← List.append_assoc, show (A ++ F).length + D.length = (A ++ F ++ D).length by simp; omega, List.take_left]

theorem splice_before {α : Type} (A M1 M2 F D : List α) (h : M1.length = F.length) : (splice (splice (A ++ M1 ++ M2) (A.length + F.length) D) A.length F).take (A.length + F.length + D.length) = A ++ F ++ D := by
  rw [show A.length + F.length = (A ++ M1).length by simp [h], splice_at, List.append_assoc, splice_at, ← h, List.drop_left, ← List.append_assoc, ← List.append_assoc]
  rw [show (A ++ M1).length + D.length = (A ++ F ++ D).length by simp [h]; omega, List.take_left]
end Go.Lab
