/- Printed by a program (the kit's printer, run over contracts that were proved by hand). -/
import Derived.Test.YtolbfjjgdheikaaGreatProg
import Derived.Below
import Derived.Deep.Draws
import Derived.Deep.AppendLies
import Derived.Maps.AppendAt
import Derived.OwnWalk
import Derived.Laws.BytesArg
import Derived.Laws.MakeOwn
import Derived.Laws.OwnMore
import Derived.Deep.OwnRows
import Derived.Tactics
import Derived.Lib.ConvBytes
import Derived.Laws.Slices
import Derived.WalkKit
import Derived.KernelRfl
import Derived.RowKit3
import Derived.Deep.LoopGhost
import Derived.Deep.QuietTactic
import Derived.BigQuiet
import Derived.WideLaws
import Derived.Deep.DeepCutAuto
import Derived.Deep.CutBlock
import Derived.Deep.RegionHeld3
import Derived.Laws.Rows
import Derived.Lib.AppendStr
import Derived.ArgAppend
import Derived.Laws.IdiomCopy
import Derived.OrdersHeld
import Derived.Laws.BitsLemmas
import Derived.RowKit
import Derived.Test.YtolbfjjgdheikaaGreatFWWords
import Derived.Test.YtolbfjjgdheikaaGreatFWLast
import Derived.Test.YtolbfjjgdheikaaGreatFWTab
import Derived.Test.YtolbfjjgdheikaaGreatFWFour
import Derived.Test.YtolbfjjgdheikaaGreatFWQPut
import Derived.Test.YtolbfjjgdheikaaGreatFWApart
import Derived.Test.YtolbfjjgdheikaaGreatFWArr
import Derived.Test.YtolbfjjgdheikaaGreatFWZeros
import Derived.Test.YtolbfjjgdheikaaGreatFWFoot
import Derived.Test.YtolbfjjgdheikaaGreatFWKept
import Derived.Test.YtolbfjjgdheikaaGreatFWShare
import Derived.Test.YtolbfjjgdheikaaGreatFWN
import Derived.Test.YtolbfjjgdheikaaGreatFWFootNe
import Derived.Test.YtolbfjjgdheikaaGreatFWAt
import Derived.Test.YtolbfjjgdheikaaGreatFWEqStruct
import Derived.Test.YtolbfjjgdheikaaGreatFWRepsOne
import Derived.Test.YtolbfjjgdheikaaGreatFWInv
import Derived.Test.YtolbfjjgdheikaaGreatFWInvWords
import Derived.Test.YtolbfjjgdheikaaGreatFWGuard
import Derived.Test.YtolbfjjgdheikaaGreatFWNEv
import Derived.Test.YtolbfjjgdheikaaGreatFWMore
set_option linter.unusedVariables false
set_option linter.unusedSimpArgs false
namespace Go.Proofs.YtolbfjjgdheikaaGreat.PL
open Go.RowKit Go.Proofs.YtolbfjjgdheikaaGreatW.PrintWords Go.Proofs.YtolbfjjgdheikaaGreatW.PrintLast Go.Proofs.YtolbfjjgdheikaaGreatW.PrintMore
attribute [local go_sem] max2_int min2_int max_two min_two max_three min_three max_four min_four   -- for this text's walks alone



theorem info3 : (Tryz.prog.info? 3).map (fun i => (i.zero, i.size, i.bytes)) = some (some (.int .i64 0), 1, 8) := by kernel_rfl
-- the values' own types
/-! #### struct type 34 -/
structure S34 where
  f0 : Int
  f1 : Int
  f2 : Int
def z34 : S34 := ⟨(0 : Int), (0 : Int), (0 : Int)⟩
def k34 : Kd S34 := Kd.iso (Kd.pair (Kd.int .i64) (Kd.pair (Kd.int .i64) (Kd.int .i64))) (fun x : S34 => (x.f0, x.f1, x.f2))
theorem k34_open {w : World} {x : S34} {cs : List Value} (h : k34.K w x cs) : cs = [.int .i64 x.f0, .int .i64 x.f1, .int .i64 x.f2] := by
  obtain ⟨_, _, rfl, rfl, ⟨_, _, rfl, rfl, rfl⟩⟩ := h
  exact rfl
def rd_T38 (xs : List S34) (i : Int) : S34 := xs.getD i.toNat z34
theorem at_T38 {w : World} {A : Option Addr} {n : Nat} {xs : List S34} (h : Kd.C k34 w A n xs) (i : Int) (h0 : 0 ≤ i) (h1 : i < n) : ∃ ad , A = some ad ∧ w.cell? (ad.add (i.toNat * 3)) = some (.int .i64 (rd_T38 xs i).f0) ∧ w.cell? ⟨(ad.add (i.toNat * 3)).block, (ad.add (i.toNat * 3)).off + 1, none⟩ = some (.int .i64 (rd_T38 xs i).f1) ∧ w.cell? ⟨(ad.add (i.toNat * 3)).block, (ad.add (i.toNat * 3)).off + 2, none⟩ = some (.int .i64 (rd_T38 xs i).f2) := by
  obtain ⟨ad, c, e, _, hK, hc0⟩ := Kd.C_get h z34 i h0 h1
  have hc : ∀ j u, c[j]? = some u → w.cell? (ad.add (i.toNat * 3 + j)) = some u := hc0
  obtain rfl := k34_open hK
  exact ⟨ad, e, hc 0 _ rfl, by rw [← add_field _ _ 1 (by omega)]; exact hc 1 _ rfl, by rw [← add_field _ _ 2 (by omega)]; exact hc 2 _ rfl⟩

end Go.Proofs.YtolbfjjgdheikaaGreat.PL

