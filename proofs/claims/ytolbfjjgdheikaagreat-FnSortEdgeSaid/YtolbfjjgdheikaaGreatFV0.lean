/- Printed by a program (the kit's printer, run over contracts that were proved by hand). -/
import Derived.Test.YtolbfjjgdheikaaGreatFT0
set_option linter.unusedVariables false
set_option linter.unusedSimpArgs false
namespace Go.Proofs.YtolbfjjgdheikaaGreat.PL
open Go.RowKit Go.Proofs.YtolbfjjgdheikaaGreatW.PrintWords Go.Proofs.YtolbfjjgdheikaaGreatW.PrintLast Go.Proofs.YtolbfjjgdheikaaGreatW.PrintMore
attribute [local go_sem] max2_int min2_int max_two min_two max_three min_three max_four min_four   -- for this text's walks alone



def errW : Option Int → Value
  | none => .nilIface
  | some c => .iface 0 (.int .i64 c)
theorem errW_none : errW none = .nilIface := rfl
theorem errW_some (c : Int) : errW (some c) = .iface 0 (.int .i64 c) := rfl

theorem info22 : (Tryz.prog.info? 22).map (fun i => (i.zero, i.size, i.bytes)) = some (some (.slice none 0 0), 1, 24) := by kernel_rfl
theorem info34 : (Tryz.prog.info? 34).map (fun i => (i.zero, i.size, i.bytes)) = some (some (.agg #[(.int .i64 0), (.int .i64 0), (.int .i64 0)]), 3, 24) := by kernel_rfl
-- the values' own types
/-! #### struct type 34 -/
theorem k34_mk (w : World) (x : S34)  : k34.K w x [.int .i64 x.f0, .int .i64 x.f1, .int .i64 x.f2] := ⟨[.int .i64 x.f0], [.int .i64 x.f1, .int .i64 x.f2], rfl, rfl, ⟨[.int .i64 x.f1], [.int .i64 x.f2], rfl, rfl, rfl⟩⟩
theorem k34_mkM (w : World) (base : Nat) (ok : Nat → Prop) (x : S34)  : k34.M w base ok x [.int .i64 x.f0, .int .i64 x.f1, .int .i64 x.f2] := ⟨[.int .i64 x.f0], [.int .i64 x.f1, .int .i64 x.f2], rfl, rfl, ⟨[.int .i64 x.f1], [.int .i64 x.f2], rfl, rfl, rfl⟩⟩
def rd_T34 (xs : List S34) (i : Int) : S34 := xs.getD i.toNat z34
theorem at_T34 {w : World} {A : Option Addr} {n : Nat} {xs : List S34} (h : Kd.C k34 w A n xs) (i : Int) (h0 : 0 ≤ i) (h1 : i < n) : ∃ ad , A = some ad ∧ w.cell? (ad.add (i.toNat * 3)) = some (.int .i64 (rd_T34 xs i).f0) ∧ w.cell? ⟨(ad.add (i.toNat * 3)).block, (ad.add (i.toNat * 3)).off + 1, none⟩ = some (.int .i64 (rd_T34 xs i).f1) ∧ w.cell? ⟨(ad.add (i.toNat * 3)).block, (ad.add (i.toNat * 3)).off + 2, none⟩ = some (.int .i64 (rd_T34 xs i).f2) := by
  obtain ⟨ad, c, e, _, hK, hc0⟩ := Kd.C_get h z34 i h0 h1
  have hc : ∀ j u, c[j]? = some u → w.cell? (ad.add (i.toNat * 3 + j)) = some u := hc0
  obtain rfl := k34_open hK
  exact ⟨ad, e, hc 0 _ rfl, by rw [← add_field _ _ 1 (by omega)]; exact hc 1 _ rfl, by rw [← add_field _ _ 2 (by omega)]; exact hc 2 _ rfl⟩

end Go.Proofs.YtolbfjjgdheikaaGreat.PL
