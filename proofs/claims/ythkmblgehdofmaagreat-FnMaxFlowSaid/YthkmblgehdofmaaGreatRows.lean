/-
  No cell of these rows narrows 'for every input' (looked for: loops, veiled, ifaces, maps, wideKeys, modest, calm, conditions, laid).
  DERIVED. THE GIVEN ROWS OF THIS SEAT. 5 by the template 'for every input the law returns true; each argument reads behind the call as it read before'; 0 by the template 'total and deterministic' (their statements: YthkmblgehdofmaaGreatTotals.lean).
  GIVEN WITH THE SEED: the statements are not yours to turn. If you find one false, say at which input.
  Laid BY PROGRAM, IN A SANDBOX (cutbox-rows.mjs): the forced cells as the released guide's own fill.sh prints them over the translation 587d048981b49034… (all of the seat's roots in one cut). By AI agents, Wed Nov 11 2026. No macro, syntax, notation, axiom, sorry.
-/
import Derived.Test.YthkmblgehdofmaaGreatChecked
import GoSem.Claim
import GoSem.ClaimJoined
import GoSem.ClaimMapViews
import Derived.JoinedTies
import Derived.KernelRfl
namespace Go.Proofs.YthkmblgehdofmaaGreat
/- THE CELL 'sum', in the pinned program and in every row, IS THE sha256 OF THE DUMP (.gsa) THAT YthkmblgehdofmaaGreatProg.lean LOADS. Nothing in Lean hashes anything: it is a label: what it is worth is what the hold of that sum in a sandbox is worth. -/
noncomputable def Tryz.pinned : Pinned := { name := "ythkmblgehdofmaagreat", sum := "587d048981b4903415655ee4c4040dedfcfba3048eea974947d56a5a128bd694", checked := Tryz.checked }
namespace Rows
def none {H : Type} : Left H := { results := [], args := [] }

/-- 'laws.FnFlowMatching': WHATEVER THE INPUT: true; the input reads as it did. -/
def fnFlowMatchingSpec : ChangeSpec := { name := "fnFlowMatching", fn := fun _ => fun
  | [d] => { results := [.lit (.bool true)], args := [d] }
  | _ => none }
def fnFlowMatchingRow : OpenClaim := { program := "ythkmblgehdofmaagreat", sum := "587d048981b4903415655ee4c4040dedfcfba3048eea974947d56a5a128bd694", func := "pub-labyrinth/laws.FnFlowMatching", spec := "fnFlowMatching", inPlace := ["slices.overlaps[pub-labyrinth/impl.arc]", "math.Float64frombits", "math.Float64bits"], unfollowed := true, recurses := true, apart := false }
def FnFlowMatchingSaid : Prop := fnFlowMatchingRow.holds Tryz.pinned (OpenSpec.ofChange fnFlowMatchingSpec)

/-- ITS FALSE NEIGHBOUR: 'it returns false'. Refute it at one input. -/
def fnFlowMatchingWrong : ChangeSpec := { name := "fnFlowMatching", fn := fun _ => fun
  | [d] => { results := [.lit (.bool false)], args := [d] }
  | _ => none }
def FnFlowMatchingWrongFalsely : Prop := fnFlowMatchingRow.holds Tryz.pinned (OpenSpec.ofChange fnFlowMatchingWrong)

/-- 'laws.FnFlowMore': WHATEVER THE INPUT: true; the input reads as it did. -/
def fnFlowMoreSpec : ChangeSpec := { name := "fnFlowMore", fn := fun _ => fun
  | [d1, d2, d3, d4, d5] => { results := [.lit (.bool true)], args := [d1, d2, d3, d4, d5] }
  | _ => none }
def fnFlowMoreRow : OpenClaim := { program := "ythkmblgehdofmaagreat", sum := "587d048981b4903415655ee4c4040dedfcfba3048eea974947d56a5a128bd694", func := "pub-labyrinth/laws.FnFlowMore", spec := "fnFlowMore", inPlace := ["slices.overlaps[pub-labyrinth/impl.arc]", "math.Float64frombits", "math.Float64bits"], unfollowed := true, recurses := true, apart := false }
def FnFlowMoreSaid : Prop := fnFlowMoreRow.holds Tryz.pinned (OpenSpec.ofChange fnFlowMoreSpec)

/-- ITS FALSE NEIGHBOUR: 'it returns false'. Refute it at one input. -/
def fnFlowMoreWrong : ChangeSpec := { name := "fnFlowMore", fn := fun _ => fun
  | [d1, d2, d3, d4, d5] => { results := [.lit (.bool false)], args := [d1, d2, d3, d4, d5] }
  | _ => none }
def FnFlowMoreWrongFalsely : Prop := fnFlowMoreRow.holds Tryz.pinned (OpenSpec.ofChange fnFlowMoreWrong)

/-- 'laws.FnFlowTold': WHATEVER THE INPUT: true; the input reads as it did. -/
def fnFlowToldSpec : ChangeSpec := { name := "fnFlowTold", fn := fun _ => fun
  | [d1, d2, d3] => { results := [.lit (.bool true)], args := [d1, d2, d3] }
  | _ => none }
def fnFlowToldRow : OpenClaim := { program := "ythkmblgehdofmaagreat", sum := "587d048981b4903415655ee4c4040dedfcfba3048eea974947d56a5a128bd694", func := "pub-labyrinth/laws.FnFlowTold", spec := "fnFlowTold", inPlace := ["slices.overlaps[pub-labyrinth/impl.arc]", "math.Float64frombits", "math.Float64bits"], unfollowed := true, recurses := true, apart := false }
def FnFlowToldSaid : Prop := fnFlowToldRow.holds Tryz.pinned (OpenSpec.ofChange fnFlowToldSpec)

/-- ITS FALSE NEIGHBOUR: 'it returns false'. Refute it at one input. -/
def fnFlowToldWrong : ChangeSpec := { name := "fnFlowTold", fn := fun _ => fun
  | [d1, d2, d3] => { results := [.lit (.bool false)], args := [d1, d2, d3] }
  | _ => none }
def FnFlowToldWrongFalsely : Prop := fnFlowToldRow.holds Tryz.pinned (OpenSpec.ofChange fnFlowToldWrong)

/-- 'laws.FnMaxFlow': WHATEVER THE INPUT: true; the input reads as it did. -/
def fnMaxFlowSpec : ChangeSpec := { name := "fnMaxFlow", fn := fun _ => fun
  | [d1, d2, d3] => { results := [.lit (.bool true)], args := [d1, d2, d3] }
  | _ => none }
def fnMaxFlowRow : OpenClaim := { program := "ythkmblgehdofmaagreat", sum := "587d048981b4903415655ee4c4040dedfcfba3048eea974947d56a5a128bd694", func := "pub-labyrinth/laws.FnMaxFlow", spec := "fnMaxFlow", inPlace := ["slices.overlaps[pub-labyrinth/impl.arc]", "math.Float64frombits", "math.Float64bits"], unfollowed := true, recurses := true, apart := false }
def FnMaxFlowSaid : Prop := fnMaxFlowRow.holds Tryz.pinned (OpenSpec.ofChange fnMaxFlowSpec)

/-- ITS FALSE NEIGHBOUR: 'it returns false'. Refute it at one input. -/
def fnMaxFlowWrong : ChangeSpec := { name := "fnMaxFlow", fn := fun _ => fun
  | [d1, d2, d3] => { results := [.lit (.bool false)], args := [d1, d2, d3] }
  | _ => none }
def FnMaxFlowWrongFalsely : Prop := fnMaxFlowRow.holds Tryz.pinned (OpenSpec.ofChange fnMaxFlowWrong)

/-- 'laws.FnMenger': WHATEVER THE INPUT: true; the input reads as it did. -/
def fnMengerSpec : ChangeSpec := { name := "fnMenger", fn := fun _ => fun
  | [d1, d2, d3] => { results := [.lit (.bool true)], args := [d1, d2, d3] }
  | _ => none }
def fnMengerRow : OpenClaim := { program := "ythkmblgehdofmaagreat", sum := "587d048981b4903415655ee4c4040dedfcfba3048eea974947d56a5a128bd694", func := "pub-labyrinth/laws.FnMenger", spec := "fnMenger", inPlace := ["slices.overlaps[pub-labyrinth/impl.arc]", "math.Float64frombits", "math.Float64bits"], unfollowed := true, recurses := true, apart := false }
def FnMengerSaid : Prop := fnMengerRow.holds Tryz.pinned (OpenSpec.ofChange fnMengerSpec)

/-- ITS FALSE NEIGHBOUR: 'it returns false'. Refute it at one input. -/
def fnMengerWrong : ChangeSpec := { name := "fnMenger", fn := fun _ => fun
  | [d1, d2, d3] => { results := [.lit (.bool false)], args := [d1, d2, d3] }
  | _ => none }
def FnMengerWrongFalsely : Prop := fnMengerRow.holds Tryz.pinned (OpenSpec.ofChange fnMengerWrong)

/- THE SECOND FORM. 'bulk': how many values and letters a reading holds, each counted each time it is reached (what is shared counts as often as it is met; a slice's spare places count too). A statement '..UptoSaid' is the law's where the arguments, and the package variables that the reading takes, are together of bulk at most 1048576: NARROWER than '..Said'. Prove '..Said' where nothing that the law and all that it calls make is longer than what came in: it says more and counts as full. Else prove '..UptoSaid'. A law counts once. -/
mutual
def uptoBulk {H : Type} : DataW H → Nat
  | .lit (.string bytes) => bytes.length + 1
  | .lit _ => 1
  | .nil => 1
  | .ptr d => uptoBulk d + 1
  | .slice elems spare => uptoBulkAll elems + uptoBulkAll spare + 1
  | .agg parts => uptoBulkAll parts + 1
  | .iface _ d => uptoBulk d + 1
  | .map entries => uptoBulkEntries entries + 1
  | .held _ => 1
def uptoBulkAll {H : Type} : List (DataW H) → Nat
  | [] => 0
  | d :: r => uptoBulk d + uptoBulkAll r
def uptoBulkEntries {H : Type} : List (Lit × DataW H) → Nat
  | [] => 0
  | x :: r => uptoBulkEntry x + uptoBulkEntries r
def uptoBulkEntry {H : Type} : Lit × DataW H → Nat
  | (.string bytes, d) => bytes.length + uptoBulk d + 1
  | (_, d) => uptoBulk d + 1
 end
def uptoSmall : (H : Type) → List (DataW H) → Bool := fun _ ds => decide (uptoBulkAll ds ≤ 1048576)
def OpenSpec.upto (s : _root_.Go.ChangeSpec) : _root_.Go.OpenSpec := { _root_.Go.OpenSpec.ofChange s with cond := some uptoSmall }

/-- 'laws.FnFlowMatching', WHERE WHAT IT READS IS OF BULK AT MOST 1048576: true; the input reads as it did. -/
def fnFlowMatchingUptoRow : OpenClaim := { program := "ythkmblgehdofmaagreat", sum := "587d048981b4903415655ee4c4040dedfcfba3048eea974947d56a5a128bd694", func := "pub-labyrinth/laws.FnFlowMatching", spec := "fnFlowMatching", inPlace := ["slices.overlaps[pub-labyrinth/impl.arc]", "math.Float64frombits", "math.Float64bits"], unfollowed := true, recurses := true, apart := false, narrowed := true }
def FnFlowMatchingUptoSaid : Prop := fnFlowMatchingUptoRow.holds Tryz.pinned (OpenSpec.upto fnFlowMatchingSpec)

/-- 'laws.FnFlowMore', WHERE WHAT IT READS IS OF BULK AT MOST 1048576: true; the input reads as it did. -/
def fnFlowMoreUptoRow : OpenClaim := { program := "ythkmblgehdofmaagreat", sum := "587d048981b4903415655ee4c4040dedfcfba3048eea974947d56a5a128bd694", func := "pub-labyrinth/laws.FnFlowMore", spec := "fnFlowMore", inPlace := ["slices.overlaps[pub-labyrinth/impl.arc]", "math.Float64frombits", "math.Float64bits"], unfollowed := true, recurses := true, apart := false, narrowed := true }
def FnFlowMoreUptoSaid : Prop := fnFlowMoreUptoRow.holds Tryz.pinned (OpenSpec.upto fnFlowMoreSpec)

/-- 'laws.FnFlowTold', WHERE WHAT IT READS IS OF BULK AT MOST 1048576: true; the input reads as it did. -/
def fnFlowToldUptoRow : OpenClaim := { program := "ythkmblgehdofmaagreat", sum := "587d048981b4903415655ee4c4040dedfcfba3048eea974947d56a5a128bd694", func := "pub-labyrinth/laws.FnFlowTold", spec := "fnFlowTold", inPlace := ["slices.overlaps[pub-labyrinth/impl.arc]", "math.Float64frombits", "math.Float64bits"], unfollowed := true, recurses := true, apart := false, narrowed := true }
def FnFlowToldUptoSaid : Prop := fnFlowToldUptoRow.holds Tryz.pinned (OpenSpec.upto fnFlowToldSpec)

/-- 'laws.FnMaxFlow', WHERE WHAT IT READS IS OF BULK AT MOST 1048576: true; the input reads as it did. -/
def fnMaxFlowUptoRow : OpenClaim := { program := "ythkmblgehdofmaagreat", sum := "587d048981b4903415655ee4c4040dedfcfba3048eea974947d56a5a128bd694", func := "pub-labyrinth/laws.FnMaxFlow", spec := "fnMaxFlow", inPlace := ["slices.overlaps[pub-labyrinth/impl.arc]", "math.Float64frombits", "math.Float64bits"], unfollowed := true, recurses := true, apart := false, narrowed := true }
def FnMaxFlowUptoSaid : Prop := fnMaxFlowUptoRow.holds Tryz.pinned (OpenSpec.upto fnMaxFlowSpec)

/-- 'laws.FnMenger', WHERE WHAT IT READS IS OF BULK AT MOST 1048576: true; the input reads as it did. -/
def fnMengerUptoRow : OpenClaim := { program := "ythkmblgehdofmaagreat", sum := "587d048981b4903415655ee4c4040dedfcfba3048eea974947d56a5a128bd694", func := "pub-labyrinth/laws.FnMenger", spec := "fnMenger", inPlace := ["slices.overlaps[pub-labyrinth/impl.arc]", "math.Float64frombits", "math.Float64bits"], unfollowed := true, recurses := true, apart := false, narrowed := true }
def FnMengerUptoSaid : Prop := fnMengerUptoRow.holds Tryz.pinned (OpenSpec.upto fnMengerSpec)

end Rows
end Go.Proofs.YthkmblgehdofmaaGreat
