/-
  No cell of these rows narrows 'for every input' (looked for: loops, veiled, ifaces, maps, wideKeys, modest, calm, conditions, laid).
  DERIVED. THE GIVEN ROWS OF THIS SEAT. 4 by the template 'for every input the law returns true; each argument reads behind the call as it read before'; 0 by the template 'total and deterministic' (their statements: YtolbfjjgdheikaaGreatTotals.lean).
  GIVEN WITH THE SEED: the statements are not yours to turn. If you find one false, say at which input.
  Laid BY PROGRAM, IN A SANDBOX (cutbox-rows.mjs): the forced cells as the released guide's own fill.sh prints them over the translation 850695892e47c628… (all of the seat's roots in one cut). By AI agents, Wed Nov 11 2026. No macro, syntax, notation, axiom, sorry.
-/
import Derived.Test.YtolbfjjgdheikaaGreatChecked
import GoSem.Claim
import GoSem.ClaimJoined
import GoSem.ClaimMapViews
import Derived.JoinedTies
import Derived.KernelRfl
namespace Go.Proofs.YtolbfjjgdheikaaGreat
/- THE CELL 'sum', in the pinned program and in every row, IS THE sha256 OF THE DUMP (.gsa) THAT YtolbfjjgdheikaaGreatProg.lean LOADS. Nothing in Lean hashes anything: it is a label: what it is worth is what the hold of that sum in a sandbox is worth. -/
noncomputable def Tryz.pinned : Pinned := { name := "ytolbfjjgdheikaagreat", sum := "850695892e47c6289f4f256ba3acb92880e2d1b83084332cd783c13d57b92ff9", checked := Tryz.checked }
namespace Rows
def none {H : Type} : Left H := { results := [], args := [] }

/-- 'laws.FnComponentsJoined': WHATEVER THE INPUT: true; the input reads as it did. -/
def fnComponentsJoinedSpec : ChangeSpec := { name := "fnComponentsJoined", fn := fun _ => fun
  | [d1, d2, d3] => { results := [.lit (.bool true)], args := [d1, d2, d3] }
  | _ => none }
def fnComponentsJoinedRow : OpenClaim := { program := "ytolbfjjgdheikaagreat", sum := "850695892e47c6289f4f256ba3acb92880e2d1b83084332cd783c13d57b92ff9", func := "pub-labyrinth/laws.FnComponentsJoined", spec := "fnComponentsJoined", inPlace := ["slices.overlaps[pub-labyrinth/impl.arc]"], unfollowed := true, recurses := true, apart := false }
def FnComponentsJoinedSaid : Prop := fnComponentsJoinedRow.holds Tryz.pinned (OpenSpec.ofChange fnComponentsJoinedSpec)

/-- ITS FALSE NEIGHBOUR: 'it returns false'. Refute it at one input. -/
def fnComponentsJoinedWrong : ChangeSpec := { name := "fnComponentsJoined", fn := fun _ => fun
  | [d1, d2, d3] => { results := [.lit (.bool false)], args := [d1, d2, d3] }
  | _ => none }
def FnComponentsJoinedWrongFalsely : Prop := fnComponentsJoinedRow.holds Tryz.pinned (OpenSpec.ofChange fnComponentsJoinedWrong)

/-- 'laws.FnSCCBoth': WHATEVER THE INPUT: true; the input reads as it did. -/
def fnSCCBothSpec : ChangeSpec := { name := "fnSCCBoth", fn := fun _ => fun
  | [d] => { results := [.lit (.bool true)], args := [d] }
  | _ => none }
def fnSCCBothRow : OpenClaim := { program := "ytolbfjjgdheikaagreat", sum := "850695892e47c6289f4f256ba3acb92880e2d1b83084332cd783c13d57b92ff9", func := "pub-labyrinth/laws.FnSCCBoth", spec := "fnSCCBoth", inPlace := ["slices.overlaps[pub-labyrinth/impl.arc]"], unfollowed := true, recurses := true, apart := false }
def FnSCCBothSaid : Prop := fnSCCBothRow.holds Tryz.pinned (OpenSpec.ofChange fnSCCBothSpec)

/-- ITS FALSE NEIGHBOUR: 'it returns false'. Refute it at one input. -/
def fnSCCBothWrong : ChangeSpec := { name := "fnSCCBoth", fn := fun _ => fun
  | [d] => { results := [.lit (.bool false)], args := [d] }
  | _ => none }
def FnSCCBothWrongFalsely : Prop := fnSCCBothRow.holds Tryz.pinned (OpenSpec.ofChange fnSCCBothWrong)

/-- 'laws.FnWalkAll': WHATEVER THE INPUT: true; the input reads as it did. -/
def fnWalkAllSpec : ChangeSpec := { name := "fnWalkAll", fn := fun _ => fun
  | [d1, d2] => { results := [.lit (.bool true)], args := [d1, d2] }
  | _ => none }
def fnWalkAllRow : OpenClaim := { program := "ytolbfjjgdheikaagreat", sum := "850695892e47c6289f4f256ba3acb92880e2d1b83084332cd783c13d57b92ff9", func := "pub-labyrinth/laws.FnWalkAll", spec := "fnWalkAll", inPlace := ["slices.overlaps[pub-labyrinth/impl.arc]"], unfollowed := true, recurses := true, apart := false }
def FnWalkAllSaid : Prop := fnWalkAllRow.holds Tryz.pinned (OpenSpec.ofChange fnWalkAllSpec)

/-- ITS FALSE NEIGHBOUR: 'it returns false'. Refute it at one input. -/
def fnWalkAllWrong : ChangeSpec := { name := "fnWalkAll", fn := fun _ => fun
  | [d1, d2] => { results := [.lit (.bool false)], args := [d1, d2] }
  | _ => none }
def FnWalkAllWrongFalsely : Prop := fnWalkAllRow.holds Tryz.pinned (OpenSpec.ofChange fnWalkAllWrong)

/-- 'laws.FnSortEdge': WHATEVER THE INPUT: true; the input reads as it did. -/
def fnSortEdgeSpec : ChangeSpec := { name := "fnSortEdge", fn := fun _ => fun
  | [d1, d2, d3] => { results := [.lit (.bool true)], args := [d1, d2, d3] }
  | _ => none }
def fnSortEdgeRow : OpenClaim := { program := "ytolbfjjgdheikaagreat", sum := "850695892e47c6289f4f256ba3acb92880e2d1b83084332cd783c13d57b92ff9", func := "pub-labyrinth/laws.FnSortEdge", spec := "fnSortEdge", inPlace := ["slices.overlaps[pub-labyrinth/impl.arc]"], unfollowed := true, recurses := true, apart := false }
def FnSortEdgeSaid : Prop := fnSortEdgeRow.holds Tryz.pinned (OpenSpec.ofChange fnSortEdgeSpec)

/-- ITS FALSE NEIGHBOUR: 'it returns false'. Refute it at one input. -/
def fnSortEdgeWrong : ChangeSpec := { name := "fnSortEdge", fn := fun _ => fun
  | [d1, d2, d3] => { results := [.lit (.bool false)], args := [d1, d2, d3] }
  | _ => none }
def FnSortEdgeWrongFalsely : Prop := fnSortEdgeRow.holds Tryz.pinned (OpenSpec.ofChange fnSortEdgeWrong)

/- THE SECOND FORM. 'bulk': how many values and letters a reading holds, each counted each time it is reached (what is shared counts as often as it is met; a slice's spare places count too). A statement '..UptoSaid' is the law's where the arguments, and the package variables that the reading takes, are together of bulk at most 1048576: NARROWER than '..Said'. Prove '..Said' where nothing that the law and all that it calls make is longer than what came in: it says more and counts as full. Else prove '..UptoSaid'. A law counts once. -/
mutual
def uptoBulk {H : Type} : DataW H → Nat
  | .lit (.string bytes) => bytes.length + 1
  | .lit _ => 1
  | .nil => 1
  | .ptr d => uptoBulk d + 1
  | .slice elems spare => uptoBulkAll elems + uptoBulkAll spare + 1
  | .agg parts => uptoBulkAll parts + 1
  | .iface _ d => uptoBulk d + 1
  | .map entries => uptoBulkEntries entries + 1
  | .held _ => 1
def uptoBulkAll {H : Type} : List (DataW H) → Nat
  | [] => 0
  | d :: r => uptoBulk d + uptoBulkAll r
def uptoBulkEntries {H : Type} : List (Lit × DataW H) → Nat
  | [] => 0
  | x :: r => uptoBulkEntry x + uptoBulkEntries r
def uptoBulkEntry {H : Type} : Lit × DataW H → Nat
  | (.string bytes, d) => bytes.length + uptoBulk d + 1
  | (_, d) => uptoBulk d + 1
 end
def uptoSmall : (H : Type) → List (DataW H) → Bool := fun _ ds => decide (uptoBulkAll ds ≤ 1048576)
def OpenSpec.upto (s : _root_.Go.ChangeSpec) : _root_.Go.OpenSpec := { _root_.Go.OpenSpec.ofChange s with cond := some uptoSmall }

/-- 'laws.FnComponentsJoined', WHERE WHAT IT READS IS OF BULK AT MOST 1048576: true; the input reads as it did. -/
def fnComponentsJoinedUptoRow : OpenClaim := { program := "ytolbfjjgdheikaagreat", sum := "850695892e47c6289f4f256ba3acb92880e2d1b83084332cd783c13d57b92ff9", func := "pub-labyrinth/laws.FnComponentsJoined", spec := "fnComponentsJoined", inPlace := ["slices.overlaps[pub-labyrinth/impl.arc]"], unfollowed := true, recurses := true, apart := false, narrowed := true }
def FnComponentsJoinedUptoSaid : Prop := fnComponentsJoinedUptoRow.holds Tryz.pinned (OpenSpec.upto fnComponentsJoinedSpec)

/-- 'laws.FnSCCBoth', WHERE WHAT IT READS IS OF BULK AT MOST 1048576: true; the input reads as it did. -/
def fnSCCBothUptoRow : OpenClaim := { program := "ytolbfjjgdheikaagreat", sum := "850695892e47c6289f4f256ba3acb92880e2d1b83084332cd783c13d57b92ff9", func := "pub-labyrinth/laws.FnSCCBoth", spec := "fnSCCBoth", inPlace := ["slices.overlaps[pub-labyrinth/impl.arc]"], unfollowed := true, recurses := true, apart := false, narrowed := true }
def FnSCCBothUptoSaid : Prop := fnSCCBothUptoRow.holds Tryz.pinned (OpenSpec.upto fnSCCBothSpec)

/-- 'laws.FnWalkAll', WHERE WHAT IT READS IS OF BULK AT MOST 1048576: true; the input reads as it did. -/
def fnWalkAllUptoRow : OpenClaim := { program := "ytolbfjjgdheikaagreat", sum := "850695892e47c6289f4f256ba3acb92880e2d1b83084332cd783c13d57b92ff9", func := "pub-labyrinth/laws.FnWalkAll", spec := "fnWalkAll", inPlace := ["slices.overlaps[pub-labyrinth/impl.arc]"], unfollowed := true, recurses := true, apart := false, narrowed := true }
def FnWalkAllUptoSaid : Prop := fnWalkAllUptoRow.holds Tryz.pinned (OpenSpec.upto fnWalkAllSpec)

/-- 'laws.FnSortEdge', WHERE WHAT IT READS IS OF BULK AT MOST 1048576: true; the input reads as it did. -/
def fnSortEdgeUptoRow : OpenClaim := { program := "ytolbfjjgdheikaagreat", sum := "850695892e47c6289f4f256ba3acb92880e2d1b83084332cd783c13d57b92ff9", func := "pub-labyrinth/laws.FnSortEdge", spec := "fnSortEdge", inPlace := ["slices.overlaps[pub-labyrinth/impl.arc]"], unfollowed := true, recurses := true, apart := false, narrowed := true }
def FnSortEdgeUptoSaid : Prop := fnSortEdgeUptoRow.holds Tryz.pinned (OpenSpec.upto fnSortEdgeSpec)

end Rows
end Go.Proofs.YtolbfjjgdheikaaGreat
