/-
  No cell of these rows narrows 'for every input' (looked for: loops, veiled, ifaces, maps, wideKeys, modest, calm, conditions, laid).
  DERIVED. THE GIVEN ROWS OF THIS SEAT. 7 by the template 'for every input the law returns true; each argument reads behind the call as it read before'; 0 by the template 'total and deterministic' (their statements: YtfkmpnpliadohaaGreatTotals.lean).
  GIVEN WITH THE SEED: the statements are not yours to turn. If you find one false, say at which input.
  Laid BY PROGRAM, IN A SANDBOX (cutbox-rows.mjs): the forced cells as the released guide's own fill.sh prints them over the translation 7bb45c106aed1103… (all of the seat's roots in one cut). By AI agents, Wed Nov 11 2026. No macro, syntax, notation, axiom, sorry.
-/
import Derived.Test.YtfkmpnpliadohaaGreatChecked
import GoSem.Claim
import GoSem.ClaimJoined
import GoSem.ClaimMapViews
import Derived.JoinedTies
import Derived.KernelRfl
namespace Go.Proofs.YtfkmpnpliadohaaGreat
/- THE CELL 'sum', in the pinned program and in every row, IS THE sha256 OF THE DUMP (.gsa) THAT YtfkmpnpliadohaaGreatProg.lean LOADS. Nothing in Lean hashes anything: it is a label: what it is worth is what the hold of that sum in a sandbox is worth. -/
noncomputable def Tryz.pinned : Pinned := { name := "ytfkmpnpliadohaagreat", sum := "7bb45c106aed1103be3eddcfbb4f554edb5ba32093c2850b752fbd6a6d3854cc", checked := Tryz.checked }
namespace Rows
def none {H : Type} : Left H := { results := [], args := [] }

/-- 'laws.FnUndirectMerged': WHATEVER THE INPUT: true; the input reads as it did. -/
def fnUndirectMergedSpec : ChangeSpec := { name := "fnUndirectMerged", fn := fun _ => fun
  | [d1, d2, d3] => { results := [.lit (.bool true)], args := [d1, d2, d3] }
  | _ => none }
def fnUndirectMergedRow : OpenClaim := { program := "ytfkmpnpliadohaagreat", sum := "7bb45c106aed1103be3eddcfbb4f554edb5ba32093c2850b752fbd6a6d3854cc", func := "pub-labyrinth/laws.FnUndirectMerged", spec := "fnUndirectMerged", inPlace := ["slices.overlaps[pub-labyrinth/impl.arc]"], unfollowed := true, recurses := true, apart := false }
def FnUndirectMergedSaid : Prop := fnUndirectMergedRow.holds Tryz.pinned (OpenSpec.ofChange fnUndirectMergedSpec)

/-- ITS FALSE NEIGHBOUR: 'it returns false'. Refute it at one input. -/
def fnUndirectMergedWrong : ChangeSpec := { name := "fnUndirectMerged", fn := fun _ => fun
  | [d1, d2, d3] => { results := [.lit (.bool false)], args := [d1, d2, d3] }
  | _ => none }
def FnUndirectMergedWrongFalsely : Prop := fnUndirectMergedRow.holds Tryz.pinned (OpenSpec.ofChange fnUndirectMergedWrong)

/-- 'laws.FnUndirectMergedTold': WHATEVER THE INPUT: true; the input reads as it did. -/
def fnUndirectMergedToldSpec : ChangeSpec := { name := "fnUndirectMergedTold", fn := fun _ => fun
  | [d1, d2, d3] => { results := [.lit (.bool true)], args := [d1, d2, d3] }
  | _ => none }
def fnUndirectMergedToldRow : OpenClaim := { program := "ytfkmpnpliadohaagreat", sum := "7bb45c106aed1103be3eddcfbb4f554edb5ba32093c2850b752fbd6a6d3854cc", func := "pub-labyrinth/laws.FnUndirectMergedTold", spec := "fnUndirectMergedTold", inPlace := ["slices.overlaps[pub-labyrinth/impl.arc]"], unfollowed := true, recurses := true, apart := false }
def FnUndirectMergedToldSaid : Prop := fnUndirectMergedToldRow.holds Tryz.pinned (OpenSpec.ofChange fnUndirectMergedToldSpec)

/-- ITS FALSE NEIGHBOUR: 'it returns false'. Refute it at one input. -/
def fnUndirectMergedToldWrong : ChangeSpec := { name := "fnUndirectMergedTold", fn := fun _ => fun
  | [d1, d2, d3] => { results := [.lit (.bool false)], args := [d1, d2, d3] }
  | _ => none }
def FnUndirectMergedToldWrongFalsely : Prop := fnUndirectMergedToldRow.holds Tryz.pinned (OpenSpec.ofChange fnUndirectMergedToldWrong)

/-- 'laws.FnWalkBad': WHATEVER THE INPUT: true; the input reads as it did. -/
def fnWalkBadSpec : ChangeSpec := { name := "fnWalkBad", fn := fun _ => fun
  | [d1, d2, d3] => { results := [.lit (.bool true)], args := [d1, d2, d3] }
  | _ => none }
def fnWalkBadRow : OpenClaim := { program := "ytfkmpnpliadohaagreat", sum := "7bb45c106aed1103be3eddcfbb4f554edb5ba32093c2850b752fbd6a6d3854cc", func := "pub-labyrinth/laws.FnWalkBad", spec := "fnWalkBad", inPlace := ["slices.overlaps[pub-labyrinth/impl.arc]"], unfollowed := true, recurses := true, apart := false }
def FnWalkBadSaid : Prop := fnWalkBadRow.holds Tryz.pinned (OpenSpec.ofChange fnWalkBadSpec)

/-- ITS FALSE NEIGHBOUR: 'it returns false'. Refute it at one input. -/
def fnWalkBadWrong : ChangeSpec := { name := "fnWalkBad", fn := fun _ => fun
  | [d1, d2, d3] => { results := [.lit (.bool false)], args := [d1, d2, d3] }
  | _ => none }
def FnWalkBadWrongFalsely : Prop := fnWalkBadRow.holds Tryz.pinned (OpenSpec.ofChange fnWalkBadWrong)

/-- 'laws.FnDepthFirst': WHATEVER THE INPUT: true; the input reads as it did. -/
def fnDepthFirstSpec : ChangeSpec := { name := "fnDepthFirst", fn := fun _ => fun
  | [d1, d2, d3, d4] => { results := [.lit (.bool true)], args := [d1, d2, d3, d4] }
  | _ => none }
def fnDepthFirstRow : OpenClaim := { program := "ytfkmpnpliadohaagreat", sum := "7bb45c106aed1103be3eddcfbb4f554edb5ba32093c2850b752fbd6a6d3854cc", func := "pub-labyrinth/laws.FnDepthFirst", spec := "fnDepthFirst", inPlace := ["slices.overlaps[pub-labyrinth/impl.arc]"], unfollowed := true, recurses := true, apart := false }
def FnDepthFirstSaid : Prop := fnDepthFirstRow.holds Tryz.pinned (OpenSpec.ofChange fnDepthFirstSpec)

/-- ITS FALSE NEIGHBOUR: 'it returns false'. Refute it at one input. -/
def fnDepthFirstWrong : ChangeSpec := { name := "fnDepthFirst", fn := fun _ => fun
  | [d1, d2, d3, d4] => { results := [.lit (.bool false)], args := [d1, d2, d3, d4] }
  | _ => none }
def FnDepthFirstWrongFalsely : Prop := fnDepthFirstRow.holds Tryz.pinned (OpenSpec.ofChange fnDepthFirstWrong)

/-- 'laws.FnBuildTold': WHATEVER THE INPUT: true; the input reads as it did. -/
def fnBuildToldSpec : ChangeSpec := { name := "fnBuildTold", fn := fun _ => fun
  | [d1, d2] => { results := [.lit (.bool true)], args := [d1, d2] }
  | _ => none }
def fnBuildToldRow : OpenClaim := { program := "ytfkmpnpliadohaagreat", sum := "7bb45c106aed1103be3eddcfbb4f554edb5ba32093c2850b752fbd6a6d3854cc", func := "pub-labyrinth/laws.FnBuildTold", spec := "fnBuildTold", inPlace := ["slices.overlaps[pub-labyrinth/impl.arc]", "math.Float64frombits"], unfollowed := true, recurses := true, apart := false }
def FnBuildToldSaid : Prop := fnBuildToldRow.holds Tryz.pinned (OpenSpec.ofChange fnBuildToldSpec)

/-- ITS FALSE NEIGHBOUR: 'it returns false'. Refute it at one input. -/
def fnBuildToldWrong : ChangeSpec := { name := "fnBuildTold", fn := fun _ => fun
  | [d1, d2] => { results := [.lit (.bool false)], args := [d1, d2] }
  | _ => none }
def FnBuildToldWrongFalsely : Prop := fnBuildToldRow.holds Tryz.pinned (OpenSpec.ofChange fnBuildToldWrong)

/-- 'laws.FnProductBad': WHATEVER THE INPUT: true; the input reads as it did. -/
def fnProductBadSpec : ChangeSpec := { name := "fnProductBad", fn := fun _ => fun
  | [d1, d2, d3] => { results := [.lit (.bool true)], args := [d1, d2, d3] }
  | _ => none }
def fnProductBadRow : OpenClaim := { program := "ytfkmpnpliadohaagreat", sum := "7bb45c106aed1103be3eddcfbb4f554edb5ba32093c2850b752fbd6a6d3854cc", func := "pub-labyrinth/laws.FnProductBad", spec := "fnProductBad", inPlace := ["slices.overlaps[pub-labyrinth/impl.arc]"], unfollowed := true, recurses := true, apart := false }
def FnProductBadSaid : Prop := fnProductBadRow.holds Tryz.pinned (OpenSpec.ofChange fnProductBadSpec)

/-- ITS FALSE NEIGHBOUR: 'it returns false'. Refute it at one input. -/
def fnProductBadWrong : ChangeSpec := { name := "fnProductBad", fn := fun _ => fun
  | [d1, d2, d3] => { results := [.lit (.bool false)], args := [d1, d2, d3] }
  | _ => none }
def FnProductBadWrongFalsely : Prop := fnProductBadRow.holds Tryz.pinned (OpenSpec.ofChange fnProductBadWrong)

/-- 'laws.FnStrongUnion': WHATEVER THE INPUT: true; the input reads as it did. -/
def fnStrongUnionSpec : ChangeSpec := { name := "fnStrongUnion", fn := fun _ => fun
  | [d1, d2] => { results := [.lit (.bool true)], args := [d1, d2] }
  | _ => none }
def fnStrongUnionRow : OpenClaim := { program := "ytfkmpnpliadohaagreat", sum := "7bb45c106aed1103be3eddcfbb4f554edb5ba32093c2850b752fbd6a6d3854cc", func := "pub-labyrinth/laws.FnStrongUnion", spec := "fnStrongUnion", inPlace := ["slices.overlaps[pub-labyrinth/impl.arc]", "slices.overlaps[pub-labyrinth/impl.Pair]", "slices.overlaps[pub-labyrinth/impl.Link]"], unfollowed := true, recurses := true, apart := false }
def FnStrongUnionSaid : Prop := fnStrongUnionRow.holds Tryz.pinned (OpenSpec.ofChange fnStrongUnionSpec)

/-- ITS FALSE NEIGHBOUR: 'it returns false'. Refute it at one input. -/
def fnStrongUnionWrong : ChangeSpec := { name := "fnStrongUnion", fn := fun _ => fun
  | [d1, d2] => { results := [.lit (.bool false)], args := [d1, d2] }
  | _ => none }
def FnStrongUnionWrongFalsely : Prop := fnStrongUnionRow.holds Tryz.pinned (OpenSpec.ofChange fnStrongUnionWrong)

/- THE SECOND FORM. 'bulk': how many values and letters a reading holds, each counted each time it is reached (what is shared counts as often as it is met; a slice's spare places count too). A statement '..UptoSaid' is the law's where the arguments, and the package variables that the reading takes, are together of bulk at most 1048576: NARROWER than '..Said'. Prove '..Said' where nothing that the law and all that it calls make is longer than what came in: it says more and counts as full. Else prove '..UptoSaid'. A law counts once. -/
mutual
def uptoBulk {H : Type} : DataW H → Nat
  | .lit (.string bytes) => bytes.length + 1
  | .lit _ => 1
  | .nil => 1
  | .ptr d => uptoBulk d + 1
  | .slice elems spare => uptoBulkAll elems + uptoBulkAll spare + 1
  | .agg parts => uptoBulkAll parts + 1
  | .iface _ d => uptoBulk d + 1
  | .map entries => uptoBulkEntries entries + 1
  | .held _ => 1
def uptoBulkAll {H : Type} : List (DataW H) → Nat
  | [] => 0
  | d :: r => uptoBulk d + uptoBulkAll r
def uptoBulkEntries {H : Type} : List (Lit × DataW H) → Nat
  | [] => 0
  | x :: r => uptoBulkEntry x + uptoBulkEntries r
def uptoBulkEntry {H : Type} : Lit × DataW H → Nat
  | (.string bytes, d) => bytes.length + uptoBulk d + 1
  | (_, d) => uptoBulk d + 1
 end
def uptoSmall : (H : Type) → List (DataW H) → Bool := fun _ ds => decide (uptoBulkAll ds ≤ 1048576)
def OpenSpec.upto (s : _root_.Go.ChangeSpec) : _root_.Go.OpenSpec := { _root_.Go.OpenSpec.ofChange s with cond := some uptoSmall }

/-- 'laws.FnUndirectMerged', WHERE WHAT IT READS IS OF BULK AT MOST 1048576: true; the input reads as it did. -/
def fnUndirectMergedUptoRow : OpenClaim := { program := "ytfkmpnpliadohaagreat", sum := "7bb45c106aed1103be3eddcfbb4f554edb5ba32093c2850b752fbd6a6d3854cc", func := "pub-labyrinth/laws.FnUndirectMerged", spec := "fnUndirectMerged", inPlace := ["slices.overlaps[pub-labyrinth/impl.arc]"], unfollowed := true, recurses := true, apart := false, narrowed := true }
def FnUndirectMergedUptoSaid : Prop := fnUndirectMergedUptoRow.holds Tryz.pinned (OpenSpec.upto fnUndirectMergedSpec)

/-- 'laws.FnUndirectMergedTold', WHERE WHAT IT READS IS OF BULK AT MOST 1048576: true; the input reads as it did. -/
def fnUndirectMergedToldUptoRow : OpenClaim := { program := "ytfkmpnpliadohaagreat", sum := "7bb45c106aed1103be3eddcfbb4f554edb5ba32093c2850b752fbd6a6d3854cc", func := "pub-labyrinth/laws.FnUndirectMergedTold", spec := "fnUndirectMergedTold", inPlace := ["slices.overlaps[pub-labyrinth/impl.arc]"], unfollowed := true, recurses := true, apart := false, narrowed := true }
def FnUndirectMergedToldUptoSaid : Prop := fnUndirectMergedToldUptoRow.holds Tryz.pinned (OpenSpec.upto fnUndirectMergedToldSpec)

/-- 'laws.FnWalkBad', WHERE WHAT IT READS IS OF BULK AT MOST 1048576: true; the input reads as it did. -/
def fnWalkBadUptoRow : OpenClaim := { program := "ytfkmpnpliadohaagreat", sum := "7bb45c106aed1103be3eddcfbb4f554edb5ba32093c2850b752fbd6a6d3854cc", func := "pub-labyrinth/laws.FnWalkBad", spec := "fnWalkBad", inPlace := ["slices.overlaps[pub-labyrinth/impl.arc]"], unfollowed := true, recurses := true, apart := false, narrowed := true }
def FnWalkBadUptoSaid : Prop := fnWalkBadUptoRow.holds Tryz.pinned (OpenSpec.upto fnWalkBadSpec)

/-- 'laws.FnDepthFirst', WHERE WHAT IT READS IS OF BULK AT MOST 1048576: true; the input reads as it did. -/
def fnDepthFirstUptoRow : OpenClaim := { program := "ytfkmpnpliadohaagreat", sum := "7bb45c106aed1103be3eddcfbb4f554edb5ba32093c2850b752fbd6a6d3854cc", func := "pub-labyrinth/laws.FnDepthFirst", spec := "fnDepthFirst", inPlace := ["slices.overlaps[pub-labyrinth/impl.arc]"], unfollowed := true, recurses := true, apart := false, narrowed := true }
def FnDepthFirstUptoSaid : Prop := fnDepthFirstUptoRow.holds Tryz.pinned (OpenSpec.upto fnDepthFirstSpec)

/-- 'laws.FnBuildTold', WHERE WHAT IT READS IS OF BULK AT MOST 1048576: true; the input reads as it did. -/
def fnBuildToldUptoRow : OpenClaim := { program := "ytfkmpnpliadohaagreat", sum := "7bb45c106aed1103be3eddcfbb4f554edb5ba32093c2850b752fbd6a6d3854cc", func := "pub-labyrinth/laws.FnBuildTold", spec := "fnBuildTold", inPlace := ["slices.overlaps[pub-labyrinth/impl.arc]", "math.Float64frombits"], unfollowed := true, recurses := true, apart := false, narrowed := true }
def FnBuildToldUptoSaid : Prop := fnBuildToldUptoRow.holds Tryz.pinned (OpenSpec.upto fnBuildToldSpec)

/-- 'laws.FnProductBad', WHERE WHAT IT READS IS OF BULK AT MOST 1048576: true; the input reads as it did. -/
def fnProductBadUptoRow : OpenClaim := { program := "ytfkmpnpliadohaagreat", sum := "7bb45c106aed1103be3eddcfbb4f554edb5ba32093c2850b752fbd6a6d3854cc", func := "pub-labyrinth/laws.FnProductBad", spec := "fnProductBad", inPlace := ["slices.overlaps[pub-labyrinth/impl.arc]"], unfollowed := true, recurses := true, apart := false, narrowed := true }
def FnProductBadUptoSaid : Prop := fnProductBadUptoRow.holds Tryz.pinned (OpenSpec.upto fnProductBadSpec)

/-- 'laws.FnStrongUnion', WHERE WHAT IT READS IS OF BULK AT MOST 1048576: true; the input reads as it did. -/
def fnStrongUnionUptoRow : OpenClaim := { program := "ytfkmpnpliadohaagreat", sum := "7bb45c106aed1103be3eddcfbb4f554edb5ba32093c2850b752fbd6a6d3854cc", func := "pub-labyrinth/laws.FnStrongUnion", spec := "fnStrongUnion", inPlace := ["slices.overlaps[pub-labyrinth/impl.arc]", "slices.overlaps[pub-labyrinth/impl.Pair]", "slices.overlaps[pub-labyrinth/impl.Link]"], unfollowed := true, recurses := true, apart := false, narrowed := true }
def FnStrongUnionUptoSaid : Prop := fnStrongUnionUptoRow.holds Tryz.pinned (OpenSpec.upto fnStrongUnionSpec)

end Rows
end Go.Proofs.YtfkmpnpliadohaaGreat
