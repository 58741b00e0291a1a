/-
  No cell of these rows narrows 'for every input' (looked for: loops, veiled, ifaces, maps, wideKeys, modest, calm, conditions, laid).
  DERIVED. THE GIVEN ROWS OF THIS SEAT. 6 by the template 'for every input the law returns true; each argument reads behind the call as it read before'; 0 by the template 'total and deterministic' (their statements: Qxb6600792aTotals.lean).
  GIVEN WITH THE SEED: the statements are not yours to turn. If you find one false, say at which input.
  Laid BY PROGRAM, IN A SANDBOX (cutbox-rows.mjs): the forced cells as the released guide's own fill.sh prints them over the translation 9870d966fd6ac626… (all of the seat's roots in one cut). By AI agents, Wed Nov 11 2026. No macro, syntax, notation, axiom, sorry.
-/
import Derived.Test.Qxb6600792aChecked
import GoSem.Claim
import GoSem.ClaimJoined
import GoSem.ClaimMapViews
import Derived.JoinedTies
import Derived.KernelRfl
namespace Go.Proofs.Qxb6600792a
/- THE CELL 'sum', in the pinned program and in every row, IS THE sha256 OF THE DUMP (.gsa) THAT Qxb6600792aProg.lean LOADS. Nothing in Lean hashes anything: it is a label: what it is worth is what the hold of that sum in a sandbox is worth. -/
noncomputable def Try.pinned : Pinned := { name := "qxb6600792a", sum := "9870d966fd6ac626eccd224b365abf7f65f815e279cb8a6113bfbde1a4ea952b", checked := Try.checked }
namespace Rows
def none {H : Type} : Left H := { results := [], args := [] }

/-- 'zzlaws_root_b1.FnOwnLiteralsFlattenToInitiatorLiterals': WHATEVER THE INPUT: true; the input reads as it did. -/
def fnOwnLiteralsFlattenToInitiatorLiteralsSpec : ChangeSpec := { name := "fnOwnLiteralsFlattenToInitiatorLiterals", fn := fun _ => fun
  | [d1, d2, d3] => { results := [.lit (.bool true)], args := [d1, d2, d3] }
  | _ => none }
def fnOwnLiteralsFlattenToInitiatorLiteralsRow : OpenClaim := { program := "qxb6600792a", sum := "9870d966fd6ac626eccd224b365abf7f65f815e279cb8a6113bfbde1a4ea952b", func := "example.com/pathaccord/pathaccord/zzlaws_root_b1.FnOwnLiteralsFlattenToInitiatorLiterals", spec := "fnOwnLiteralsFlattenToInitiatorLiterals", apart := false }
def FnOwnLiteralsFlattenToInitiatorLiteralsSaid : Prop := fnOwnLiteralsFlattenToInitiatorLiteralsRow.holds Try.pinned (OpenSpec.ofChange fnOwnLiteralsFlattenToInitiatorLiteralsSpec)

/-- ITS FALSE NEIGHBOUR: 'it returns false'. Refute it at one input. -/
def fnOwnLiteralsFlattenToInitiatorLiteralsWrong : ChangeSpec := { name := "fnOwnLiteralsFlattenToInitiatorLiterals", fn := fun _ => fun
  | [d1, d2, d3] => { results := [.lit (.bool false)], args := [d1, d2, d3] }
  | _ => none }
def FnOwnLiteralsFlattenToInitiatorLiteralsWrongFalsely : Prop := fnOwnLiteralsFlattenToInitiatorLiteralsRow.holds Try.pinned (OpenSpec.ofChange fnOwnLiteralsFlattenToInitiatorLiteralsWrong)

/-- 'zzlaws_root_b1.FnOwnLiteralsResolveOnlyToEarlierInitiatorLiterals': WHATEVER THE INPUT: true; the input reads as it did. -/
def fnOwnLiteralsResolveOnlyToEarlierInitiatorLiteralsSpec : ChangeSpec := { name := "fnOwnLiteralsResolveOnlyToEarlierInitiatorLiterals", fn := fun _ => fun
  | [d1, d2, d3] => { results := [.lit (.bool true)], args := [d1, d2, d3] }
  | _ => none }
def fnOwnLiteralsResolveOnlyToEarlierInitiatorLiteralsRow : OpenClaim := { program := "qxb6600792a", sum := "9870d966fd6ac626eccd224b365abf7f65f815e279cb8a6113bfbde1a4ea952b", func := "example.com/pathaccord/pathaccord/zzlaws_root_b1.FnOwnLiteralsResolveOnlyToEarlierInitiatorLiterals", spec := "fnOwnLiteralsResolveOnlyToEarlierInitiatorLiterals", apart := false }
def FnOwnLiteralsResolveOnlyToEarlierInitiatorLiteralsSaid : Prop := fnOwnLiteralsResolveOnlyToEarlierInitiatorLiteralsRow.holds Try.pinned (OpenSpec.ofChange fnOwnLiteralsResolveOnlyToEarlierInitiatorLiteralsSpec)

/-- ITS FALSE NEIGHBOUR: 'it returns false'. Refute it at one input. -/
def fnOwnLiteralsResolveOnlyToEarlierInitiatorLiteralsWrong : ChangeSpec := { name := "fnOwnLiteralsResolveOnlyToEarlierInitiatorLiterals", fn := fun _ => fun
  | [d1, d2, d3] => { results := [.lit (.bool false)], args := [d1, d2, d3] }
  | _ => none }
def FnOwnLiteralsResolveOnlyToEarlierInitiatorLiteralsWrongFalsely : Prop := fnOwnLiteralsResolveOnlyToEarlierInitiatorLiteralsRow.holds Try.pinned (OpenSpec.ofChange fnOwnLiteralsResolveOnlyToEarlierInitiatorLiteralsWrong)

/-- 'zzlaws_root_b1.FnOwnLiteralsMonotoneInNAndLimit': WHATEVER THE INPUT: true; the input reads as it did. -/
def fnOwnLiteralsMonotoneInNAndLimitSpec : ChangeSpec := { name := "fnOwnLiteralsMonotoneInNAndLimit", fn := fun _ => fun
  | [d1, d2, d3, d4, d5] => { results := [.lit (.bool true)], args := [d1, d2, d3, d4, d5] }
  | _ => none }
def fnOwnLiteralsMonotoneInNAndLimitRow : OpenClaim := { program := "qxb6600792a", sum := "9870d966fd6ac626eccd224b365abf7f65f815e279cb8a6113bfbde1a4ea952b", func := "example.com/pathaccord/pathaccord/zzlaws_root_b1.FnOwnLiteralsMonotoneInNAndLimit", spec := "fnOwnLiteralsMonotoneInNAndLimit", apart := false }
def FnOwnLiteralsMonotoneInNAndLimitSaid : Prop := fnOwnLiteralsMonotoneInNAndLimitRow.holds Try.pinned (OpenSpec.ofChange fnOwnLiteralsMonotoneInNAndLimitSpec)

/-- ITS FALSE NEIGHBOUR: 'it returns false'. Refute it at one input. -/
def fnOwnLiteralsMonotoneInNAndLimitWrong : ChangeSpec := { name := "fnOwnLiteralsMonotoneInNAndLimit", fn := fun _ => fun
  | [d1, d2, d3, d4, d5] => { results := [.lit (.bool false)], args := [d1, d2, d3, d4, d5] }
  | _ => none }
def FnOwnLiteralsMonotoneInNAndLimitWrongFalsely : Prop := fnOwnLiteralsMonotoneInNAndLimitRow.holds Try.pinned (OpenSpec.ofChange fnOwnLiteralsMonotoneInNAndLimitWrong)

/-- 'zzlaws_root_b1.FnCompositionsNameTheIndexedSegments': WHATEVER THE INPUT: true; the input reads as it did. -/
def fnCompositionsNameTheIndexedSegmentsSpec : ChangeSpec := { name := "fnCompositionsNameTheIndexedSegments", fn := fun _ => fun
  | [d1, d2] => { results := [.lit (.bool true)], args := [d1, d2] }
  | _ => none }
def fnCompositionsNameTheIndexedSegmentsRow : OpenClaim := { program := "qxb6600792a", sum := "9870d966fd6ac626eccd224b365abf7f65f815e279cb8a6113bfbde1a4ea952b", func := "example.com/pathaccord/pathaccord/zzlaws_root_b1.FnCompositionsNameTheIndexedSegments", spec := "fnCompositionsNameTheIndexedSegments", apart := false }
def FnCompositionsNameTheIndexedSegmentsSaid : Prop := fnCompositionsNameTheIndexedSegmentsRow.holds Try.pinned (OpenSpec.ofChange fnCompositionsNameTheIndexedSegmentsSpec)

/-- ITS FALSE NEIGHBOUR: 'it returns false'. Refute it at one input. -/
def fnCompositionsNameTheIndexedSegmentsWrong : ChangeSpec := { name := "fnCompositionsNameTheIndexedSegments", fn := fun _ => fun
  | [d1, d2] => { results := [.lit (.bool false)], args := [d1, d2] }
  | _ => none }
def FnCompositionsNameTheIndexedSegmentsWrongFalsely : Prop := fnCompositionsNameTheIndexedSegmentsRow.holds Try.pinned (OpenSpec.ofChange fnCompositionsNameTheIndexedSegmentsWrong)

/-- 'zzlaws_root_b1.FnCompositionsAppendLeavesSiblingsIntact': WHATEVER THE INPUT: true; the input reads as it did. -/
def fnCompositionsAppendLeavesSiblingsIntactSpec : ChangeSpec := { name := "fnCompositionsAppendLeavesSiblingsIntact", fn := fun _ => fun
  | [d1, d2] => { results := [.lit (.bool true)], args := [d1, d2] }
  | _ => none }
def fnCompositionsAppendLeavesSiblingsIntactRow : OpenClaim := { program := "qxb6600792a", sum := "9870d966fd6ac626eccd224b365abf7f65f815e279cb8a6113bfbde1a4ea952b", func := "example.com/pathaccord/pathaccord/zzlaws_root_b1.FnCompositionsAppendLeavesSiblingsIntact", spec := "fnCompositionsAppendLeavesSiblingsIntact", apart := false }
def FnCompositionsAppendLeavesSiblingsIntactSaid : Prop := fnCompositionsAppendLeavesSiblingsIntactRow.holds Try.pinned (OpenSpec.ofChange fnCompositionsAppendLeavesSiblingsIntactSpec)

/-- ITS FALSE NEIGHBOUR: 'it returns false'. Refute it at one input. -/
def fnCompositionsAppendLeavesSiblingsIntactWrong : ChangeSpec := { name := "fnCompositionsAppendLeavesSiblingsIntact", fn := fun _ => fun
  | [d1, d2] => { results := [.lit (.bool false)], args := [d1, d2] }
  | _ => none }
def FnCompositionsAppendLeavesSiblingsIntactWrongFalsely : Prop := fnCompositionsAppendLeavesSiblingsIntactRow.holds Try.pinned (OpenSpec.ofChange fnCompositionsAppendLeavesSiblingsIntactWrong)

/-- 'zzlaws_root_b1.FnCompositionsReadBackByOwnLiterals': WHATEVER THE INPUT: true; the input reads as it did. -/
def fnCompositionsReadBackByOwnLiteralsSpec : ChangeSpec := { name := "fnCompositionsReadBackByOwnLiterals", fn := fun _ => fun
  | [d1, d2, d3, d4, d5] => { results := [.lit (.bool true)], args := [d1, d2, d3, d4, d5] }
  | _ => none }
def fnCompositionsReadBackByOwnLiteralsRow : OpenClaim := { program := "qxb6600792a", sum := "9870d966fd6ac626eccd224b365abf7f65f815e279cb8a6113bfbde1a4ea952b", func := "example.com/pathaccord/pathaccord/zzlaws_root_b1.FnCompositionsReadBackByOwnLiterals", spec := "fnCompositionsReadBackByOwnLiterals", apart := false }
def FnCompositionsReadBackByOwnLiteralsSaid : Prop := fnCompositionsReadBackByOwnLiteralsRow.holds Try.pinned (OpenSpec.ofChange fnCompositionsReadBackByOwnLiteralsSpec)

/-- ITS FALSE NEIGHBOUR: 'it returns false'. Refute it at one input. -/
def fnCompositionsReadBackByOwnLiteralsWrong : ChangeSpec := { name := "fnCompositionsReadBackByOwnLiterals", fn := fun _ => fun
  | [d1, d2, d3, d4, d5] => { results := [.lit (.bool false)], args := [d1, d2, d3, d4, d5] }
  | _ => none }
def FnCompositionsReadBackByOwnLiteralsWrongFalsely : Prop := fnCompositionsReadBackByOwnLiteralsRow.holds Try.pinned (OpenSpec.ofChange fnCompositionsReadBackByOwnLiteralsWrong)

end Rows
end Go.Proofs.Qxb6600792a
