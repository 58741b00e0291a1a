/-
  No cell of these rows narrows 'for every input' (looked for: loops, veiled, ifaces, maps, wideKeys, modest, calm, conditions, laid).
  DERIVED. THE GIVEN ROWS OF THIS SEAT. 4 by the template 'for every input the law returns true; each argument reads behind the call as it read before'; 0 by the template 'total and deterministic' (their statements: Qxb6602824aTotals.lean).
  GIVEN WITH THE SEED: the statements are not yours to turn. If you find one false, say at which input.
  Laid BY PROGRAM, IN A SANDBOX (cutbox-rows.mjs): the forced cells as the released guide's own fill.sh prints them over the translation 9b701a4dd57bef0b… (all of the seat's roots in one cut). By AI agents, Wed Nov 11 2026. No macro, syntax, notation, axiom, sorry.
-/
import Derived.Test.Qxb6602824aChecked
import GoSem.Claim
import GoSem.ClaimJoined
import GoSem.ClaimMapViews
import Derived.JoinedTies
import Derived.KernelRfl
namespace Go.Proofs.Qxb6602824a
/- THE CELL 'sum', in the pinned program and in every row, IS THE sha256 OF THE DUMP (.gsa) THAT Qxb6602824aProg.lean LOADS. Nothing in Lean hashes anything: it is a label: what it is worth is what the hold of that sum in a sandbox is worth. -/
noncomputable def Try.pinned : Pinned := { name := "qxb6602824a", sum := "9b701a4dd57bef0b0c4ae1942e4261332b048c9660f431ef6c603646b887bc88", checked := Try.checked }
namespace Rows
def none {H : Type} : Left H := { results := [], args := [] }

/-- 'zzlaws_internal_eventjson_b1.FnHex4MatchesDigitTable': WHATEVER THE INPUT: true; the input reads as it did. -/
def fnHex4MatchesDigitTableSpec : ChangeSpec := { name := "fnHex4MatchesDigitTable", fn := fun _ => fun
  | [d] => { results := [.lit (.bool true)], args := [d] }
  | _ => none }
def fnHex4MatchesDigitTableRow : OpenClaim := { program := "qxb6602824a", sum := "9b701a4dd57bef0b0c4ae1942e4261332b048c9660f431ef6c603646b887bc88", func := "example.com/keen-relay/keen-relay/zzlaws_internal_eventjson_b1.FnHex4MatchesDigitTable", spec := "fnHex4MatchesDigitTable", apart := false }
def FnHex4MatchesDigitTableSaid : Prop := fnHex4MatchesDigitTableRow.holds Try.pinned (OpenSpec.ofChange fnHex4MatchesDigitTableSpec)

/-- ITS FALSE NEIGHBOUR: 'it returns false'. Refute it at one input. -/
def fnHex4MatchesDigitTableWrong : ChangeSpec := { name := "fnHex4MatchesDigitTable", fn := fun _ => fun
  | [d] => { results := [.lit (.bool false)], args := [d] }
  | _ => none }
def FnHex4MatchesDigitTableWrongFalsely : Prop := fnHex4MatchesDigitTableRow.holds Try.pinned (OpenSpec.ofChange fnHex4MatchesDigitTableWrong)

/-- 'zzlaws_internal_eventjson_b1.FnHex4ReadsFourWrittenDigits': WHATEVER THE INPUT: true; the input reads as it did. -/
def fnHex4ReadsFourWrittenDigitsSpec : ChangeSpec := { name := "fnHex4ReadsFourWrittenDigits", fn := fun _ => fun
  | [d1, d2, d3] => { results := [.lit (.bool true)], args := [d1, d2, d3] }
  | _ => none }
def fnHex4ReadsFourWrittenDigitsRow : OpenClaim := { program := "qxb6602824a", sum := "9b701a4dd57bef0b0c4ae1942e4261332b048c9660f431ef6c603646b887bc88", func := "example.com/keen-relay/keen-relay/zzlaws_internal_eventjson_b1.FnHex4ReadsFourWrittenDigits", spec := "fnHex4ReadsFourWrittenDigits", apart := false }
def FnHex4ReadsFourWrittenDigitsSaid : Prop := fnHex4ReadsFourWrittenDigitsRow.holds Try.pinned (OpenSpec.ofChange fnHex4ReadsFourWrittenDigitsSpec)

/-- ITS FALSE NEIGHBOUR: 'it returns false'. Refute it at one input. -/
def fnHex4ReadsFourWrittenDigitsWrong : ChangeSpec := { name := "fnHex4ReadsFourWrittenDigits", fn := fun _ => fun
  | [d1, d2, d3] => { results := [.lit (.bool false)], args := [d1, d2, d3] }
  | _ => none }
def FnHex4ReadsFourWrittenDigitsWrongFalsely : Prop := fnHex4ReadsFourWrittenDigitsRow.holds Try.pinned (OpenSpec.ofChange fnHex4ReadsFourWrittenDigitsWrong)

/-- 'zzlaws_internal_eventjson_b1.FnAppendRawIsCompactThenEscape': WHATEVER THE INPUT: true; the input reads as it did. -/
def fnAppendRawIsCompactThenEscapeSpec : ChangeSpec := { name := "fnAppendRawIsCompactThenEscape", fn := fun _ => fun
  | [d1, d2] => { results := [.lit (.bool true)], args := [d1, d2] }
  | _ => none }
def fnAppendRawIsCompactThenEscapeRow : OpenClaim := { program := "qxb6602824a", sum := "9b701a4dd57bef0b0c4ae1942e4261332b048c9660f431ef6c603646b887bc88", func := "example.com/keen-relay/keen-relay/zzlaws_internal_eventjson_b1.FnAppendRawIsCompactThenEscape", spec := "fnAppendRawIsCompactThenEscape", apart := false }
def FnAppendRawIsCompactThenEscapeSaid : Prop := fnAppendRawIsCompactThenEscapeRow.holds Try.pinned (OpenSpec.ofChange fnAppendRawIsCompactThenEscapeSpec)

/-- ITS FALSE NEIGHBOUR: 'it returns false'. Refute it at one input. -/
def fnAppendRawIsCompactThenEscapeWrong : ChangeSpec := { name := "fnAppendRawIsCompactThenEscape", fn := fun _ => fun
  | [d1, d2] => { results := [.lit (.bool false)], args := [d1, d2] }
  | _ => none }
def FnAppendRawIsCompactThenEscapeWrongFalsely : Prop := fnAppendRawIsCompactThenEscapeRow.holds Try.pinned (OpenSpec.ofChange fnAppendRawIsCompactThenEscapeWrong)

/-- 'zzlaws_internal_eventjson_b1.FnAppendRawIsIdempotent': WHATEVER THE INPUT: true; the input reads as it did. -/
def fnAppendRawIsIdempotentSpec : ChangeSpec := { name := "fnAppendRawIsIdempotent", fn := fun _ => fun
  | [d] => { results := [.lit (.bool true)], args := [d] }
  | _ => none }
def fnAppendRawIsIdempotentRow : OpenClaim := { program := "qxb6602824a", sum := "9b701a4dd57bef0b0c4ae1942e4261332b048c9660f431ef6c603646b887bc88", func := "example.com/keen-relay/keen-relay/zzlaws_internal_eventjson_b1.FnAppendRawIsIdempotent", spec := "fnAppendRawIsIdempotent", apart := false }
def FnAppendRawIsIdempotentSaid : Prop := fnAppendRawIsIdempotentRow.holds Try.pinned (OpenSpec.ofChange fnAppendRawIsIdempotentSpec)

/-- ITS FALSE NEIGHBOUR: 'it returns false'. Refute it at one input. -/
def fnAppendRawIsIdempotentWrong : ChangeSpec := { name := "fnAppendRawIsIdempotent", fn := fun _ => fun
  | [d] => { results := [.lit (.bool false)], args := [d] }
  | _ => none }
def FnAppendRawIsIdempotentWrongFalsely : Prop := fnAppendRawIsIdempotentRow.holds Try.pinned (OpenSpec.ofChange fnAppendRawIsIdempotentWrong)

end Rows
end Go.Proofs.Qxb6602824a
