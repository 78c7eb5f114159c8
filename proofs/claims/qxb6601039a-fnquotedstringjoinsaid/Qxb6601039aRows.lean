/-
  No cell of these rows narrows 'for every input' (looked for: loops, veiled, ifaces, maps, wideKeys, modest, calm, conditions, laid).
  DERIVED. THE GIVEN ROWS OF THIS SEAT. 8 by the template 'for every input the law returns true; each argument reads behind the call as it read before'; 0 by the template 'total and deterministic' (their statements: Qxb6601039aTotals.lean).
  GIVEN WITH THE SEED: the statements are not yours to turn. If you find one false, say at which input.
  Laid BY PROGRAM, IN A SANDBOX (cutbox-rows.mjs): the forced cells as the released guide's own fill.sh prints them over the translation d4c9cf7e8d724f98… (all of the seat's roots in one cut). By AI agents, Wed Nov 11 2026. No macro, syntax, notation, axiom, sorry.
-/
import Derived.Test.Qxb6601039aChecked
import GoSem.Claim
import GoSem.ClaimJoined
import GoSem.ClaimMapViews
import Derived.JoinedTies
import Derived.KernelRfl
namespace Go.Proofs.Qxb6601039a
/- THE CELL 'sum', in the pinned program and in every row, IS THE sha256 OF THE DUMP (.gsa) THAT Qxb6601039aProg.lean LOADS. Nothing in Lean hashes anything: it is a label: what it is worth is what the hold of that sum in a sandbox is worth. -/
noncomputable def Try.pinned : Pinned := { name := "qxb6601039a", sum := "d4c9cf7e8d724f98bf9aeef624419a65fe339e68239126146588ce459f743e78", checked := Try.checked }
namespace Rows
def none {H : Type} : Left H := { results := [], args := [] }

/-- 'zzlaws_internal_values_b1.FnQuotedStringExact': WHATEVER THE INPUT: true; the input reads as it did. -/
def fnQuotedStringExactSpec : ChangeSpec := { name := "fnQuotedStringExact", fn := fun _ => fun
  | [d] => { results := [.lit (.bool true)], args := [d] }
  | _ => none }
def fnQuotedStringExactRow : OpenClaim := { program := "qxb6601039a", sum := "d4c9cf7e8d724f98bf9aeef624419a65fe339e68239126146588ce459f743e78", func := "example.com/rollcall/rollcall/zzlaws_internal_values_b1.FnQuotedStringExact", spec := "fnQuotedStringExact", apart := false }
def FnQuotedStringExactSaid : Prop := fnQuotedStringExactRow.holds Try.pinned (OpenSpec.ofChange fnQuotedStringExactSpec)

/-- ITS FALSE NEIGHBOUR: 'it returns false'. Refute it at one input. -/
def fnQuotedStringExactWrong : ChangeSpec := { name := "fnQuotedStringExact", fn := fun _ => fun
  | [d] => { results := [.lit (.bool false)], args := [d] }
  | _ => none }
def FnQuotedStringExactWrongFalsely : Prop := fnQuotedStringExactRow.holds Try.pinned (OpenSpec.ofChange fnQuotedStringExactWrong)

/-- 'zzlaws_internal_values_b1.FnQuotedStringEscapeAccepted': WHATEVER THE INPUT: true; the input reads as it did. -/
def fnQuotedStringEscapeAcceptedSpec : ChangeSpec := { name := "fnQuotedStringEscapeAccepted", fn := fun _ => fun
  | [d] => { results := [.lit (.bool true)], args := [d] }
  | _ => none }
def fnQuotedStringEscapeAcceptedRow : OpenClaim := { program := "qxb6601039a", sum := "d4c9cf7e8d724f98bf9aeef624419a65fe339e68239126146588ce459f743e78", func := "example.com/rollcall/rollcall/zzlaws_internal_values_b1.FnQuotedStringEscapeAccepted", spec := "fnQuotedStringEscapeAccepted", apart := false }
def FnQuotedStringEscapeAcceptedSaid : Prop := fnQuotedStringEscapeAcceptedRow.holds Try.pinned (OpenSpec.ofChange fnQuotedStringEscapeAcceptedSpec)

/-- ITS FALSE NEIGHBOUR: 'it returns false'. Refute it at one input. -/
def fnQuotedStringEscapeAcceptedWrong : ChangeSpec := { name := "fnQuotedStringEscapeAccepted", fn := fun _ => fun
  | [d] => { results := [.lit (.bool false)], args := [d] }
  | _ => none }
def FnQuotedStringEscapeAcceptedWrongFalsely : Prop := fnQuotedStringEscapeAcceptedRow.holds Try.pinned (OpenSpec.ofChange fnQuotedStringEscapeAcceptedWrong)

/-- 'zzlaws_internal_values_b1.FnQuotedStringJoin': WHATEVER THE INPUT: true; the input reads as it did. -/
def fnQuotedStringJoinSpec : ChangeSpec := { name := "fnQuotedStringJoin", fn := fun _ => fun
  | [d1, d2] => { results := [.lit (.bool true)], args := [d1, d2] }
  | _ => none }
def fnQuotedStringJoinRow : OpenClaim := { program := "qxb6601039a", sum := "d4c9cf7e8d724f98bf9aeef624419a65fe339e68239126146588ce459f743e78", func := "example.com/rollcall/rollcall/zzlaws_internal_values_b1.FnQuotedStringJoin", spec := "fnQuotedStringJoin", apart := false }
def FnQuotedStringJoinSaid : Prop := fnQuotedStringJoinRow.holds Try.pinned (OpenSpec.ofChange fnQuotedStringJoinSpec)

/-- ITS FALSE NEIGHBOUR: 'it returns false'. Refute it at one input. -/
def fnQuotedStringJoinWrong : ChangeSpec := { name := "fnQuotedStringJoin", fn := fun _ => fun
  | [d1, d2] => { results := [.lit (.bool false)], args := [d1, d2] }
  | _ => none }
def FnQuotedStringJoinWrongFalsely : Prop := fnQuotedStringJoinRow.holds Try.pinned (OpenSpec.ofChange fnQuotedStringJoinWrong)

/-- 'zzlaws_internal_values_b1.FnValidNamePrefixClosed': WHATEVER THE INPUT: true; the input reads as it did. -/
def fnValidNamePrefixClosedSpec : ChangeSpec := { name := "fnValidNamePrefixClosed", fn := fun _ => fun
  | [d] => { results := [.lit (.bool true)], args := [d] }
  | _ => none }
def fnValidNamePrefixClosedRow : OpenClaim := { program := "qxb6601039a", sum := "d4c9cf7e8d724f98bf9aeef624419a65fe339e68239126146588ce459f743e78", func := "example.com/rollcall/rollcall/zzlaws_internal_values_b1.FnValidNamePrefixClosed", spec := "fnValidNamePrefixClosed", apart := false }
def FnValidNamePrefixClosedSaid : Prop := fnValidNamePrefixClosedRow.holds Try.pinned (OpenSpec.ofChange fnValidNamePrefixClosedSpec)

/-- ITS FALSE NEIGHBOUR: 'it returns false'. Refute it at one input. -/
def fnValidNamePrefixClosedWrong : ChangeSpec := { name := "fnValidNamePrefixClosed", fn := fun _ => fun
  | [d] => { results := [.lit (.bool false)], args := [d] }
  | _ => none }
def FnValidNamePrefixClosedWrongFalsely : Prop := fnValidNamePrefixClosedRow.holds Try.pinned (OpenSpec.ofChange fnValidNamePrefixClosedWrong)

/-- 'zzlaws_internal_values_b1.FnValidNameConcat': WHATEVER THE INPUT: true; the input reads as it did. -/
def fnValidNameConcatSpec : ChangeSpec := { name := "fnValidNameConcat", fn := fun _ => fun
  | [d1, d2] => { results := [.lit (.bool true)], args := [d1, d2] }
  | _ => none }
def fnValidNameConcatRow : OpenClaim := { program := "qxb6601039a", sum := "d4c9cf7e8d724f98bf9aeef624419a65fe339e68239126146588ce459f743e78", func := "example.com/rollcall/rollcall/zzlaws_internal_values_b1.FnValidNameConcat", spec := "fnValidNameConcat", apart := false }
def FnValidNameConcatSaid : Prop := fnValidNameConcatRow.holds Try.pinned (OpenSpec.ofChange fnValidNameConcatSpec)

/-- ITS FALSE NEIGHBOUR: 'it returns false'. Refute it at one input. -/
def fnValidNameConcatWrong : ChangeSpec := { name := "fnValidNameConcat", fn := fun _ => fun
  | [d1, d2] => { results := [.lit (.bool false)], args := [d1, d2] }
  | _ => none }
def FnValidNameConcatWrongFalsely : Prop := fnValidNameConcatRow.holds Try.pinned (OpenSpec.ofChange fnValidNameConcatWrong)

/-- 'zzlaws_internal_values_b1.FnDigitsExact': WHATEVER THE INPUT: true; the input reads as it did. -/
def fnDigitsExactSpec : ChangeSpec := { name := "fnDigitsExact", fn := fun _ => fun
  | [d1, d2, d3] => { results := [.lit (.bool true)], args := [d1, d2, d3] }
  | _ => none }
def fnDigitsExactRow : OpenClaim := { program := "qxb6601039a", sum := "d4c9cf7e8d724f98bf9aeef624419a65fe339e68239126146588ce459f743e78", func := "example.com/rollcall/rollcall/zzlaws_internal_values_b1.FnDigitsExact", spec := "fnDigitsExact", apart := false }
def FnDigitsExactSaid : Prop := fnDigitsExactRow.holds Try.pinned (OpenSpec.ofChange fnDigitsExactSpec)

/-- ITS FALSE NEIGHBOUR: 'it returns false'. Refute it at one input. -/
def fnDigitsExactWrong : ChangeSpec := { name := "fnDigitsExact", fn := fun _ => fun
  | [d1, d2, d3] => { results := [.lit (.bool false)], args := [d1, d2, d3] }
  | _ => none }
def FnDigitsExactWrongFalsely : Prop := fnDigitsExactRow.holds Try.pinned (OpenSpec.ofChange fnDigitsExactWrong)

/-- 'zzlaws_internal_values_b1.FnDigitsRoundTrip': WHATEVER THE INPUT: true; the input reads as it did. -/
def fnDigitsRoundTripSpec : ChangeSpec := { name := "fnDigitsRoundTrip", fn := fun _ => fun
  | [d1, d2, d3] => { results := [.lit (.bool true)], args := [d1, d2, d3] }
  | _ => none }
def fnDigitsRoundTripRow : OpenClaim := { program := "qxb6601039a", sum := "d4c9cf7e8d724f98bf9aeef624419a65fe339e68239126146588ce459f743e78", func := "example.com/rollcall/rollcall/zzlaws_internal_values_b1.FnDigitsRoundTrip", spec := "fnDigitsRoundTrip", apart := false }
def FnDigitsRoundTripSaid : Prop := fnDigitsRoundTripRow.holds Try.pinned (OpenSpec.ofChange fnDigitsRoundTripSpec)

/-- ITS FALSE NEIGHBOUR: 'it returns false'. Refute it at one input. -/
def fnDigitsRoundTripWrong : ChangeSpec := { name := "fnDigitsRoundTrip", fn := fun _ => fun
  | [d1, d2, d3] => { results := [.lit (.bool false)], args := [d1, d2, d3] }
  | _ => none }
def FnDigitsRoundTripWrongFalsely : Prop := fnDigitsRoundTripRow.holds Try.pinned (OpenSpec.ofChange fnDigitsRoundTripWrong)

/-- 'zzlaws_internal_values_b1.FnDigitsSplit': WHATEVER THE INPUT: true; the input reads as it did. -/
def fnDigitsSplitSpec : ChangeSpec := { name := "fnDigitsSplit", fn := fun _ => fun
  | [d1, d2, d3] => { results := [.lit (.bool true)], args := [d1, d2, d3] }
  | _ => none }
def fnDigitsSplitRow : OpenClaim := { program := "qxb6601039a", sum := "d4c9cf7e8d724f98bf9aeef624419a65fe339e68239126146588ce459f743e78", func := "example.com/rollcall/rollcall/zzlaws_internal_values_b1.FnDigitsSplit", spec := "fnDigitsSplit", apart := false }
def FnDigitsSplitSaid : Prop := fnDigitsSplitRow.holds Try.pinned (OpenSpec.ofChange fnDigitsSplitSpec)

/-- ITS FALSE NEIGHBOUR: 'it returns false'. Refute it at one input. -/
def fnDigitsSplitWrong : ChangeSpec := { name := "fnDigitsSplit", fn := fun _ => fun
  | [d1, d2, d3] => { results := [.lit (.bool false)], args := [d1, d2, d3] }
  | _ => none }
def FnDigitsSplitWrongFalsely : Prop := fnDigitsSplitRow.holds Try.pinned (OpenSpec.ofChange fnDigitsSplitWrong)

end Rows
end Go.Proofs.Qxb6601039a
