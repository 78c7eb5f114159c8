/-
  No cell of these rows narrows 'for every input' (looked for: loops, veiled, ifaces, maps, wideKeys, modest, calm, conditions, laid).
  DERIVED. THE GIVEN ROWS OF THIS SEAT. 3 by the template 'for every input the law returns true; each argument reads behind the call as it read before'; 0 by the template 'total and deterministic' (their statements: Qxb6601734aTotals.lean).
  GIVEN WITH THE SEED: the statements are not yours to turn. If you find one false, say at which input.
  Laid BY PROGRAM, IN A SANDBOX (cutbox-rows.mjs): the forced cells as the released guide's own fill.sh prints them over the translation 345a7b882a772153… (all of the seat's roots in one cut). By AI agents, Wed Nov 11 2026. No macro, syntax, notation, axiom, sorry.
-/
import Derived.Test.Qxb6601734aChecked
import GoSem.Claim
import GoSem.ClaimJoined
import GoSem.ClaimMapViews
import Derived.JoinedTies
import Derived.KernelRfl
namespace Go.Proofs.Qxb6601734a
/- THE CELL 'sum', in the pinned program and in every row, IS THE sha256 OF THE DUMP (.gsa) THAT Qxb6601734aProg.lean LOADS. Nothing in Lean hashes anything: it is a label: what it is worth is what the hold of that sum in a sandbox is worth. -/
noncomputable def Try.pinned : Pinned := { name := "qxb6601734a", sum := "345a7b882a772153115180a5020325fbd703e7e8135a48995ac548be1b413041", checked := Try.checked }
namespace Rows
def none {H : Type} : Left H := { results := [], args := [] }

/-- 'zzlaws_store_b1.FnRuleFromFirstOccurrences': WHATEVER THE INPUT: true; the input reads as it did. -/
def fnRuleFromFirstOccurrencesSpec : ChangeSpec := { name := "fnRuleFromFirstOccurrences", fn := fun _ => fun
  | [d1, d2, d3, d4, d5, d6, d7] => { results := [.lit (.bool true)], args := [d1, d2, d3, d4, d5, d6, d7] }
  | _ => none }
def fnRuleFromFirstOccurrencesRow : OpenClaim := { program := "qxb6601734a", sum := "345a7b882a772153115180a5020325fbd703e7e8135a48995ac548be1b413041", func := "example.com/reelstate/reelstate/zzlaws_store_b1.FnRuleFromFirstOccurrences", spec := "fnRuleFromFirstOccurrences", apart := false }
def FnRuleFromFirstOccurrencesSaid : Prop := fnRuleFromFirstOccurrencesRow.holds Try.pinned (OpenSpec.ofChange fnRuleFromFirstOccurrencesSpec)

/-- ITS FALSE NEIGHBOUR: 'it returns false'. Refute it at one input. -/
def fnRuleFromFirstOccurrencesWrong : ChangeSpec := { name := "fnRuleFromFirstOccurrences", fn := fun _ => fun
  | [d1, d2, d3, d4, d5, d6, d7] => { results := [.lit (.bool false)], args := [d1, d2, d3, d4, d5, d6, d7] }
  | _ => none }
def FnRuleFromFirstOccurrencesWrongFalsely : Prop := fnRuleFromFirstOccurrencesRow.holds Try.pinned (OpenSpec.ofChange fnRuleFromFirstOccurrencesWrong)

/-- 'zzlaws_store_b1.FnRuleFromPrefixGrowsByAppending': WHATEVER THE INPUT: true; the input reads as it did. -/
def fnRuleFromPrefixGrowsByAppendingSpec : ChangeSpec := { name := "fnRuleFromPrefixGrowsByAppending", fn := fun _ => fun
  | [d1, d2, d3, d4, d5, d6, d7, d8] => { results := [.lit (.bool true)], args := [d1, d2, d3, d4, d5, d6, d7, d8] }
  | _ => none }
def fnRuleFromPrefixGrowsByAppendingRow : OpenClaim := { program := "qxb6601734a", sum := "345a7b882a772153115180a5020325fbd703e7e8135a48995ac548be1b413041", func := "example.com/reelstate/reelstate/zzlaws_store_b1.FnRuleFromPrefixGrowsByAppending", spec := "fnRuleFromPrefixGrowsByAppending", apart := false }
def FnRuleFromPrefixGrowsByAppendingSaid : Prop := fnRuleFromPrefixGrowsByAppendingRow.holds Try.pinned (OpenSpec.ofChange fnRuleFromPrefixGrowsByAppendingSpec)

/-- ITS FALSE NEIGHBOUR: 'it returns false'. Refute it at one input. -/
def fnRuleFromPrefixGrowsByAppendingWrong : ChangeSpec := { name := "fnRuleFromPrefixGrowsByAppending", fn := fun _ => fun
  | [d1, d2, d3, d4, d5, d6, d7, d8] => { results := [.lit (.bool false)], args := [d1, d2, d3, d4, d5, d6, d7, d8] }
  | _ => none }
def FnRuleFromPrefixGrowsByAppendingWrongFalsely : Prop := fnRuleFromPrefixGrowsByAppendingRow.holds Try.pinned (OpenSpec.ofChange fnRuleFromPrefixGrowsByAppendingWrong)

/-- 'zzlaws_store_b1.FnRuleFromIdempotent': WHATEVER THE INPUT: true; the input reads as it did. -/
def fnRuleFromIdempotentSpec : ChangeSpec := { name := "fnRuleFromIdempotent", fn := fun _ => fun
  | [d1, d2, d3, d4, d5, d6, d7] => { results := [.lit (.bool true)], args := [d1, d2, d3, d4, d5, d6, d7] }
  | _ => none }
def fnRuleFromIdempotentRow : OpenClaim := { program := "qxb6601734a", sum := "345a7b882a772153115180a5020325fbd703e7e8135a48995ac548be1b413041", func := "example.com/reelstate/reelstate/zzlaws_store_b1.FnRuleFromIdempotent", spec := "fnRuleFromIdempotent", apart := false }
def FnRuleFromIdempotentSaid : Prop := fnRuleFromIdempotentRow.holds Try.pinned (OpenSpec.ofChange fnRuleFromIdempotentSpec)

/-- ITS FALSE NEIGHBOUR: 'it returns false'. Refute it at one input. -/
def fnRuleFromIdempotentWrong : ChangeSpec := { name := "fnRuleFromIdempotent", fn := fun _ => fun
  | [d1, d2, d3, d4, d5, d6, d7] => { results := [.lit (.bool false)], args := [d1, d2, d3, d4, d5, d6, d7] }
  | _ => none }
def FnRuleFromIdempotentWrongFalsely : Prop := fnRuleFromIdempotentRow.holds Try.pinned (OpenSpec.ofChange fnRuleFromIdempotentWrong)

end Rows
end Go.Proofs.Qxb6601734a
