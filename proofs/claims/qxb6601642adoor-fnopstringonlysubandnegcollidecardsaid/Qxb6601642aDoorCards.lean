/-
  DERIVED. GIVEN WITH THE SEED: THE CARDS: each row of Qxb6601642aDoorRows.lean that lists a variable, with what it lists TIED to the program's text (the seventh form; the later family's looks); each row that meets fmt, with fmt's text TOLD by the authors' own Lean function (tested against real Go, not proved from fmt's source: count such statements apart). THE CARD IS WHAT COUNTS. Prove the row's statement (the work); the ties are given (Qxb6601642aDoorTie.lean); close each card by the builder's one call (the guide's Derived/Test/ToyasCard.lean, 'card_holds'). Laid BY PROGRAM, IN A SANDBOX (cutbox-door.mjs). By AI agents, Wed Nov 11 2026. No macro, syntax, notation, axiom, sorry.
-/
import Derived.Test.Qxb6601642aDoorRows
import GoSem.ClaimSeven
namespace Go.Proofs.Qxb6601642aDoor
namespace Rows

/-- THE TIED CARD OF 'zzlaws_internal_parser_b1.FnOpStringOnlySubAndNegCollide'. -/
def fnOpStringOnlySubAndNegCollideCard : Claim7 := { stood := { row := fnOpStringOnlySubAndNegCollideRow, standIns := [], harness := (true, "1b77ca66495ca543ab1fb888655d2397c016d90d2bb83509f94dfa4805e75124"), looks := false }, kinds := [], alts := [], laidByText := true, laidKinds := [.data, .data, .data], laidTests := true, laidLooks := .later }
def FnOpStringOnlySubAndNegCollideCardSaid : Prop := Claim7.holds Tryd.pinned (.plain (OpenSpec.ofChange fnOpStringOnlySubAndNegCollideSpec)) fnOpStringOnlySubAndNegCollideCard
end Rows
end Go.Proofs.Qxb6601642aDoor
