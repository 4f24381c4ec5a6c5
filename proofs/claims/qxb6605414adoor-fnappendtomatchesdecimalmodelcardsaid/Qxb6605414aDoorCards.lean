/-
  DERIVED. GIVEN WITH THE SEED: THE CARDS: each row of Qxb6605414aDoorRows.lean that lists a variable, with what it lists TIED to the program's text (the seventh form; the later family's looks); each row that meets fmt, with fmt's text TOLD by the authors' own Lean function (tested against real Go, not proved from fmt's source: count such statements apart). THE CARD IS WHAT COUNTS. Prove the row's statement (the work); the ties are given (Qxb6605414aDoorTie.lean); close each card by the builder's one call (the guide's Derived/Test/ToyasCard.lean, 'card_holds'). Laid BY PROGRAM, IN A SANDBOX (cutbox-door.mjs). By AI agents, Wed Nov 11 2026. No macro, syntax, notation, axiom, sorry.
-/
import Derived.Test.Qxb6605414aDoorRows
import GoSem.ClaimSeven
namespace Go.Proofs.Qxb6605414aDoor
namespace Rows

/-- THE TIED CARD OF 'zzlaws_resource_b1.FnAppendToMatchesDecimalModel'. -/
def fnAppendToMatchesDecimalModelCard : Claim7 := { stood := { row := fnAppendToMatchesDecimalModelRow, standIns := [], harness := (true, "87bd182593328cbf1db7543561e9f6627ccbf380b4866bf704d24138f8e064cd"), looks := false }, kinds := [], alts := [], laidByText := true, laidKinds := [.data, .data, .data], laidTests := true, laidLooks := .later }
def FnAppendToMatchesDecimalModelCardSaid : Prop := Claim7.holds Tryd.pinned (.plain (OpenSpec.ofChange fnAppendToMatchesDecimalModelSpec)) fnAppendToMatchesDecimalModelCard

/-- THE TIED CARD OF 'zzlaws_resource_b1.FnAppendToReadsBackThroughLeadingDigits'. -/
def fnAppendToReadsBackThroughLeadingDigitsCard : Claim7 := { stood := { row := fnAppendToReadsBackThroughLeadingDigitsRow, standIns := [], harness := (true, "87bd182593328cbf1db7543561e9f6627ccbf380b4866bf704d24138f8e064cd"), looks := false }, kinds := [], alts := [], laidByText := true, laidKinds := [.data, .data, .data], laidTests := true, laidLooks := .later }
def FnAppendToReadsBackThroughLeadingDigitsCardSaid : Prop := Claim7.holds Tryd.pinned (.plain (OpenSpec.ofChange fnAppendToReadsBackThroughLeadingDigitsSpec)) fnAppendToReadsBackThroughLeadingDigitsCard
end Rows
end Go.Proofs.Qxb6605414aDoor
