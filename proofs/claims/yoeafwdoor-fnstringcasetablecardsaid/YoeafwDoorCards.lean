/-
  DERIVED. GIVEN WITH THE SEED: THE CARDS: each row of YoeafwDoorRows.lean that lists a variable, with what it lists TIED to the program's text (the seventh form; the later family's looks); each row that meets fmt, with fmt's text TOLD by the authors' own Lean function (tested against real Go, not proved from fmt's source: count such statements apart). THE CARD IS WHAT COUNTS. Prove the row's statement (the work); the ties are given (YoeafwDoorTie.lean); close each card by the builder's one call (the guide's Derived/Test/ToyasCard.lean, 'card_holds'). Laid BY PROGRAM, IN A SANDBOX (cutbox-door.mjs). By AI agents, Wed Nov 11 2026. No macro, syntax, notation, axiom, sorry.
-/
import Derived.Test.YoeafwDoorRows
import GoSem.ClaimSeven
namespace Go.Proofs.YoeafwDoor
namespace Rows

/-- THE TIED CARD OF 'zzlaws_token_b1.FnStringCaseTable'. -/
def fnStringCaseTableCard : Claim7 := { stood := { row := fnStringCaseTableRow, standIns := [], harness := (true, "f6909e041f6f0b8f31689eaeb446942d431776d372fd96884a43e7a3ac310e3f"), looks := false }, kinds := [], alts := [], laidByText := true, laidKinds := [.data, .data, .data, .data], laidTests := true, laidLooks := .later }
def FnStringCaseTableCardSaid : Prop := Claim7.holds Eafg.pinned (.plain (OpenSpec.ofChange fnStringCaseTableSpec)) fnStringCaseTableCard

/-- THE TIED CARD OF 'zzlaws_token_b1.FnStringInjective'. -/
def fnStringInjectiveCard : Claim7 := { stood := { row := fnStringInjectiveRow, standIns := [], harness := (true, "f6909e041f6f0b8f31689eaeb446942d431776d372fd96884a43e7a3ac310e3f"), looks := false }, kinds := [], alts := [], laidByText := true, laidKinds := [.data, .data, .data, .data], laidTests := true, laidLooks := .later }
def FnStringInjectiveCardSaid : Prop := Claim7.holds Eafg.pinned (.plain (OpenSpec.ofChange fnStringInjectiveSpec)) fnStringInjectiveCard

/-- THE TIED CARD OF 'zzlaws_token_b1.FnPrecedenceBySpelling'. -/
def fnPrecedenceBySpellingCard : Claim7 := { stood := { row := fnPrecedenceBySpellingRow, standIns := [], harness := (true, "f6909e041f6f0b8f31689eaeb446942d431776d372fd96884a43e7a3ac310e3f"), looks := false }, kinds := [], alts := [], laidByText := true, laidKinds := [.data, .data, .data, .data], laidTests := true, laidLooks := .later }
def FnPrecedenceBySpellingCardSaid : Prop := Claim7.holds Eafg.pinned (.plain (OpenSpec.ofChange fnPrecedenceBySpellingSpec)) fnPrecedenceBySpellingCard

/-- THE TIED CARD OF 'zzlaws_token_b1.FnPrecedenceBoundsAndAssign'. -/
def fnPrecedenceBoundsAndAssignCard : Claim7 := { stood := { row := fnPrecedenceBoundsAndAssignRow, standIns := [], harness := (true, "f6909e041f6f0b8f31689eaeb446942d431776d372fd96884a43e7a3ac310e3f"), looks := false }, kinds := [], alts := [], laidByText := true, laidKinds := [.data, .data, .data, .data], laidTests := true, laidLooks := .later }
def FnPrecedenceBoundsAndAssignCardSaid : Prop := Claim7.holds Eafg.pinned (.plain (OpenSpec.ofChange fnPrecedenceBoundsAndAssignSpec)) fnPrecedenceBoundsAndAssignCard

/-- THE TIED CARD OF 'zzlaws_token_b1.FnIsOperatorBySpelling'. -/
def fnIsOperatorBySpellingCard : Claim7 := { stood := { row := fnIsOperatorBySpellingRow, standIns := [], harness := (true, "f6909e041f6f0b8f31689eaeb446942d431776d372fd96884a43e7a3ac310e3f"), looks := false }, kinds := [], alts := [], laidByText := true, laidKinds := [.data, .data, .data, .data], laidTests := true, laidLooks := .later }
def FnIsOperatorBySpellingCardSaid : Prop := Claim7.holds Eafg.pinned (.plain (OpenSpec.ofChange fnIsOperatorBySpellingSpec)) fnIsOperatorBySpellingCard
end Rows
end Go.Proofs.YoeafwDoor
