/-
  DERIVED. GIVEN WITH THE SEED: THE CARDS: each row of Qxb6600469aDoorRows.lean that lists a variable, with what it lists TIED to the program's text (the seventh form; the later family's looks); each row that meets fmt, with fmt's text TOLD by the authors' own Lean function (tested against real Go, not proved from fmt's source: count such statements apart). THE CARD IS WHAT COUNTS. Prove the row's statement (the work); the ties are given (Qxb6600469aDoorTie.lean); close each card by the builder's one call (the guide's Derived/Test/ToyasCard.lean, 'card_holds'). Laid BY PROGRAM, IN A SANDBOX (cutbox-door.mjs). By AI agents, Wed Nov 11 2026. No macro, syntax, notation, axiom, sorry.
-/
import Derived.Test.Qxb6600469aDoorRows
import GoSem.ClaimSeven
namespace Go.Proofs.Qxb6600469aDoor
namespace Rows

/-- THE TIED CARD OF 'zzlaws_api_b1.FnWireTypeStringCaseTable'. -/
def fnWireTypeStringCaseTableCard : Claim7 := { stood := { row := fnWireTypeStringCaseTableRow, standIns := [], harness := (true, "53d7302d010499374988e9e04dbdfab9c3c5c9370e0f57adc8bc8124e5f44743"), looks := false }, kinds := [], alts := [], laidByText := true, laidKinds := [.data, .data, .data], laidTests := true, laidLooks := .later }
def FnWireTypeStringCaseTableCardSaid : Prop := Claim7.holds Tryd.pinned (.plain (OpenSpec.ofChange fnWireTypeStringCaseTableSpec)) fnWireTypeStringCaseTableCard

/-- THE TIED CARD OF 'zzlaws_api_b1.FnWireTypeStringInjective'. -/
def fnWireTypeStringInjectiveCard : Claim7 := { stood := { row := fnWireTypeStringInjectiveRow, standIns := [], harness := (true, "53d7302d010499374988e9e04dbdfab9c3c5c9370e0f57adc8bc8124e5f44743"), looks := false }, kinds := [], alts := [], laidByText := true, laidKinds := [.data, .data, .data], laidTests := true, laidLooks := .later }
def FnWireTypeStringInjectiveCardSaid : Prop := Claim7.holds Tryd.pinned (.plain (OpenSpec.ofChange fnWireTypeStringInjectiveSpec)) fnWireTypeStringInjectiveCard

/-- THE TIED CARD OF 'zzlaws_api_b1.FnOperationParametersSpec'. -/
def fnOperationParametersSpecCard : Claim7 := { stood := { row := fnOperationParametersSpecRow, standIns := [], harness := (true, "53d7302d010499374988e9e04dbdfab9c3c5c9370e0f57adc8bc8124e5f44743"), looks := false }, kinds := [], alts := [], laidByText := true, laidKinds := [.data, .pinned], laidTests := true, laidLooks := .later }
def FnOperationParametersSpecCardSaid : Prop := Claim7.holds Tryd.pinned (.plain (OpenSpec.ofChange fnOperationParametersSpecSpec)) fnOperationParametersSpecCard

/-- THE TIED CARD OF 'zzlaws_api_b1.FnOperationParametersPathConcat'. -/
def fnOperationParametersPathConcatCard : Claim7 := { stood := { row := fnOperationParametersPathConcatRow, standIns := [], harness := (true, "53d7302d010499374988e9e04dbdfab9c3c5c9370e0f57adc8bc8124e5f44743"), looks := false }, kinds := [], alts := [], laidByText := true, laidKinds := [.data, .pinned], laidTests := true, laidLooks := .later }
def FnOperationParametersPathConcatCardSaid : Prop := Claim7.holds Tryd.pinned (.plain (OpenSpec.ofChange fnOperationParametersPathConcatSpec)) fnOperationParametersPathConcatCard
end Rows
end Go.Proofs.Qxb6600469aDoor
