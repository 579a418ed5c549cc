/-
  DERIVED. GIVEN WITH THE SEED: THE CARDS: each row of Qxb6002464aDoorRows.lean that lists a variable, with what it lists TIED to the program's text (the seventh form; the later family's looks); each row that meets fmt, with fmt's text TOLD by the authors' own Lean function (tested against real Go, not proved from fmt's source: count such statements apart). THE CARD IS WHAT COUNTS. Prove the row's statement (the work); the ties are given (Qxb6002464aDoorTie.lean); close each card by the builder's one call (the guide's Derived/Test/ToyasCard.lean, 'card_holds'). Laid BY PROGRAM, IN A SANDBOX (cutbox-door.mjs). By AI agents, Wed Nov 11 2026. No macro, syntax, notation, axiom, sorry.
-/
import Derived.Test.Qxb6002464aDoorRows
import GoSem.ClaimSeven
namespace Go.Proofs.Qxb6002464aDoor
namespace Rows

/-- THE TIED CARD OF 'zzlaws_internal_tally_g1.FnStatusStringRoundTrip'. -/
def fnStatusStringRoundTripCard : Claim7 := { stood := { row := fnStatusStringRoundTripRow, standIns := [], harness := (true, "1e2f23fcac7ebb41e8dc2b32282058140f4dcdf01807cfc476d6c89d65d6d4a9"), looks := false }, kinds := [], alts := [], laidByText := true, laidKinds := [.data, .data, .data], laidTests := true, laidLooks := .later }
def FnStatusStringRoundTripCardSaid : Prop := Claim7.holds Tryd.pinned (.plain (OpenSpec.ofChange fnStatusStringRoundTripSpec)) fnStatusStringRoundTripCard

/-- THE TIED CARD OF 'zzlaws_iofs_g1.FnValidMatchesGrammar'. -/
def fnValidMatchesGrammarCard : Claim7 := { stood := { row := fnValidMatchesGrammarRow, standIns := [], harness := (true, "1e2f23fcac7ebb41e8dc2b32282058140f4dcdf01807cfc476d6c89d65d6d4a9"), looks := false }, kinds := [], alts := [], laidByText := true, laidKinds := [.data, .pinned], laidTests := true, laidLooks := .later }
def FnValidMatchesGrammarCardSaid : Prop := Claim7.holds Tryd.pinned (.plain (OpenSpec.ofChange fnValidMatchesGrammarSpec)) fnValidMatchesGrammarCard

/-- THE TIED CARD OF 'zzlaws_iofs_g1.FnValidJoinSplits'. -/
def fnValidJoinSplitsCard : Claim7 := { stood := { row := fnValidJoinSplitsRow, standIns := [], harness := (true, "1e2f23fcac7ebb41e8dc2b32282058140f4dcdf01807cfc476d6c89d65d6d4a9"), looks := false }, kinds := [], alts := [], laidByText := true, laidKinds := [.data, .pinned], laidTests := true, laidLooks := .later }
def FnValidJoinSplitsCardSaid : Prop := Claim7.holds Tryd.pinned (.plain (OpenSpec.ofChange fnValidJoinSplitsSpec)) fnValidJoinSplitsCard

/-- THE TIED CARD OF 'zzlaws_iofs_g1.FnValidNameIsAlreadyClean'. -/
def fnValidNameIsAlreadyCleanCard : Claim7 := { stood := { row := fnValidNameIsAlreadyCleanRow, standIns := [], harness := (true, "1e2f23fcac7ebb41e8dc2b32282058140f4dcdf01807cfc476d6c89d65d6d4a9"), looks := false }, kinds := [], alts := [], laidByText := true, laidKinds := [.data, .pinned], laidTests := true, laidLooks := .later }
def FnValidNameIsAlreadyCleanCardSaid : Prop := Claim7.holds Tryd.pinned (.plain (OpenSpec.ofChange fnValidNameIsAlreadyCleanSpec)) fnValidNameIsAlreadyCleanCard
end Rows
end Go.Proofs.Qxb6002464aDoor
