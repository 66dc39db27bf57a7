/-
  DERIVED. GIVEN WITH THE SEED: THE CARDS: each row of YtcaolpebjpilgaaFmtRows.lean that lists a variable, with what it lists TIED to the program's text (the seventh form; the later family's looks); each row that meets fmt, with fmt's text TOLD by the authors' own Lean function (tested against real Go, not proved from fmt's source: count such statements apart). THE CARD IS WHAT COUNTS. Prove the row's statement (the work); the ties are given (YtcaolpebjpilgaaFmtTie.lean); close each card by the builder's one call (the guide's Derived/Test/ToyasCard.lean, 'card_holds'). Laid BY PROGRAM, IN A SANDBOX (cutbox-door.mjs). By AI agents, Wed Nov 11 2026. No macro, syntax, notation, axiom, sorry.
-/
import Derived.Test.YtcaolpebjpilgaaFmtRows
import GoSem.ClaimSeven
namespace Go.Proofs.YtcaolpebjpilgaaFmt
namespace Rows

/-- THE TOLD AND TIED CARD OF 'n002_85.FnNewScannerInitialErrorCount'. -/
def fnNewScannerInitialErrorCountCard : Claim7 := { stood := { row := fnNewScannerInitialErrorCountRow, standIns := [], harness := (true, "cf9af73b7a2ba1cbf25d92da35a4afb9db52e98659f8ff41d6707649e8f62ab7"), looks := false }, told := true, laidByText := true, laidKinds := [.data, .pinned], laidTests := true, laidLooks := .later, goes := false }
def FnNewScannerInitialErrorCountToldSaid : Prop := Claim7.holds Tryf.pinned (.plain (OpenSpec.ofChange fnNewScannerInitialErrorCountSpec)) fnNewScannerInitialErrorCountCard
/-- ITS FALSE NEIGHBOUR. Refute it at one input. -/
def FnNewScannerInitialErrorCountToldWrongFalsely : Prop := Claim7.holds Tryf.pinned (.plain (OpenSpec.ofChange fnNewScannerInitialErrorCountWrong)) fnNewScannerInitialErrorCountCard

/-- THE TOLD AND TIED CARD OF 'n002_96.FnNextWalksDecodedCharacters'. -/
def fnNextWalksDecodedCharactersCard : Claim7 := { stood := { row := fnNextWalksDecodedCharactersRow, standIns := [], harness := (true, "cf9af73b7a2ba1cbf25d92da35a4afb9db52e98659f8ff41d6707649e8f62ab7"), looks := false }, told := true, laidByText := true, laidKinds := [.data, .pinned], laidTests := true, laidLooks := .later, goes := false }
def FnNextWalksDecodedCharactersToldSaid : Prop := Claim7.holds Tryf.pinned (.plain (OpenSpec.ofChange fnNextWalksDecodedCharactersSpec)) fnNextWalksDecodedCharactersCard
/-- ITS FALSE NEIGHBOUR. Refute it at one input. -/
def FnNextWalksDecodedCharactersToldWrongFalsely : Prop := Claim7.holds Tryf.pinned (.plain (OpenSpec.ofChange fnNextWalksDecodedCharactersWrong)) fnNextWalksDecodedCharactersCard

/-- THE TOLD AND TIED CARD OF 'n002_96.FnErrorCountCountsIllegalCharactersRead'. -/
def fnErrorCountCountsIllegalCharactersReadCard : Claim7 := { stood := { row := fnErrorCountCountsIllegalCharactersReadRow, standIns := [], harness := (true, "cf9af73b7a2ba1cbf25d92da35a4afb9db52e98659f8ff41d6707649e8f62ab7"), looks := false }, told := true, laidByText := true, laidKinds := [.data, .pinned], laidTests := true, laidLooks := .later, goes := false }
def FnErrorCountCountsIllegalCharactersReadToldSaid : Prop := Claim7.holds Tryf.pinned (.plain (OpenSpec.ofChange fnErrorCountCountsIllegalCharactersReadSpec)) fnErrorCountCountsIllegalCharactersReadCard
/-- ITS FALSE NEIGHBOUR. Refute it at one input. -/
def FnErrorCountCountsIllegalCharactersReadToldWrongFalsely : Prop := Claim7.holds Tryf.pinned (.plain (OpenSpec.ofChange fnErrorCountCountsIllegalCharactersReadWrong)) fnErrorCountCountsIllegalCharactersReadCard

/-- THE TOLD AND TIED CARD OF 'n002_114.FnSkipWhitespaceStopsAtFirstNonSpace'. -/
def fnSkipWhitespaceStopsAtFirstNonSpaceCard : Claim7 := { stood := { row := fnSkipWhitespaceStopsAtFirstNonSpaceRow, standIns := [], harness := (true, "cf9af73b7a2ba1cbf25d92da35a4afb9db52e98659f8ff41d6707649e8f62ab7"), looks := false }, told := true, laidByText := true, laidKinds := [.data, .pinned], laidTests := true, laidLooks := .later, goes := false }
def FnSkipWhitespaceStopsAtFirstNonSpaceToldSaid : Prop := Claim7.holds Tryf.pinned (.plain (OpenSpec.ofChange fnSkipWhitespaceStopsAtFirstNonSpaceSpec)) fnSkipWhitespaceStopsAtFirstNonSpaceCard
/-- ITS FALSE NEIGHBOUR. Refute it at one input. -/
def FnSkipWhitespaceStopsAtFirstNonSpaceToldWrongFalsely : Prop := Claim7.holds Tryf.pinned (.plain (OpenSpec.ofChange fnSkipWhitespaceStopsAtFirstNonSpaceWrong)) fnSkipWhitespaceStopsAtFirstNonSpaceCard

/-- THE TOLD AND TIED CARD OF 'n002_96.FnPeekIsFirstByteOfFollowingCharacter'. -/
def fnPeekIsFirstByteOfFollowingCharacterCard : Claim7 := { stood := { row := fnPeekIsFirstByteOfFollowingCharacterRow, standIns := [], harness := (true, "cf9af73b7a2ba1cbf25d92da35a4afb9db52e98659f8ff41d6707649e8f62ab7"), looks := false }, told := true, laidByText := true, laidKinds := [.data, .pinned], laidTests := true, laidLooks := .later, goes := false }
def FnPeekIsFirstByteOfFollowingCharacterToldSaid : Prop := Claim7.holds Tryf.pinned (.plain (OpenSpec.ofChange fnPeekIsFirstByteOfFollowingCharacterSpec)) fnPeekIsFirstByteOfFollowingCharacterCard
/-- ITS FALSE NEIGHBOUR. Refute it at one input. -/
def FnPeekIsFirstByteOfFollowingCharacterToldWrongFalsely : Prop := Claim7.holds Tryf.pinned (.plain (OpenSpec.ofChange fnPeekIsFirstByteOfFollowingCharacterWrong)) fnPeekIsFirstByteOfFollowingCharacterCard
end Rows
end Go.Proofs.YtcaolpebjpilgaaFmt
