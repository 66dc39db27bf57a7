/-
  DERIVED. GIVEN WITH THE SEED: THE CARDS: each row of YtpdfompeoceklaaFmtRows.lean that lists a variable, with what it lists TIED to the program's text (the seventh form; the later family's looks); each row that meets fmt, with fmt's text TOLD by the authors' own Lean function (tested against real Go, not proved from fmt's source: count such statements apart). THE CARD IS WHAT COUNTS. Prove the row's statement (the work); the ties are given (YtpdfompeoceklaaFmtTie.lean); close each card by the builder's one call (the guide's Derived/Test/ToyasCard.lean, 'card_holds'). Laid BY PROGRAM, IN A SANDBOX (cutbox-door.mjs). By AI agents, Wed Nov 11 2026. No macro, syntax, notation, axiom, sorry.
-/
import Derived.Test.YtpdfompeoceklaaFmtRows
import GoSem.ClaimSeven
namespace Go.Proofs.YtpdfompeoceklaaFmt
namespace Rows

/-- THE TOLD AND TIED CARD OF 'n002_74.FnScanNumberRescanLiteral'. -/
def fnScanNumberRescanLiteralCard : Claim7 := { stood := { row := fnScanNumberRescanLiteralRow, standIns := [], harness := (true, "93c252fc218a76fbdda70e4e2dfff994d0d299fa222f69cfe758bab8a43edafa"), looks := false }, told := true, laidByText := true, laidKinds := [.data, .pinned], laidTests := true, laidLooks := .later, goes := false }
def FnScanNumberRescanLiteralToldSaid : Prop := Claim7.holds Tryf.pinned (.plain (OpenSpec.ofChange fnScanNumberRescanLiteralSpec)) fnScanNumberRescanLiteralCard
/-- ITS FALSE NEIGHBOUR. Refute it at one input. -/
def FnScanNumberRescanLiteralToldWrongFalsely : Prop := Claim7.holds Tryf.pinned (.plain (OpenSpec.ofChange fnScanNumberRescanLiteralWrong)) fnScanNumberRescanLiteralCard

/-- THE TOLD AND TIED CARD OF 'n002_114.FnScanStringMatchesEndModel'. -/
def fnScanStringMatchesEndModelCard : Claim7 := { stood := { row := fnScanStringMatchesEndModelRow, standIns := [], harness := (true, "93c252fc218a76fbdda70e4e2dfff994d0d299fa222f69cfe758bab8a43edafa"), looks := false }, told := true, laidByText := true, laidKinds := [.data, .pinned], laidTests := true, laidLooks := .later, goes := false }
def FnScanStringMatchesEndModelToldSaid : Prop := Claim7.holds Tryf.pinned (.plain (OpenSpec.ofChange fnScanStringMatchesEndModelSpec)) fnScanStringMatchesEndModelCard
/-- ITS FALSE NEIGHBOUR. Refute it at one input. -/
def FnScanStringMatchesEndModelToldWrongFalsely : Prop := Claim7.holds Tryf.pinned (.plain (OpenSpec.ofChange fnScanStringMatchesEndModelWrong)) fnScanStringMatchesEndModelCard

/-- THE TOLD AND TIED CARD OF 'n002_114.FnScanRawStringMatchesModel'. -/
def fnScanRawStringMatchesModelCard : Claim7 := { stood := { row := fnScanRawStringMatchesModelRow, standIns := [], harness := (true, "93c252fc218a76fbdda70e4e2dfff994d0d299fa222f69cfe758bab8a43edafa"), looks := false }, told := true, laidByText := true, laidKinds := [.data, .pinned], laidTests := true, laidLooks := .later, goes := false }
def FnScanRawStringMatchesModelToldSaid : Prop := Claim7.holds Tryf.pinned (.plain (OpenSpec.ofChange fnScanRawStringMatchesModelSpec)) fnScanRawStringMatchesModelCard
/-- ITS FALSE NEIGHBOUR. Refute it at one input. -/
def FnScanRawStringMatchesModelToldWrongFalsely : Prop := Claim7.holds Tryf.pinned (.plain (OpenSpec.ofChange fnScanRawStringMatchesModelWrong)) fnScanRawStringMatchesModelCard

/-- THE TOLD AND TIED CARD OF 'n002_74.FnScanRuneAcceptsExactlyOneChar'. -/
def fnScanRuneAcceptsExactlyOneCharCard : Claim7 := { stood := { row := fnScanRuneAcceptsExactlyOneCharRow, standIns := [], harness := (true, "93c252fc218a76fbdda70e4e2dfff994d0d299fa222f69cfe758bab8a43edafa"), looks := false }, told := true, laidByText := true, laidKinds := [.data, .pinned], laidTests := true, laidLooks := .later, goes := false }
def FnScanRuneAcceptsExactlyOneCharToldSaid : Prop := Claim7.holds Tryf.pinned (.plain (OpenSpec.ofChange fnScanRuneAcceptsExactlyOneCharSpec)) fnScanRuneAcceptsExactlyOneCharCard
/-- ITS FALSE NEIGHBOUR. Refute it at one input. -/
def FnScanRuneAcceptsExactlyOneCharToldWrongFalsely : Prop := Claim7.holds Tryf.pinned (.plain (OpenSpec.ofChange fnScanRuneAcceptsExactlyOneCharWrong)) fnScanRuneAcceptsExactlyOneCharCard
end Rows
end Go.Proofs.YtpdfompeoceklaaFmt
