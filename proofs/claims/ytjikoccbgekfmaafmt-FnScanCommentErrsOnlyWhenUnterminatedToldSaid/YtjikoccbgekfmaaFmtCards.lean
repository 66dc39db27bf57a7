/-
  DERIVED. GIVEN WITH THE SEED: THE CARDS: each row of YtjikoccbgekfmaaFmtRows.lean that lists a variable, with what it lists TIED to the program's text (the seventh form; the later family's looks); each row that meets fmt, with fmt's text TOLD by the authors' own Lean function (tested against real Go, not proved from fmt's source: count such statements apart). THE CARD IS WHAT COUNTS. Prove the row's statement (the work); the ties are given (YtjikoccbgekfmaaFmtTie.lean); close each card by the builder's one call (the guide's Derived/Test/ToyasCard.lean, 'card_holds'). Laid BY PROGRAM, IN A SANDBOX (cutbox-door.mjs). By AI agents, Wed Nov 11 2026. No macro, syntax, notation, axiom, sorry.
-/
import Derived.Test.YtjikoccbgekfmaaFmtRows
import GoSem.ClaimSeven
namespace Go.Proofs.YtjikoccbgekfmaaFmt
namespace Rows

/-- THE TOLD AND TIED CARD OF 'n002_140.FnScanIdentifierIgnoresTextAfterStop'. -/
def fnScanIdentifierIgnoresTextAfterStopCard : Claim7 := { stood := { row := fnScanIdentifierIgnoresTextAfterStopRow, standIns := [], harness := (true, "7f235df4a8fd3888c4477d7ee9c381ab3d3bd493b9cd540fdc5a8dbd490b1b70"), looks := false }, told := true, laidByText := true, laidKinds := [.data, .data, .pinned, .pinned, .pinned], laidTests := true, laidLooks := .later, goes := false }
def FnScanIdentifierIgnoresTextAfterStopToldSaid : Prop := Claim7.holds Tryf.pinned (.plain (OpenSpec.ofChange fnScanIdentifierIgnoresTextAfterStopSpec)) fnScanIdentifierIgnoresTextAfterStopCard
/-- ITS FALSE NEIGHBOUR. Refute it at one input. -/
def FnScanIdentifierIgnoresTextAfterStopToldWrongFalsely : Prop := Claim7.holds Tryf.pinned (.plain (OpenSpec.ofChange fnScanIdentifierIgnoresTextAfterStopWrong)) fnScanIdentifierIgnoresTextAfterStopCard

/-- THE TOLD AND TIED CARD OF 'n002_140.FnScanCommentErrsOnlyWhenUnterminated'. -/
def fnScanCommentErrsOnlyWhenUnterminatedCard : Claim7 := { stood := { row := fnScanCommentErrsOnlyWhenUnterminatedRow, standIns := [], harness := (true, "7f235df4a8fd3888c4477d7ee9c381ab3d3bd493b9cd540fdc5a8dbd490b1b70"), looks := false }, told := true, laidByText := true, laidKinds := [.data, .pinned], laidTests := true, laidLooks := .later, goes := false }
def FnScanCommentErrsOnlyWhenUnterminatedToldSaid : Prop := Claim7.holds Tryf.pinned (.plain (OpenSpec.ofChange fnScanCommentErrsOnlyWhenUnterminatedSpec)) fnScanCommentErrsOnlyWhenUnterminatedCard
/-- ITS FALSE NEIGHBOUR. Refute it at one input. -/
def FnScanCommentErrsOnlyWhenUnterminatedToldWrongFalsely : Prop := Claim7.holds Tryf.pinned (.plain (OpenSpec.ofChange fnScanCommentErrsOnlyWhenUnterminatedWrong)) fnScanCommentErrsOnlyWhenUnterminatedCard
end Rows
end Go.Proofs.YtjikoccbgekfmaaFmt
