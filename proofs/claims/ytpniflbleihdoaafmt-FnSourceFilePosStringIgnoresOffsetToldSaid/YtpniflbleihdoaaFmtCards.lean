/-
  DERIVED. GIVEN WITH THE SEED: THE CARDS: each row of YtpniflbleihdoaaFmtRows.lean that lists a variable, with what it lists TIED to the program's text (the seventh form; the later family's looks); each row that meets fmt, with fmt's text TOLD by the authors' own Lean function (tested against real Go, not proved from fmt's source: count such statements apart). THE CARD IS WHAT COUNTS. Prove the row's statement (the work); the ties are given (YtpniflbleihdoaaFmtTie.lean); close each card by the builder's one call (the guide's Derived/Test/ToyasCard.lean, 'card_holds'). Laid BY PROGRAM, IN A SANDBOX (cutbox-door.mjs). By AI agents, Wed Nov 11 2026. No macro, syntax, notation, axiom, sorry.
-/
import Derived.Test.YtpniflbleihdoaaFmtRows
import GoSem.ClaimSeven
namespace Go.Proofs.YtpniflbleihdoaaFmt
namespace Rows

/-- THE TOLD CARD OF 'n002_87.FnSourceFilePosStringIgnoresOffset'. -/
def fnSourceFilePosStringIgnoresOffsetCard : Claim7 := { stood := { row := fnSourceFilePosStringIgnoresOffsetRow, standIns := [], harness := (true, "560be529e61b05836c46f75935b78a64f4e1e77e26dc38bbcfd8e36132ac769f"), looks := false }, told := true, goes := false }
def FnSourceFilePosStringIgnoresOffsetToldSaid : Prop := Claim7.holds Tryf.pinned (.plain (OpenSpec.ofChange fnSourceFilePosStringIgnoresOffsetSpec)) fnSourceFilePosStringIgnoresOffsetCard
/-- ITS FALSE NEIGHBOUR. Refute it at one input. -/
def FnSourceFilePosStringIgnoresOffsetToldWrongFalsely : Prop := Claim7.holds Tryf.pinned (.plain (OpenSpec.ofChange fnSourceFilePosStringIgnoresOffsetWrong)) fnSourceFilePosStringIgnoresOffsetCard
end Rows
end Go.Proofs.YtpniflbleihdoaaFmt
