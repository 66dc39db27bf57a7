/-
  DERIVED. GIVEN WITH THE SEED: THE CARDS: each row of YtebahaclnbjnoaaFmtRows.lean that lists a variable, with what it lists TIED to the program's text (the seventh form; the later family's looks); each row that meets fmt, with fmt's text TOLD by the authors' own Lean function (tested against real Go, not proved from fmt's source: count such statements apart). THE CARD IS WHAT COUNTS. Prove the row's statement (the work); the ties are given (YtebahaclnbjnoaaFmtTie.lean); close each card by the builder's one call (the guide's Derived/Test/ToyasCard.lean, 'card_holds'). Laid BY PROGRAM, IN A SANDBOX (cutbox-door.mjs). By AI agents, Wed Nov 11 2026. No macro, syntax, notation, axiom, sorry.
-/
import Derived.Test.YtebahaclnbjnoaaFmtRows
import GoSem.ClaimSeven
namespace Go.Proofs.YtebahaclnbjnoaaFmt
namespace Rows

/-- THE TOLD AND TIED CARD OF 'n002_88.FnSwitch2ConsumesLeadingEqualsRun'. -/
def fnSwitch2ConsumesLeadingEqualsRunCard : Claim7 := { stood := { row := fnSwitch2ConsumesLeadingEqualsRunRow, standIns := [], harness := (true, "33c262cde3a9d25d136c1129c9951d46bdb8ea4f643290859560d79ed583021c"), looks := false }, told := true, laidByText := true, laidKinds := [.data, .pinned], laidTests := true, laidLooks := .later, goes := false }
def FnSwitch2ConsumesLeadingEqualsRunToldSaid : Prop := Claim7.holds Tryf.pinned (.plain (OpenSpec.ofChange fnSwitch2ConsumesLeadingEqualsRunSpec)) fnSwitch2ConsumesLeadingEqualsRunCard
/-- ITS FALSE NEIGHBOUR. Refute it at one input. -/
def FnSwitch2ConsumesLeadingEqualsRunToldWrongFalsely : Prop := Claim7.holds Tryf.pinned (.plain (OpenSpec.ofChange fnSwitch2ConsumesLeadingEqualsRunWrong)) fnSwitch2ConsumesLeadingEqualsRunCard

/-- THE TOLD AND TIED CARD OF 'n002_88.FnSwitch3RefinesSwitch2'. -/
def fnSwitch3RefinesSwitch2Card : Claim7 := { stood := { row := fnSwitch3RefinesSwitch2Row, standIns := [], harness := (true, "33c262cde3a9d25d136c1129c9951d46bdb8ea4f643290859560d79ed583021c"), looks := false }, told := true, laidByText := true, laidKinds := [.data, .pinned], laidTests := true, laidLooks := .later, goes := false }
def FnSwitch3RefinesSwitch2ToldSaid : Prop := Claim7.holds Tryf.pinned (.plain (OpenSpec.ofChange fnSwitch3RefinesSwitch2Spec)) fnSwitch3RefinesSwitch2Card
/-- ITS FALSE NEIGHBOUR. Refute it at one input. -/
def FnSwitch3RefinesSwitch2ToldWrongFalsely : Prop := Claim7.holds Tryf.pinned (.plain (OpenSpec.ofChange fnSwitch3RefinesSwitch2Wrong)) fnSwitch3RefinesSwitch2Card

/-- THE TOLD AND TIED CARD OF 'n002_88.FnSwitch4ExtendsSwitch3'. -/
def fnSwitch4ExtendsSwitch3Card : Claim7 := { stood := { row := fnSwitch4ExtendsSwitch3Row, standIns := [], harness := (true, "33c262cde3a9d25d136c1129c9951d46bdb8ea4f643290859560d79ed583021c"), looks := false }, told := true, laidByText := true, laidKinds := [.data, .pinned], laidTests := true, laidLooks := .later, goes := false }
def FnSwitch4ExtendsSwitch3ToldSaid : Prop := Claim7.holds Tryf.pinned (.plain (OpenSpec.ofChange fnSwitch4ExtendsSwitch3Spec)) fnSwitch4ExtendsSwitch3Card
/-- ITS FALSE NEIGHBOUR. Refute it at one input. -/
def FnSwitch4ExtendsSwitch3ToldWrongFalsely : Prop := Claim7.holds Tryf.pinned (.plain (OpenSpec.ofChange fnSwitch4ExtendsSwitch3Wrong)) fnSwitch4ExtendsSwitch3Card
end Rows
end Go.Proofs.YtebahaclnbjnoaaFmt
