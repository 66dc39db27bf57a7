/-
  DERIVED. GIVEN WITH THE SEED: THE CARDS: each row of YtebahaclnbjnoaaDoorRows.lean that lists a variable, with what it lists TIED to the program's text (the seventh form; the later family's looks); each row that meets fmt, with fmt's text TOLD by the authors' own Lean function (tested against real Go, not proved from fmt's source: count such statements apart). THE CARD IS WHAT COUNTS. Prove the row's statement (the work); the ties are given (YtebahaclnbjnoaaDoorTie.lean); close each card by the builder's one call (the guide's Derived/Test/ToyasCard.lean, 'card_holds'). Laid BY PROGRAM, IN A SANDBOX (cutbox-door.mjs). By AI agents, Wed Nov 11 2026. No macro, syntax, notation, axiom, sorry.
-/
import Derived.Test.YtebahaclnbjnoaaDoorRows
import GoSem.ClaimSeven
namespace Go.Proofs.YtebahaclnbjnoaaDoor
namespace Rows

/-- THE TIED CARD OF 'n002_6.FnStringInjective'. -/
def fnStringInjectiveCard : Claim7 := { stood := { row := fnStringInjectiveRow, standIns := [], harness := (true, "1d5073d4642b81c98babca076bc46aa2fad4bd336ed8506007c0cf1a2eb68ef9"), looks := false }, kinds := [], alts := [], laidByText := true, laidKinds := [.data, .data, .data, .data], laidTests := true, laidLooks := .later }
def FnStringInjectiveCardSaid : Prop := Claim7.holds Tryd.pinned (.plain (OpenSpec.ofChange fnStringInjectiveSpec)) fnStringInjectiveCard

/-- THE TIED CARD OF 'n002_88.FnIsLetterNeverDigitNorBelowA'. -/
def fnIsLetterNeverDigitNorBelowACard : Claim7 := { stood := { row := fnIsLetterNeverDigitNorBelowARow, standIns := [], harness := (true, "1d5073d4642b81c98babca076bc46aa2fad4bd336ed8506007c0cf1a2eb68ef9"), looks := false }, kinds := [], alts := [], laidByText := true, laidKinds := [.data, .pinned, .pinned], laidTests := true, laidLooks := .later }
def FnIsLetterNeverDigitNorBelowACardSaid : Prop := Claim7.holds Tryd.pinned (.plain (OpenSpec.ofChange fnIsLetterNeverDigitNorBelowASpec)) fnIsLetterNeverDigitNorBelowACard

/-- THE TIED CARD OF 'n002_6.FnPrecedenceBoundsAndAssign'. -/
def fnPrecedenceBoundsAndAssignCard : Claim7 := { stood := { row := fnPrecedenceBoundsAndAssignRow, standIns := [], harness := (true, "1d5073d4642b81c98babca076bc46aa2fad4bd336ed8506007c0cf1a2eb68ef9"), looks := false }, kinds := [], alts := [], laidByText := true, laidKinds := [.data, .data, .data, .data], laidTests := true, laidLooks := .later }
def FnPrecedenceBoundsAndAssignCardSaid : Prop := Claim7.holds Tryd.pinned (.plain (OpenSpec.ofChange fnPrecedenceBoundsAndAssignSpec)) fnPrecedenceBoundsAndAssignCard

/-- THE SECOND FORM's CARD OF 'n002_6.FnStringInjective'. -/
def fnStringInjectiveUptoCard : Claim7 := { stood := { row := fnStringInjectiveUptoRow, standIns := [], harness := (true, "1d5073d4642b81c98babca076bc46aa2fad4bd336ed8506007c0cf1a2eb68ef9"), looks := false }, kinds := [], alts := [], laidByText := true, laidKinds := [.data, .data, .data, .data], laidTests := true, laidLooks := .later }
def FnStringInjectiveUptoCardSaid : Prop := Claim7.holds Tryd.pinned (.plain (OpenSpec.upto fnStringInjectiveSpec)) fnStringInjectiveUptoCard

/-- THE SECOND FORM's CARD OF 'n002_88.FnIsLetterNeverDigitNorBelowA'. -/
def fnIsLetterNeverDigitNorBelowAUptoCard : Claim7 := { stood := { row := fnIsLetterNeverDigitNorBelowAUptoRow, standIns := [], harness := (true, "1d5073d4642b81c98babca076bc46aa2fad4bd336ed8506007c0cf1a2eb68ef9"), looks := false }, kinds := [], alts := [], laidByText := true, laidKinds := [.data, .pinned, .pinned], laidTests := true, laidLooks := .later }
def FnIsLetterNeverDigitNorBelowAUptoCardSaid : Prop := Claim7.holds Tryd.pinned (.plain (OpenSpec.upto fnIsLetterNeverDigitNorBelowASpec)) fnIsLetterNeverDigitNorBelowAUptoCard

/-- THE SECOND FORM's CARD OF 'n002_6.FnPrecedenceBoundsAndAssign'. -/
def fnPrecedenceBoundsAndAssignUptoCard : Claim7 := { stood := { row := fnPrecedenceBoundsAndAssignUptoRow, standIns := [], harness := (true, "1d5073d4642b81c98babca076bc46aa2fad4bd336ed8506007c0cf1a2eb68ef9"), looks := false }, kinds := [], alts := [], laidByText := true, laidKinds := [.data, .data, .data, .data], laidTests := true, laidLooks := .later }
def FnPrecedenceBoundsAndAssignUptoCardSaid : Prop := Claim7.holds Tryd.pinned (.plain (OpenSpec.upto fnPrecedenceBoundsAndAssignSpec)) fnPrecedenceBoundsAndAssignUptoCard
end Rows
end Go.Proofs.YtebahaclnbjnoaaDoor
